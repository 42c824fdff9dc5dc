/- spec: fieldOf9. -/
import Derived.Test.YtjbbapodcngnaaaDoorSpD
import Derived.Test.YtjbbapodcngnaaaDoorHdrE
namespace Go.Proofs.YtjbbapodcngnaaaDoor
open Go.RowKit Hdr

/-- A row of strings in block g. -/
def Strs (w : World) (g : Nat) (ls : List (List UInt8)) : Prop := ∃ cs f, w.heap[g]? = some (.cells cs 9 f) ∧ cs.toList.take ls.length = ls.map str
theorem Strs.lt {w : World} {g : Nat} {ls : List (List UInt8)} (h : Strs w g ls) : g < w.heap.size := by
  obtain ⟨cs, f, h, _⟩ := h
  exact (Array.getElem?_eq_some_iff.1 h).1
theorem Strs.keep {S : Nat → Prop} {w w' : World} {g : Nat} {ls : List (List UInt8)} (h : Strs w g ls) (k : Keeps S w w') (hS : ¬ S g) : Strs w' g ls := by
  have hl := h.lt
  obtain ⟨cs, f, h, h2⟩ := h
  exact ⟨cs, f, (k.block g hl hS).trans h, h2⟩
theorem Strs.cell {w : World} {g : Nat} {ls : List (List UInt8)} (h : Strs w g ls) {i : Nat} (hi : i < ls.length) : w.cell? ⟨g, i, none⟩ = some (str ls[i]) := by
  obtain ⟨cs, f, h, h2⟩ := h
  have h3 : (cs.toList.take ls.length)[i]? = some (str ls[i]) := by rw [h2]; simp [hi]
  rw [List.getElem?_take, if_pos hi] at h3
  simp only [World.cell?, h]
  simpa using h3

theorem str_app (a b : List UInt8) : (⟨a.toArray⟩ : ByteArray) ++ ⟨b.toArray⟩ = ⟨(a ++ b).toArray⟩ := by
  apply ByteArray.ext
  simp [ByteArray.data_append]

/-- A field out of its block. -/
theorem load_f9 (w : World) (g : Nat) (x y z u : Value) (h : Blk w g [x, y, z, u] 60) : (loadVar 60 ⟨g, 0, none⟩).run Tryd.prog w = .ok (.agg #[x, y, z, u]) w :=
  run_loadVar_row w g 60 60 #[x, y, z, u] (0, 0) _ h Tryd.underlying60 rfl (by kernel_rfl)

/-- What fieldOf9 leaves: a struct and a Bool. -/
def F9Post (l0 : List UInt8) (ls : List (List UInt8)) (w : World) (e : Ending) (w' : World) : Prop :=
  (if (tillC l0).length = l0.length then e = .returned (.tuple #[.agg #[str [], str [], str [], .bool false], .bool false])
   else e = .returned (.tuple #[.agg #[str (if (trim (tillC l0)).all keyb = true then canon (trim (tillC l0)) else []), str (vals [] (l0.drop ((tillC l0).length + 1) :: ls)), str (raws (l0 :: ls)), .bool true], .bool ((trim (tillC l0)).all keyb)])) ∧ Keeps No w w'

set_option maxRecDepth 100000 in
set_option maxHeartbeats 1000000 in
theorem fieldOf9_any (g cap : Nat) (l0 : List UInt8) (ls : List (List UInt8)) (n : Nat) (hn : n = ls.length + 1) (w : World) (h : Strs w g (l0 :: ls)) (hlen : (raws (l0 :: ls)).length ≤ 1000000) (hnn : n ≤ 1000000) :
    Calls Tryd.prog 23 #[.slice (some ⟨g, 0, none⟩) n cap] w (F9Post l0 ls w) := by
  have H := Lib.hid h
  have HN := Lib.hid hn
  have hl0 : l0.length ≤ 1000000 := by unfold raws at hlen; simp at hlen; omega
  have hpos : 0 < n := by omega
  have hposi : (0 : Int) < (n : Int) := by omega
  have hgl := h.lt
  have c0 := (h.keep ((Keeps.refl No w).alloc (.cells #[.string ⟨#[]⟩, .string ⟨#[]⟩, .string ⟨#[]⟩, .bool false] 60)) (fun h => h)).cell (i := 0) (by simp)
  simp only [List.getElem_cons_zero] at c0
  have hll := str_len l0
  clear h hn
  go_enter Tryd.func23, Tryd.ntmps23
  go_upto_block 0 with (fail)
  have hB0 := Blk.new w [.string ⟨#[]⟩, .string ⟨#[]⟩, .string ⟨#[]⟩, .bool false] 60
  have K0 : Keeps No w (w.alloc (.cells #[.string ⟨#[]⟩, .string ⟨#[]⟩, .string ⟨#[]⟩, .bool false] 60)) := (Keeps.refl No w).alloc _
  change Code.wp _ _ _ _ _ at *
  generalize (w.alloc (.cells #[.string ⟨#[]⟩, .string ⟨#[]⟩, .string ⟨#[]⟩, .bool false] 60)) = w1 at *
  go_cut [4] (fun s4 wx => s4 = .int .i64 (tillC l0).length ∧ w1 = wx)
  case first =>
    go_wp2
    go_loopg [4] l0.length (fun n s4 wr => ∃ j : Nat, s4 = .int .i64 j ∧ j + n = l0.length ∧ (58 : UInt8) ∉ l0.take j ∧ w1 = wr)
    case atStart => exact ⟨0, rfl, by omega, by simp, rfl⟩
    case round =>
      obtain ⟨j, rfl, hjn, hjc, rfl⟩ := hrel
      have HJC := Lib.hid hjc
      have HJN := Lib.hid hjn
      have hjl : j ≤ l0.length := by omega
      clear hjc hjn
      by_cases hj : j < l0.length
      · have hx := str_get l0 j hj
        have hat := tillC_at hj HJC.out
        generalize l0[j] = x at *
        have HAT := Lib.hid hat
        have hjj : (j : Int) < (l0.length : Int) := by omega
        clear hat
        by_cases hxc : x = 58
        · have e1 : ((x.toNat : Int) == 58) = true := by rw [hxc]; rfl
          have HXC := Lib.hid hxc
          clear hxc
          go_wp2
          go_meet
          exact ⟨by rw [HAT.out.2 HXC.out], rfl⟩
        · have e1 : ((x.toNat : Int) == 58) = false := by
            simp only [beq_eq_false_iff_ne, ne_eq]
            intro h
            exact hxc (UInt8.toNat.inj (by show x.toNat = 58; omega))
          have HXC := Lib.hid hxc
          clear hxc
          go_wp2
          go_roundg (gk - 1)
          case measure => have := HJN.out; omega
          case rel => exact ⟨j + 1, by simp, by have := HJN.out; omega, HAT.out.1 HXC.out, rfl⟩
      · have hjl2 : j = l0.length := by omega
        have hah : (tillC l0).length = j := by
          have := HJC.out
          rw [hjl2, List.take_length] at this
          rw [tillC_none this, hjl2]
        have e1 : decide (j < l0.length) = false := decide_eq_false hj
        have e1' : decide ((j : Int) < (l0.length : Int)) = false := decide_eq_false (by omega)
        have HAH := Lib.hid hah
        clear hah hjl2
        go_wp2
        go_meet
        exact ⟨by rw [HAH.out], rfl⟩
  case rest =>
    obtain ⟨rfl, rfl⟩ := hcut
    have fz := hB0.frozen
    have d0 : w1.cell? ⟨w.heap.size, 0, none⟩ = some (.string ⟨#[]⟩) := hB0.cell 0
    have d1 : w1.cell? ⟨w.heap.size, 1, none⟩ = some (.string ⟨#[]⟩) := hB0.cell 1
    have d2 : w1.cell? ⟨w.heap.size, 2, none⟩ = some (.string ⟨#[]⟩) := hB0.cell 2
    have d3 : w1.cell? ⟨w.heap.size, 3, none⟩ = some (.bool false) := hB0.cell 3
    have HB0 := Lib.hid hB0
    have hal := tillC_len l0
    clear hB0
    by_cases hat : (tillC l0).length = l0.length
    · have HAT := Lib.hid hat
      rw [hat]
      clear hat
      go_wp2
      have hH7 := ((((HB0.out.set 0 (.string ⟨#[]⟩)).set 1 (.string ⟨#[]⟩)).set 2 (.string ⟨#[]⟩)).set 3 (.bool false))
      refine bodyPost_ret (results_row_tmp rfl _ _ w.heap.size _ rfl (load_f9 _ _ _ _ _ _ hH7)) rfl ?_
      refine ⟨by rw [if_pos HAT.out]; rfl, ?_⟩
      refine (((((K0.of_no (T := In [w.heap.size])).setCell (.inl (by simp [In])) _).setCell (.inl (by simp [In])) _).setCell (.inl (by simp [In])) _).setCell (.inl (by simp [In])) _).mono (fun i hi h => by simp [In] at h; omega)
    · have hlt : (tillC l0).length < l0.length := by omega
      have htake := tillC_take l0
      have hcut1 := str_cut l0 0 (tillC l0).length
      rw [List.drop_zero, Nat.sub_zero, htake] at hcut1
      have hcut2 := str_cut l0 ((tillC l0).length + 1) l0.length
      have htl : (l0.drop ((tillC l0).length + 1)).take (l0.length - ((tillC l0).length + 1)) = l0.drop ((tillC l0).length + 1) := List.take_of_length_le (by simp)
      rw [htl] at hcut2
      have HAT := Lib.hid hat
      have e1 : (((tillC l0).length : Int) == (l0.length : Int)) = false := by simp; omega
      have e1' : ((tillC l0).length == l0.length) = false := by simp; omega
      have e2 : ((tillC l0).length : Int) ≤ (l0.length : Int) := by omega
      have e3 : (0 : Int) ≤ ((tillC l0).length : Int) := by omega
      have H9 := key9_any (tillC l0) w1 (by omega)
      generalize hTT : trim (tillC l0) = T at *
      have HTT := Lib.hid hTT
      clear hTT
      have HK := Lib.hid H9
      have HC2 := Lib.hid hcut2
      clear H9 hat htake htl hcut2
      go_wp2_with (fail)
      refine HK.out.mono ?_
      rintro e w2 ⟨rfl, K2⟩
      generalize hkk : (if T.all keyb = true then canon T else []) = kk
      generalize hok : T.all keyb = ok
      have HKK := Lib.hid hkk
      have HOK := Lib.hid hok
      have hB2 := HB0.out.keep_no K2
      have fz2 := hB2.frozen
      have d20 : w2.cell? ⟨w.heap.size, 0, none⟩ = some (.string ⟨#[]⟩) := hB2.cell 0
      have HB2 := Lib.hid hB2
      have hH2 := Lib.hid ((H.out.keep K0 (fun h => h)).keep K2 (fun h => h))
      clear hkk hok hB2 fz d0 d1 d2 d3 HK c0
      have K02 : Keeps No w w2 := K0.trans' K2
      generalize hA : (tillC l0).length = at_ at *
      have HA := Lib.hid hA
      clear hA
      go_wp2
      go_loopg [42] n (fun q s42 wr => ∃ j : Nat, s42 = .int .i64 j ∧ j + q = n ∧ Blk wr w.heap.size [str kk, str (vals [] ((l0.drop (at_ + 1) :: ls).take j)), str (raws ((l0 :: ls).take j)), .bool false] 60 ∧ Strs wr g (l0 :: ls) ∧ Keeps (Up w.heap.size []) w wr)
      case atStart =>
        refine ⟨0, rfl, by omega, (HB2.out.set 0 (str kk)).to rfl, hH2.out.keep (((Keeps.refl (In [w.heap.size]) w2).setCell (.inl (by simp [In])) _)) (fun h => by simp [In] at h; omega), (K02.of_no).setCell (.inr (Nat.le_refl _)) _⟩
      case round =>
        obtain ⟨j, rfl, hjn, hB, hS, K⟩ := hrel
        have HJN := Lib.hid hjn
        have hj0 : j ≤ n := by omega
        have HB := Lib.hid hB
        have HS := Lib.hid hS
        clear hjn hB hS
        by_cases hj : j < n
        · have hjl : j < (l0 :: ls).length := by have := HN.out; simp; omega
          have hc1 := HS.out.cell hjl
          have fz3 := HB.out.frozen
          have d0 : wr.cell? ⟨w.heap.size, 1, none⟩ = some (str (vals [] ((l0.drop (at_ + 1) :: ls).take j))) := HB.out.cell 1
          have d2 : wr.cell? ⟨w.heap.size, 2, none⟩ = some (str (raws ((l0 :: ls).take j))) := HB.out.cell 2
          have hjj : (j : Int) < (n : Int) := by omega
          have e9 : decide ((j : Int) < (n : Int)) = true := decide_eq_true hjj
          have hrt := raws_take (l0 :: ls) j hjl
          have hrl := raws_le (l0 :: ls) (j + 1)
          rw [hrt] at hrl
          simp only [List.length_append, List.length_cons, List.length_nil, Nat.zero_add, Nat.reduceAdd] at hrl
          have hbd : (raws ((l0 :: ls).take j)).length + ((l0 :: ls)[j].length + 2) ≤ 1000000 := by
            have : (raws (l0 :: ls)).length ≤ 1000000 := hlen
            omega
          have HRT := Lib.hid hrt
          clear hrt hrl
          generalize hR : (l0 :: ls)[j] = R at *
          have HR := Lib.hid hR
          clear hR
          have happ1 := str_app R [13, 10]
          generalize hraw : raws ((l0 :: ls).take j) = rw_ at *
          generalize hval : vals [] ((l0.drop (at_ + 1) :: ls).take j) = vl_ at *
          have happ2 := str_app rw_ (R ++ [13, 10])
          go_upto_if 56 with (fail)
          have hjs : j < (l0.drop (at_ + 1) :: ls).length := by simpa using hjl
          have hvt : vals [] ((l0.drop (at_ + 1) :: ls).take (j + 1)) = vals1 (vals [] ((l0.drop (at_ + 1) :: ls).take j)) ((l0.drop (at_ + 1) :: ls)[j]) := by
            rw [List.take_succ_eq_append_getElem hjs]
            unfold vals
            rw [List.foldl_append]
            rfl
          have hS0 : j = 0 → R = l0 ∧ (l0.drop (at_ + 1) :: ls)[j] = l0.drop (at_ + 1) := fun h => by
            subst h
            exact ⟨HR.out.symm, rfl⟩
          have hS1 : j ≠ 0 → (l0.drop (at_ + 1) :: ls)[j] = R := fun h => by
            have := HR.out
            cases j with
            | zero => exact absurd rfl h
            | succ j => simpa using this
          have hvll : vl_.length ≤ 1000000000 := by
            rw [← hval]
            have h1 := vals_len ((l0.drop (at_ + 1) :: ls).take j) []
            have h2 := raws_le (l0.drop (at_ + 1) :: ls) j
            have h3 : (raws (l0.drop (at_ + 1) :: ls)).length ≤ (raws (l0 :: ls)).length := by simp [raws]
            have h4 : (raws (l0 :: ls)).length ≤ 1000000 := hlen
            simp only [List.length_nil] at h1
            omega
          have HVL := Lib.hid hvll
          clear hvll
          rw [hval] at hvt
          generalize (l0.drop (at_ + 1) :: ls)[j] = Sj at *
          have HVT := Lib.hid hvt
          have HS0 := Lib.hid hS0
          have HS1 := Lib.hid hS1
          clear hvt hS0 hS1 happ1 happ2 hraw hval
          go_cut [6] (fun s6 wx => s6 = str Sj ∧ wx = wr.setCell ⟨w.heap.size, 2, none⟩ (str (rw_ ++ (R ++ [13, 10]))))
          case first =>
            by_cases hj00 : j = 0
            · obtain ⟨hRl, hSl⟩ := HS0.out hj00
              subst hj00
              subst hRl
              have b1 : IntKind.i64.wrap ((at_ : Int) + 1) = (at_ : Int) + 1 := by rw [IntKind.wrap_i64]; omega
              have b2 : (at_ : Int) + 1 ≤ (R.length : Int) := by omega
              have b3 : (0 : Int) ≤ (at_ : Int) + 1 := by omega
              have HSL := Lib.hid hSl
              have hc2 := HC2.out
              clear hSl
              go_wp2
              go_meet
              exact ⟨by rw [HSL.out], rfl⟩
            · have b1 : ((j : Int) == 0) = false := by simp; omega
              have HJ0 := Lib.hid hj00
              clear hj00
              go_wp2
              go_meet
              exact ⟨by rw [HS1.out HJ0.out], rfl⟩
          case rest =>
            obtain ⟨rfl, rfl⟩ := hcut
            have hSl : Sj.length ≤ 1000000 := by
              by_cases h : j = 0
              · obtain ⟨h1, h2⟩ := HS0.out h
                rw [h2, ← h1]
                simp
                omega
              · rw [HS1.out h]; omega
            have hvl : vl_.length ≤ 1000000000 := HVL.out
            have hB3 := (HB.out.set 2 (str (rw_ ++ (R ++ [13, 10]))))
            have K3 : Keeps (Up w.heap.size []) w (wr.setCell ⟨w.heap.size, 2, none⟩ (str (rw_ ++ (R ++ [13, 10])))) := K.setCell (.inr (Nat.le_refl _)) _
            go_wp2_with (fail)
            refine (trim9_any Sj _ (by omega)).mono ?_
            rintro e w4 ⟨rfl, rfl⟩
            have htl := trim_len Sj
            have hv1 : vals1 vl_ Sj = if trim Sj = [] then vl_ else if vl_ = [] then trim Sj else vl_ ++ 32 :: trim Sj := rfl
            have HV1 := Lib.hid (HVT.out.trans hv1)
            have HRT2 := Lib.hid HRT.out
            generalize trim Sj = tS at *
            clear hv1 HVT HS0 HS1
            by_cases ht0 : tS = []
            · have hemp : tS.isEmpty = true := by rw [ht0]; rfl
              have HT0 := Lib.hid ht0
              clear ht0
              go_wp2
              go_roundg (gk - 1)
              case measure => have := HJN.out; omega
              case rel =>
                refine ⟨j + 1, by simp, by have := HJN.out; omega, hB3.to ?_, HS.out.keep ((Keeps.refl (In [w.heap.size]) wr).setCell (.inl (by simp [In])) _) (fun h => by simp [In] at h; omega), K3⟩
                rw [HV1.out, if_pos HT0.out, HRT2.out]
                rfl
            · have hemp : tS.isEmpty = false := by cases tS with | nil => exact absurd rfl ht0 | cons _ _ => rfl
              have HT0 := Lib.hid ht0
              have fz4 := hB3.frozen
              have d1' : (wr.setCell ⟨w.heap.size, 2, none⟩ (str (rw_ ++ (R ++ [13, 10])))).cell? ⟨w.heap.size, 1, none⟩ = some (str vl_) := hB3.cell 1
              clear ht0
              by_cases hv0 : vl_ = []
              · have hem2 : vl_.isEmpty = true := by rw [hv0]; rfl
                have happ := str_app vl_ tS
                have hle2 : vl_.length + tS.length ≤ 2000000000 := by omega
                have HV0 := Lib.hid hv0
                clear hv0
                go_wp2
                go_roundg (gk - 1)
                case measure => have := HJN.out; omega
                case rel =>
                  refine ⟨j + 1, by simp, by have := HJN.out; omega, (hB3.set 1 (str (vl_ ++ tS))).to ?_, (HS.out.keep ((Keeps.refl (In [w.heap.size]) wr).setCell (.inl (by simp [In])) _) (fun h => by simp [In] at h; omega)).keep ((Keeps.refl (In [w.heap.size]) _).setCell (.inl (by simp [In])) _) (fun h => by simp [In] at h; omega), K3.setCell (.inr (Nat.le_refl _)) _⟩
                  rw [HV1.out, if_neg HT0.out, if_pos HV0.out, HRT2.out, HV0.out]
                  rfl
              · have hem2 : vl_.isEmpty = false := by cases vl_ with | nil => exact absurd rfl hv0 | cons _ _ => rfl
                have happ := str_app vl_ [32]
                have happ2 := str_app (vl_ ++ [32]) tS
                have hle2 : vl_.length + 1 ≤ 2000000000 := by omega
                have hle3 : (vl_ ++ [32]).length + tS.length ≤ 3000000000 := by simp; omega
                have HV0 := Lib.hid hv0
                clear hv0
                go_wp2
                go_roundg (gk - 1)
                case measure => have := HJN.out; omega
                case rel =>
                  have kk1 : ∀ W i v, Strs W g (l0 :: ls) → Strs (W.setCell ⟨w.heap.size, i, none⟩ v) g (l0 :: ls) := fun W i v h => h.keep ((Keeps.refl (In [w.heap.size]) W).setCell (.inl (by simp [In])) _) (fun h => by simp [In] at h; omega)
                  refine ⟨j + 1, by simp, by have := HJN.out; omega, ((hB3.set 1 (str (vl_ ++ [32]))).set 1 (str (vl_ ++ 32 :: tS))).to ?_, kk1 _ _ _ (kk1 _ _ _ (kk1 _ _ _ HS.out)), (K3.setCell (.inr (Nat.le_refl _)) _).setCell (.inr (Nat.le_refl _)) _⟩
                  rw [HV1.out, if_neg HT0.out, if_neg HV0.out, HRT2.out]
                  rfl
        · have hjn2 : j = n := by omega
          have hlen2 : j = (l0 :: ls).length := by rw [hjn2, HN.out]; rfl
          have e9 : decide ((j : Int) < (n : Int)) = false := decide_eq_false (by omega)
          have e9' : decide (j < n) = false := decide_eq_false hj
          have fz3 := HB.out.frozen
          have hB5 := HB.out
          rw [show (l0.drop (at_ + 1) :: ls).take j = l0.drop (at_ + 1) :: ls from List.take_of_length_le (by simp at hlen2 ⊢; omega), show (l0 :: ls).take j = l0 :: ls from List.take_of_length_le (by omega)] at hB5
          have d0 : wr.cell? ⟨w.heap.size, 0, none⟩ = some (str kk) := hB5.cell 0
          have d1 : wr.cell? ⟨w.heap.size, 1, none⟩ = some (str (vals [] (l0.drop (at_ + 1) :: ls))) := hB5.cell 1
          have d2 : wr.cell? ⟨w.heap.size, 2, none⟩ = some (str (raws (l0 :: ls))) := hB5.cell 2
          have d3 : wr.cell? ⟨w.heap.size, 3, none⟩ = some (.bool false) := hB5.cell 3
          have HB5 := Lib.hid hB5
          clear hB5 hjn2 hlen2
          go_wp2
          have hH7 := (((((HB5.out.set 3 (.bool true)).set 0 (str kk)).set 1 (str (vals [] (l0.drop (at_ + 1) :: ls)))).set 2 (str (raws (l0 :: ls)))).set 3 (.bool true))
          refine bodyPost_ret (results_row_tmp rfl _ _ w.heap.size _ rfl (load_f9 _ _ _ _ _ _ hH7)) rfl ?_
          have kk1 : ∀ W i v, Keeps (Up w.heap.size []) w W → Keeps (Up w.heap.size []) w (W.setCell ⟨w.heap.size, i, none⟩ v) := fun W i v h => h.setCell (.inr (Nat.le_refl _)) v
          refine ⟨?_, ((kk1 _ _ _ (kk1 _ _ _ (kk1 _ _ _ (kk1 _ _ _ (kk1 _ _ _ K))))).down (Nat.le_refl _)).mono (fun _ _ h => by cases h)⟩
          have hA := HA.out
          subst hA
          rw [if_neg HAT.out, HTT.out, HKK.out, HOK.out]
          rfl
end Go.Proofs.YtjbbapodcngnaaaDoor
