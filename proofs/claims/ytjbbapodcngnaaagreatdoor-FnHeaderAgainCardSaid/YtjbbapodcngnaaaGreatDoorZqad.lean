/- spec: header9. spec: bytes9, told9. spec: HeaderOf, SameHFields. zzLastIndexAny, foldLine. formatHeaderField. spec: broken9, folded9. A header that is changed: its blocks, its fields. Add, AddRaw: a field at the top. -/
import Derived.Test.YtjbbapodcngnaaaGreatDoorZqac
import Derived.Test.YtjbbapodcngnaaaGreatDoorZqaa
namespace Go.Proofs.YtjbbapodcngnaaaGreatDoor
open Go.RowKit Hdr

/-- What header9 leaves. -/
def H9Post (n : Nat) (r : H9) (w : World) (e : Ending) (w' : World) : Prop :=
  ∃ v, e = .returned (.tuple #[v, .int .i64 r.taken, .bool r.ok, .bool r.sure]) ∧ w'.ownsRow w.heap.size 63 4 v r.fs.length (f9s r.fs) ∧ Keeps No w w' ∧ r.fs.length ≤ n

theorem results_cell_tmp3 {fn : Func} {p u v x : Tmp} {ty : TypeId} (h : fn.results = #[.cell p ty, .tmp u, .tmp v, .tmp x]) (tmps : Array Value) {P : Program} (w : World) (g : Nat) (y : Value) (hp : tmps.getD p undef = .pointer (some ⟨g, 0, none⟩)) (hl : (loadVar ty ⟨g, 0, none⟩).run P w = .ok y w) :
    (results fn tmps).run P w = .ok (.tuple #[y, tmps.getD u undef, tmps.getD v undef, tmps.getD x undef]) w := by
  simp only [results, h]
  simp [Sem.run_bind, asAddr, Result.andThen]
  have hp' : tmps[p]?.getD undef = .pointer (some ⟨g, 0, none⟩) := by simpa using hp
  rw [hp']
  simp [hl]

theorem load_f9s (w : World) (g : Nat) (v : Value) (h : w.cell? ⟨g, 0, none⟩ = some v) : (loadVar 58 ⟨g, 0, none⟩).run Tryz.prog w = .ok v w := by
  simp [loadVar, isAgg, run_underlying Tryz.underlying58, h]

/-- What lies in memory. -/
structure Mem9 (n : Nat) (w wr : World) (c : Nat) (s : HS) : Prop where
  H : Hp wr (c + 1 + 1 + 1) (c + 1) (c + 1 + 1) c s
  K : Keeps (Up c []) w wr
  hsz : c + 1 + 1 + 1 ≤ wr.heap.size
  cnt : s.ls.length + s.fs.length ≤ n
  len : (raws s.ls).length ≤ 3 * n
/-- Where the walk stands. -/
structure At9 (l : List UInt8) (w wr : World) (c : Nat) (r : List UInt8) (s : HS) : Prop where
  M : Mem9 l.length w wr c s
  scan : scan9 ⟨[], false, []⟩ l = scan9 s r
  cnt : s.ls.length + s.fs.length + r.length ≤ l.length
  len : (raws s.ls).length + 3 * r.length ≤ 3 * l.length

theorem info_str : (Tryz.prog.info? 9).map (fun i => (i.zero, i.size, i.bytes)) = some (some (.string ⟨#[]⟩), 1, 16) := by kernel_rfl

theorem addr_at (b i : Nat) : (⟨b, 0, none⟩ : Addr).add i = ⟨b, i, none⟩ := by unfold Addr.add; split <;> simp_all

/-- Rows of different types lie in different blocks. -/
theorem ownsRow_apart {w : World} {base base' e e' size size' n n' : Nat} {v v' : Value} {xs xs' : List Value} (h : w.ownsRow base e size v n xs) (h' : w.ownsRow base' e' size' v' n' xs') (hne : e ≠ e') : v.ownBlock = none ∨ v.ownBlock ≠ v'.ownBlock := by
  rcases h.2 with ⟨rfl, _⟩ | ⟨g, cap, cur, rfl, _, hg, _⟩
  · exact .inl rfl
  · right
    intro hq
    rcases h'.2 with ⟨rfl, _⟩ | ⟨g', cap', cur', rfl, _, hg', _⟩
    · cases hq
    · simp only [Value.ownBlock, Option.some.injEq] at hq
      subst hq
      rw [hg] at hg'
      simp only [Option.some.injEq, Obj.cells.injEq] at hg'
      exact hne hg'.2.1

theorem add9_eq (s : HS) (y : UInt8) (L : List UInt8) : add9 s (y :: L) = ⟨(if sp y then s else put9 s).ls ++ [y :: L], (if sp y then s else put9 s).bad, (if sp y then s else put9 s).fs⟩ := by
  unfold add9
  show (if sp y = true then _ else _) = _
  cases sp y <;> rfl

theorem put9_cnt (s : HS) : (put9 s).ls.length + (put9 s).fs.length ≤ s.ls.length + s.fs.length ∧ (raws (put9 s).ls).length ≤ (raws s.ls).length := by
  rw [put9_ls]
  refine ⟨?_, by simp [raws]⟩
  unfold put9
  split
  · rename_i h; rw [h]; simp
  · rename_i h
    rw [h]
    simp only
    split
    · simp; omega
    · simp

theorem upto_from {l : List UInt8} {j i : Nat} (hji : j ≤ i) (hi : i < l.length) (h : (10 : UInt8) ∉ (l.drop j).take (i - j)) :
    (l[i] ≠ 10 → (10 : UInt8) ∉ (l.drop j).take (i + 1 - j)) ∧ (l[i] = 10 → j + (upto (l.drop j)).length = i) := by
  have hlt : i - j < (l.drop j).length := by simp; omega
  have hg : (l.drop j)[i - j] = l[i] := by
    rw [List.getElem_drop]
    congr 1
    omega
  constructor
  · intro hne
    rw [show i + 1 - j = (i - j) + 1 by omega, List.take_succ_eq_append_getElem hlt, hg]
    simp only [List.mem_append, List.mem_singleton, not_or]
    exact ⟨h, fun e => hne e.symm⟩
  · intro he
    have h1 : l.drop j = (l.drop j).take (i - j) ++ 10 :: (l.drop j).drop (i - j + 1) := by
      conv => lhs; rw [← List.take_append_drop (i - j) (l.drop j), List.drop_eq_getElem_cons hlt, hg, he]
    have h2 := (nl_upto h ((l.drop j).drop (i - j + 1))).1
    rw [← h1] at h2
    rw [h2, List.length_take]
    omega
theorem upto_self {l : List UInt8} (h : (10 : UInt8) ∉ l) : upto l = l := by
  induction l with
  | nil => rfl
  | cons x l ih =>
    simp only [List.mem_cons, not_or] at h
    rw [upto_cons (fun e => h.1 e.symm), ih h.2]
theorem drop_mid {d a r : List UInt8} {x : UInt8} (h : d = a ++ x :: r) : d.drop (a.length + 1) = r := by
  subst h
  rw [show a.length + 1 = (a ++ [x]).length by simp, show a ++ x :: r = (a ++ [x]) ++ r by simp, List.drop_left]
theorem upto_all {l : List UInt8} {j : Nat} (hj : j ≤ l.length) (h : (10 : UInt8) ∉ (l.drop j).take (l.length - j)) : j + (upto (l.drop j)).length = l.length := by
  rw [List.take_of_length_le (by simp)] at h
  rw [upto_self h]
  simp
  omega

/-- The first line from j on, where the line feed is sought at t. -/
theorem line_at {l : List UInt8} {j : Nat} (hj : j ≤ l.length) : ∃ j' : Nat, j' ≤ l.length ∧ l.drop j' = (line1 (l.drop j)).2 ∧
    ((j + (upto (l.drop j)).length = l.length ∧ j' = l.length ∧ (line1 (l.drop j)).1 = upto (l.drop j)) ∨
     (j + (upto (l.drop j)).length < l.length ∧ j' = j + (upto (l.drop j)).length + 1 ∧ (line1 (l.drop j)).1 = chomp (upto (l.drop j)))) := by
  have hs := congrArg List.length (split (l.drop j))
  simp only [List.length_append, List.length_drop] at hs
  cases hb : behind (l.drop j) with
  | nil =>
    rw [hb] at hs
    simp at hs
    refine ⟨l.length, Nat.le_refl _, ?_, .inl ⟨by omega, rfl, ?_⟩⟩
    · rw [line1_end hb]; simp
    · rw [line1_end hb]
      have h2 := split (l.drop j)
      rw [hb, List.append_nil] at h2
      exact h2
  | cons x r =>
    rw [hb] at hs
    simp at hs
    refine ⟨j + (upto (l.drop j)).length + 1, by omega, ?_, .inr ⟨by omega, rfl, by rw [line1_nl hb]⟩⟩
    rw [line1_nl hb]
    have h2 := split (l.drop j)
    rw [hb] at h2
    have h3 := drop_mid h2
    rw [← h3, List.drop_drop]
    rfl

/-- A round of the scan. -/
theorem step9 {l r : List UInt8} {s : HS} (hr : r ≠ []) (hscan : scan9 ⟨[], false, []⟩ l = scan9 s r) (hc : s.ls.length + s.fs.length + r.length ≤ l.length) (hl : (raws s.ls).length + 3 * r.length ≤ 3 * l.length) :
    (((line1 r).1.contains 13) = true → scan9 ⟨[], false, []⟩ l = none) ∧
    (((line1 r).1.contains 13) = false → (line1 r).1 = [] → scan9 ⟨[], false, []⟩ l = some (s, (line1 r).2)) ∧
    (((line1 r).1.contains 13) = false → (line1 r).1 ≠ [] → scan9 ⟨[], false, []⟩ l = scan9 (add9 s (line1 r).1) (line1 r).2 ∧
      (add9 s (line1 r).1).ls.length + (add9 s (line1 r).1).fs.length + (line1 r).2.length ≤ l.length ∧ (raws (add9 s (line1 r).1).ls).length + 3 * (line1 r).2.length ≤ 3 * l.length) := by
  refine ⟨fun h => ?_, fun h h2 => ?_, fun h h2 => ⟨?_, ?_, ?_⟩⟩
  · rw [hscan]; exact scan9_ret hr (by simpa using h)
  · rw [hscan]; exact scan9_end hr h2
  · rw [hscan]; exact scan9_more hr (by simpa using h) h2
  · have h3 := line1_len r
    have h4 := List.length_pos_iff.2 h2
    have h5 := put9_cnt s
    unfold add9
    split
    · simp; omega
    · simp; omega
  · have h3 := line1_len r
    have h4 := List.length_pos_iff.2 h2
    have h5 := put9_cnt s
    have e : ∀ x : List (List UInt8), (raws (x ++ [(line1 r).1])).length = (raws x).length + ((line1 r).1.length + 2) := fun x => by rw [raws_append]; simp [raws]
    unfold add9
    split
    · rw [e]; omega
    · rw [e]; omega

/-- What the lines come to when the loop is left. -/
def Out9 (l : List UInt8) (w wx : World) (c : Nat) (s9 : Value) : Prop :=
  ∃ (j : Nat) (s : HS), s9 = .int .i64 (j : Int) ∧ j ≤ l.length ∧ Mem9 l.length w wx c s ∧ scan9 ⟨[], false, []⟩ l = some (s, l.drop j)

set_option maxRecDepth 100000 in
set_option maxHeartbeats 2000000 in
theorem header9_any (l : List UInt8) (w : World) (hlen : l.length ≤ 3000000000) :
    Calls Tryz.prog 22 #[str l] w (H9Post l.length (h9 l) w) := by
  cases hsp : spHead l with
  | true =>
    obtain ⟨x, l0, rfl⟩ : ∃ x l0, l = x :: l0 := by
      cases l with
      | nil => cases hsp
      | cons x l0 => exact ⟨x, l0, rfl⟩
    have hh : h9 (x :: l0) = ⟨[], 0, false, true⟩ := by unfold h9; rw [if_pos hsp]
    rw [hh]
    have hx : sp x = true := hsp
    have hx0 := str_get (x :: l0) 0 (by simp)
    simp only [List.getElem_cons_zero] at hx0
    go_enter Tryz.func22, Tryz.ntmps22
    go_wp2_with (fail)
    refine (isBlank9_any x _).mono ?_
    rintro e w1 ⟨rfl, rfl⟩
    rw [hx]
    go_wp2
    refine bodyPost_ret (results_cell_tmp3 rfl _ _ w.heap.size _ rfl (load_f9s _ _ _ ((Blk.new w [.slice none 0 0] 58).cell 0))) rfl ?_
    exact ⟨_, rfl, World.ownsRow_nil _ _ _ _, (Keeps.refl No w).alloc _, by simp⟩
  | false =>
    have HSP := Lib.hid hsp
    clear hsp
    go_enter Tryz.func22, Tryz.ntmps22
    go_upto_region 1 with (fail)
    have hc0 := Blk.new w [.slice none 0 0] 58
    have K0 : Keeps No w (w.alloc (.cells #[.slice none 0 0] 58)) := (Keeps.refl No w).alloc _
    have hz0 : (w.alloc (.cells #[.slice none 0 0] 58)).heap.size = w.heap.size + 1 := by simp
    generalize (w.alloc (.cells #[.slice none 0 0] 58)) = w1 at *
    go_cut [19] (fun s19 wx => s19 = .bool false ∧ w1 = wx)
    case first =>
      cases l with
      | nil =>
        go_wp2
        go_meet
        exact ⟨rfl, rfl⟩
      | cons x l0 =>
        have hx0 := str_get (x :: l0) 0 (by simp)
        simp only [List.getElem_cons_zero] at hx0
        go_wp2_with (fail)
        refine (isBlank9_any x _).mono ?_
        rintro e w1 ⟨rfl, rfl⟩
        have hx : sp x = false := HSP.out
        rw [hx]
        go_wp2
        go_meet
        exact ⟨rfl, rfl⟩
    case rest =>
      obtain ⟨rfl, rfl⟩ := hcut
      go_upto_block 0 with (fail)
      have hA : At9 l w ((w1.alloc (.cells #[.slice none 0 0] 88)).alloc (.cells #[.bool false] 4)) w.heap.size l ⟨[], false, []⟩ := by
        have hL1 := Blk.new w1 [.slice none 0 0] 88
        have hB1 := Blk.new (w1.alloc (.cells #[.slice none 0 0] 88)) [.bool false] 4
        rw [hz0] at hL1
        rw [show (w1.alloc (.cells #[.slice none 0 0] 88)).heap.size = w.heap.size + 1 + 1 by simp; omega] at hB1
        refine ⟨⟨⟨by omega, by omega, by omega, ⟨_, hL1.alloc _, World.ownsRow_nil _ _ _ _⟩, hB1, ⟨_, (hc0.alloc _).alloc _, World.ownsRow_nil _ _ _ _⟩⟩, ((K0.alloc _).alloc _).of_no, by simp; omega, by simp, by simp [raws]⟩, rfl, by simp, by simp [raws]⟩
      generalize ((w1.alloc (.cells #[.slice none 0 0] 88)).alloc (.cells #[.bool false] 4)) = w3 at *
      have HA := Lib.hid hA
      have hls := str_len l
      clear hA hc0 K0 hz0
      clear w1
      go_cut [9] (fun s9 wx => Out9 l w wx w.heap.size s9)
      case first =>
        go_wp2
        go_loopg [9] l.length (fun n s9 wr => ∃ (j : Nat) (s : HS), s9 = .int .i64 (j : Int) ∧ j + n = l.length ∧ At9 l w wr w.heap.size (l.drop j) s)
        case atStart => exact ⟨0, _, rfl, by omega, HA.out⟩
        case round =>
          obtain ⟨j, s, rfl, hjn, hat⟩ := hrel
          have HJN := Lib.hid hjn
          have HAT := Lib.hid hat
          have hjl : j ≤ l.length := by omega
          clear hjn hat
          by_cases hj : j < l.length
          · have hjj : (j : Int) < (l.length : Int) := by omega
            have e1 : decide (j < l.length) = true := decide_eq_true hj
            go_upto_block 2 with (fail)
            go_cut [10] (fun s10 wx => s10 = .int .i64 ((j + (upto (l.drop j)).length : Nat) : Int) ∧ wr = wx)
            case first =>
              go_wp2
              go_loopg [10] (l.length - j) (fun q s10 wy => ∃ i : Nat, s10 = .int .i64 i ∧ i + q = l.length ∧ j ≤ i ∧ (10 : UInt8) ∉ (l.drop j).take (i - j) ∧ wr = wy)
              case atStart => exact ⟨j, rfl, by omega, Nat.le_refl _, by simp, rfl⟩
              case round =>
                obtain ⟨i, rfl, hin, hji, h10, rfl⟩ := hrel
                have HIN := Lib.hid hin
                have H10 := Lib.hid h10
                have hil : i ≤ l.length := by omega
                clear hin h10
                by_cases hi : i < l.length
                · have hx := str_get l i hi
                  have hup := upto_from hji hi H10.out
                  generalize l[i] = x at *
                  have HUP := Lib.hid hup
                  have hii : (i : Int) < (l.length : Int) := by omega
                  clear hup
                  by_cases hxc : x = 10
                  · have e2 : ((x.toNat : Int) == 10) = true := by rw [hxc]; rfl
                    have HXC := Lib.hid hxc
                    clear hxc
                    go_wp2
                    go_meet
                    exact ⟨by rw [HUP.out.2 HXC.out], rfl⟩
                  · have e2 : ((x.toNat : Int) == 10) = false := by
                      simp only [beq_eq_false_iff_ne, ne_eq]
                      intro h
                      exact hxc (UInt8.toNat.inj (by show x.toNat = 10; omega))
                    have HXC := Lib.hid hxc
                    clear hxc
                    go_wp2
                    go_roundg (gk - 1)
                    case measure => have := HIN.out; omega
                    case rel => exact ⟨i + 1, by simp, by have := HIN.out; omega, by omega, HUP.out.1 HXC.out, rfl⟩
                · have hil2 : i = l.length := by omega
                  have hah : j + (upto (l.drop j)).length = i := by
                    have := H10.out
                    rw [hil2] at this
                    rw [upto_all hjl this, hil2]
                  have e2 : decide (i < l.length) = false := decide_eq_false hi
                  have HAH := Lib.hid hah
                  clear hah hil2
                  go_wp2
                  go_meet
                  exact ⟨by rw [HAH.out], rfl⟩
            case rest =>
              obtain ⟨rfl, rfl⟩ := hcut
              obtain ⟨j', hj', hdr, hcase⟩ := line_at hjl
              have hdne : l.drop j ≠ [] := by
                intro h
                have := congrArg List.length h
                simp at this
                omega
              have hst := step9 hdne HAT.out.scan HAT.out.cnt HAT.out.len
              rw [← hdr] at hst
              have hut : (l.drop j).take (upto (l.drop j)).length = upto (l.drop j) := by
                unfold upto
                exact (List.prefix_iff_eq_take.1 (List.takeWhile_prefix _)).symm
              have hsc := str_cut l j (j + (upto (l.drop j)).length)
              rw [Nat.add_sub_cancel_left, hut] at hsc
              have hLu : (line1 (l.drop j)).1.length ≤ l.length := by
                have h1 := line1_len (l.drop j)
                simp at h1
                omega
              generalize hL : (line1 (l.drop j)).1 = L at *
              generalize hU : upto (l.drop j) = U at *
              generalize ht : j + U.length = t at *
              have htl : t ≤ l.length := by omega
              have hjt : j ≤ t := by omega
              have hUlen : U.length ≤ 3000000000 := by omega
              have HT := Lib.hid ht
              have HL := Lib.hid hL
              have HU := Lib.hid hU
              have HC := Lib.hid hcase
              have HST := Lib.hid hst
              have HDR := Lib.hid hdr
              have hUl := str_len U
              have hret : ∃ q : Bool, (t = l.length → q = false) ∧ (t < l.length → U = [] → q = false) ∧ (t < l.length → ∀ m x, U = m ++ [x] → q = (x == 13)) ∧ (q = true → ∃ m, U = m ++ [13] ∧ L = m) ∧ (q = false → L = U) := by
                rcases hcase with ⟨h1, h2, h3⟩ | ⟨h1, h2, h3⟩
                · exact ⟨false, fun _ => rfl, fun _ _ => rfl, fun h => by omega, fun h => (by cases h), fun _ => h3⟩
                · rcases nil_or_snoc U with rfl | ⟨m, x, hm⟩
                  · exact ⟨false, fun _ => rfl, fun _ _ => rfl, fun _ m x h => (by cases m <;> cases h), fun h => (by cases h), fun _ => h3⟩
                  · refine ⟨x == 13, fun h => by omega, fun _ h => (by rw [h] at hm; cases m <;> cases hm), fun _ m' x' h => ?_, fun h => ?_, fun h => ?_⟩
                    · rw [hm] at h
                      have := congrArg List.getLast? h
                      simp at this
                      rw [this]
                    · have hx : x = 13 := by simpa using h
                      subst hx
                      exact ⟨m, hm, by rw [h3, hm, chomp_snoc, if_pos rfl]⟩
                    · have hx : x ≠ 13 := by simpa using h
                      rw [h3, hm, chomp_snoc, if_neg hx]
              obtain ⟨q, q1, q2, q3, q4, q5⟩ := hret
              have Q1 := Lib.hid q1
              have Q2 := Lib.hid q2
              have Q3 := Lib.hid q3
              have Q4 := Lib.hid q4
              have Q5 := Lib.hid q5
              clear ht hL hU hcase hst hdr hut hdne q1 q2 q3 q4 q5
              have hUl := str_len U
              have hjt2 : t = l.length ∨ t < l.length := by omega
              have HJT := Lib.hid hjt2
              clear hjt2
              go_upto_region 13 with (fail)
              go_cut [58] (fun s58 wx => s58 = .bool q ∧ wr = wx)
              case first =>
                rcases HJT.out with h1 | h1
                · have hq := Q1.out h1
                  subst hq
                  have e2 : decide (t < l.length) = false := decide_eq_false (by omega)
                  clear h1
                  go_wp2
                  go_meet
                  exact ⟨rfl, rfl⟩
                · have e2 : decide (t < l.length) = true := decide_eq_true h1
                  rcases nil_or_snoc U with hu | ⟨m, x, hm⟩
                  · have hq := Q2.out h1 hu
                    subst hq
                    have b3 : U.length = 0 := by rw [hu]; rfl
                    have b4 : decide ((0 : Int) < (U.length : Int)) = false := decide_eq_false (by omega)
                    have b5 : decide (0 < U.length) = false := decide_eq_false (by omega)
                    clear h1 hu b3
                    go_wp2
                    go_meet
                    exact ⟨rfl, rfl⟩
                  · have hq := Q3.out h1 m x hm
                    have hlm : U.length = m.length + 1 := by rw [hm]; simp
                    have hlt : m.length < U.length := by omega
                    have hx2 : (⟨U.toArray⟩ : ByteArray)[m.length]'(by show m.length < U.toArray.size; simpa using hlt) = x := by
                      subst hm
                      rw [str_get _ _ (by simp)]
                      simp
                    have hml : m.length ≤ 3000000000 := by omega
                    have b1 : IntKind.i64.wrap ((U.length : Int) - 1) = (m.length : Int) := by rw [IntKind.wrap_i64]; omega
                    have b2 : ((U.length : Int) - 1) = (m.length : Int) := by omega
                    have b3 : decide (0 < U.length) = true := decide_eq_true (by omega)
                    have b4 : decide ((0 : Int) < (U.length : Int)) = true := decide_eq_true (by omega)
                    have b5 : (0 : Int) ≤ (m.length : Int) := by omega
                    have b6 : ((x.toNat : Int) == 13) = q := by
                      rw [hq, Bool.eq_iff_iff]
                      simp only [beq_iff_eq]
                      exact ⟨fun h => UInt8.toNat.inj (by show x.toNat = 13; omega), fun h => by rw [h]; rfl⟩
                    have HM := Lib.hid hm
                    have HQ := Lib.hid hq
                    clear hm hq hlm h1
                    go_wp2
                    go_meet
                    exact ⟨rfl, rfl⟩
              case rest =>
                obtain ⟨rfl, rfl⟩ := hcut
                go_upto_if 58 with (fail)
                go_cut [11] (fun s11 wx => s11 = str L ∧ wr = wx)
                case first =>
                  cases q with
                  | false =>
                    have hLU := Q5.out rfl
                    have HLU := Lib.hid hLU
                    clear hLU
                    go_wp2
                    go_meet
                    exact ⟨by rw [HLU.out], rfl⟩
                  | true =>
                    obtain ⟨m, hm, hLm⟩ := Q4.out rfl
                    have hlm : U.length = m.length + 1 := by rw [hm]; simp
                    have hr := str_cut U 0 m.length
                    rw [show (U.drop 0).take (m.length - 0) = m by rw [hm]; simp] at hr
                    have hml : m.length ≤ 3000000000 := by omega
                    have b1 : IntKind.i64.wrap ((U.length : Int) - 1) = (m.length : Int) := by rw [IntKind.wrap_i64]; omega
                    have b2 : ((U.length : Int) - 1) = (m.length : Int) := by omega
                    have b5 : (0 : Int) ≤ (m.length : Int) := by omega
                    have b7 : (m.length : Int) ≤ (U.length : Int) := by omega
                    have HM := Lib.hid hm
                    have HLM := Lib.hid hLm
                    clear hm hLm hlm
                    go_wp2
                    go_meet
                    exact ⟨by rw [HLM.out], rfl⟩
                case rest =>
                  obtain ⟨rfl, rfl⟩ := hcut
                  have hLl : L.length ≤ 3000000000 := by omega
                  have h15 : Calls Tryz.prog 25 #[str L, .int .u8 13] wr fun e w' => e = .returned (.bool (L.contains 13)) ∧ w' = wr := hasByte9_any L 13 wr (by omega)
                  go_wp2_with (fail)
                  refine h15.mono ?_
                  rintro e wr ⟨rfl, rfl⟩
                  clear h15
                  generalize L.contains 13 = k13 at *
                  obtain ⟨va, hcW, hcO⟩ := HAT.out.M.H.F
                  have fz := hcW.frozen 0
                  have dc : wr.cell? ⟨w.heap.size, 0, none⟩ = some va := hcW.cell 0
                  have hHC := Lib.hid hcW
                  clear hcW hcO
                  cases k13 with
                  | true =>
                    have hno := HST.out.1 rfl
                    have hh : h9 l = ⟨[], 0, false, false⟩ := by unfold h9; rw [if_neg (by rw [HSP.out]; decide), hno]
                    have HH := Lib.hid hh
                    clear hno hh
                    go_wp2
                    refine bodyPost_ret (results_cell_tmp3 rfl _ _ w.heap.size _ rfl (load_f9s _ _ _ ((hHC.out.set 0 _).cell 0))) rfl ?_
                    rw [HH.out]
                    refine ⟨_, rfl, World.ownsRow_nil _ _ _ _, ((HAT.out.M.K.setCell (.inr (Nat.le_refl _)) _).down (Nat.le_refl _)).mono (fun _ _ h => (by cases h)), by simp⟩
                  | false =>
                    clear dc fz
                    have hmin : min ((t : Int) + 1) (l.length : Int) = (j' : Int) := by rcases HC.out with ⟨h1, h2, _⟩ | ⟨h1, h2, _⟩ <;> omega
                    have b1 : IntKind.i64.wrap ((t : Int) + 1) = (t : Int) + 1 := by rw [IntKind.wrap_i64]; omega
                    cases L with
                    | nil =>
                      have hs2 := HST.out.2.1 rfl rfl
                      have HS2 := Lib.hid hs2
                      clear hs2
                      go_wp2
                      go_meet
                      exact ⟨j', s, rfl, hj', HAT.out.M, HS2.out⟩
                    | cons y L0 =>
                      have hs3 := HST.out.2.2 rfl (by simp)
                      rw [add9_eq s y L0] at hs3
                      generalize hs' : (if sp y = true then s else put9 s) = s' at *
                      have HS' := Lib.hid hs'
                      have HS3 := Lib.hid hs3
                      have hx0 := str_get (y :: L0) 0 (by simp)
                      simp only [List.getElem_cons_zero] at hx0
                      clear hs3 hs'
                      go_wp2_with (fail)
                      refine (isBlank9_any y _).mono ?_
                      rintro e wr ⟨rfl, rfl⟩
                      have hcl := put9_cnt s
                      go_upto_if 75 with (fail)
                      go_cut [] (fun wx => Mem9 l.length w wx w.heap.size s')
                      case first =>
                        cases hsy : sp y with
                        | true =>
                          have HSY := Lib.hid hsy
                          go_wp2
                          go_meet
                          rw [← HS'.out, if_pos HSY.out]
                          exact HAT.out.M
                        | false =>
                          have HSY := Lib.hid hsy
                          have hm1 := HAT.out.M.cnt
                          have hm2 := HAT.out.M.len
                          go_wp2_with (fail)
                          refine (put_any (w.heap.size + 1 + 1 + 1) (w.heap.size + 1) (w.heap.size + 1 + 1) w.heap.size s wr HAT.out.M.H HAT.out.M.hsz (by omega) (by omega) (by omega) (by omega) (by omega) (by omega)).mono ?_
                          rintro e wx ⟨rfl, hH, hK⟩
                          have HHX := Lib.hid hH
                          clear hH
                          go_wp2
                          go_meet
                          rw [← HS'.out, if_neg (by rw [HSY.out]; decide)]
                          exact ⟨HHX.out, HAT.out.M.K.trans hK (fun x _ h => .inr (by rcases h with h | h; simp at h; omega; omega)), by have := hK.size; have := HAT.out.M.hsz; omega, by omega, by omega⟩
                      case rest =>
                        have HM := Lib.hid hcut
                        obtain ⟨⟨_, _, _, ⟨vl, hL, hLo⟩, hB, ⟨vf, hF, hFo⟩⟩, hK, hsz, hcn, hle⟩ := hcut
                        obtain ⟨la, lcap, rfl⟩ := ownsRow_shape hLo
                        have cL : wc.cell? ⟨w.heap.size + 1, 0, none⟩ = some (.slice la s'.ls.length lcap) := hL.cell 0
                        obtain ⟨i0, hi, hz0, hz1, hz2⟩ := info_parts info_str
                        have hc1 : ∀ i u, [str (y :: L0)][i]? = some u → (wc.alloc (.cells #[str (y :: L0)] 9)).cell? ((⟨wc.heap.size, 0, none⟩ : Addr).add i) = some u := fun i u hi => by
                          have hb := Blk.new wc [str (y :: L0)] 9
                          rw [addr_at]
                          exact (hb.cell i).trans hi
                        have hc2 : ∀ u ∈ [str (y :: L0)], u.oneCell' = true := fun u hu => by
                          simp at hu
                          subst hu
                          rfl
                        have hfin : ∀ (W : World) (v' : Value), (wc.alloc (.cells #[str (y :: L0)] 9)).grownBy W (Value.slice la s'.ls.length lcap).ownBlock → W.ownsRow (w.heap.size + 1 + 1 + 1) 9 1 v' (s'.ls.length + 1) (s'.ls.map str ++ [str (y :: L0)]) →
                            Blk W (w.heap.size + 1) [.slice la s'.ls.length lcap] 88 ∧ At9 l w (W.setCell ⟨w.heap.size + 1, 0, none⟩ v') w.heap.size (l.drop j') ⟨s'.ls ++ [y :: L0], s'.bad, s'.fs⟩ := fun W v' hgr hrow => by
                          have hlo : ∀ k, (Value.slice la s'.ls.length lcap).ownBlock = some k → w.heap.size + 1 + 1 + 1 ≤ k := fun k hk => (hLo.lt k hk).1
                          have hold : ∀ k, k < w.heap.size + 1 + 1 + 1 → W.heap[k]? = wc.heap[k]? := fun k hk => (hgr.block k (by simp; omega) (fun h => by have := hlo k h.symm; omega)).trans (Below.heap_alloc wc _ k (by omega))
                          have haW : Blk W (w.heap.size + 1) [.slice la s'.ls.length lcap] 88 := (hold _ (by omega)).trans hL
                          have hbW : Blk W (w.heap.size + 1 + 1) [.bool s'.bad] 4 := (hold _ (by omega)).trans hB
                          have hcW : Blk W w.heap.size [vf] 58 := (hold _ (by omega)).trans hF
                          have hfW : W.ownsRow (w.heap.size + 1 + 1 + 1) 63 4 vf s'.fs.length (f9s s'.fs) := (hFo.alloc _).kept hgr (ownsRow_apart hFo hLo (by decide))
                          have hbelow : ∀ (v0 : Value) (e sz n : Nat) (xs : List Value), W.ownsRow (w.heap.size + 1 + 1 + 1) e sz v0 n xs → (W.setCell ⟨w.heap.size + 1, 0, none⟩ v').ownsRow (w.heap.size + 1 + 1 + 1) e sz v0 n xs := fun v0 e sz n xs h => ownsRow_keep h (Keeps.cell_one W ⟨w.heap.size + 1, 0, none⟩ v') (fun q hq hin => by
                            have := (h.lt q hq).1
                            simp [In] at hin
                            omega)
                          refine ⟨haW, ⟨⟨⟨by omega, by omega, by omega, ⟨v', (haW.set 0 v').to rfl, ?_⟩, hbW.set_other (p := ⟨w.heap.size + 1, 0, none⟩) (by simp) _, ⟨vf, hcW.set_other (p := ⟨w.heap.size + 1, 0, none⟩) (by simp) _, hbelow _ _ _ _ _ hfW⟩⟩, ?_, ?_, ?_, ?_⟩, HS3.out.1, HS3.out.2.1, HS3.out.2.2⟩⟩
                          · have h2 := hbelow _ _ _ _ _ hrow
                            simpa using h2
                          · exact ((hK.alloc _).grown hgr (fun k hk => .inl (.inr (by have := hlo k hk; omega)))).setCell (.inl (.inr (by simp))) _
                          · have := hgr.size
                            simp at this ⊢
                            omega
                          · show (s'.ls ++ [y :: L0]).length + s'.fs.length ≤ l.length
                            have : (s'.ls ++ [y :: L0]).length + s'.fs.length + (l.drop j').length ≤ l.length := HS3.out.2.1
                            omega
                          · show (raws (s'.ls ++ [y :: L0])).length ≤ 3 * l.length
                            have : (raws (s'.ls ++ [y :: L0])).length + 3 * (l.drop j').length ≤ 3 * l.length := HS3.out.2.2
                            omega
                        have hln := hcn
                        have HC1 := Lib.hid hc1
                        have HC2 := Lib.hid hc2
                        have HFIN := Lib.hid hfin
                        have HLO := Lib.hid hLo
                        clear hc1 hc2 hfin hLo hL hB hF hFo
                        go_wp2_with (at_builtin; refine wpList_append_own _ rfl (.tmp 78) (.tmp 80) 88 rfl (w.heap.size + 1 + 1 + 1) 9 i0 (.string ⟨#[]⟩) 1 16 Tryz.underlying88 hi hz0 hz1 hz2 rfl (by decide) _ s'.ls.length (s'.ls.map str) rfl (HLO.out.alloc _) ⟨wc.heap.size, 0, none⟩ 1 1 [str (y :: L0)] rfl rfl HC1.out HC2.out (by unfold maxLen; omega) (by omega) (by simp; omega) ?_; intro v' W hrow' hgr _; have hf := HFIN.out _ _ hgr hrow'; have fW := hf.1.frozen 0; have dW : W.cell? ⟨w.heap.size + 1, 0, none⟩ = some (.slice la s'.ls.length lcap) := hf.1.cell 0; have HF2 := Lib.hid hf; obtain ⟨va2, vc2, rfl⟩ := ownsRow_shape hrow'; clear hf hrow' hgr)
                        go_roundg (l.length - j')
                        case measure =>
                          have h1 := HJN.out
                          rcases HC.out with ⟨h2, h3, _⟩ | ⟨h2, h3, _⟩ <;> omega
                        case rel =>
                          exact ⟨j', _, rfl, by omega, HF2.out.2⟩
          · have hjl2 : j = l.length := by omega
            have e1 : decide (j < l.length) = false := decide_eq_false hj
            have hsc := HAT.out.scan
            rw [hjl2, List.drop_length, scan9_nil] at hsc
            have HSC := Lib.hid hsc
            have HJ2 := Lib.hid hjl2
            clear hsc hjl2
            go_wp2
            go_meet
            exact ⟨j, s, rfl, hjl, HAT.out.M, by rw [HSC.out, HJ2.out, List.drop_length]⟩
      case rest =>
        obtain ⟨j, s, rfl, hjl, hM, hscan⟩ := hcut
        have hh : h9 l = ⟨(put9 s).fs, l.length - (l.drop j).length, !(put9 s).bad, true⟩ := by unfold h9; rw [if_neg (by rw [HSP.out]; decide), hscan]
        rw [show l.length - (l.drop j).length = j by simp; omega] at hh
        have HH := Lib.hid hh
        have hm1 := hM.cnt
        have hm2 := hM.len
        have hm3 := put9_cnt s
        have HM := Lib.hid hM
        clear hscan hh hM
        go_wp2_with (fail)
        refine (put_any (w.heap.size + 1 + 1 + 1) (w.heap.size + 1) (w.heap.size + 1 + 1) w.heap.size s _ HM.out.H HM.out.hsz (by omega) (by omega) (by omega) (by omega) (by omega) (by omega)).mono ?_
        rintro e wx ⟨rfl, hH, hK⟩
        obtain ⟨_, _, _, hLx, hBx, ⟨vf, hFx, hFo⟩⟩ := hH
        obtain ⟨fa, fcap, rfl⟩ := ownsRow_shape hFo
        have fz := hFx.frozen 0
        have dc : wx.cell? ⟨w.heap.size, 0, none⟩ = some (.slice fa (put9 s).fs.length fcap) := hFx.cell 0
        have db : wx.cell? ⟨w.heap.size + 1 + 1, 0, none⟩ = some (.bool (put9 s).bad) := hBx.cell 0
        have HFX := Lib.hid hFx
        have HFO := Lib.hid hFo
        have HBX := Lib.hid hBx
        have KX := HM.out.K.trans hK (fun x _ h => .inr (by rcases h with h | h; simp at h; omega; omega))
        clear hFx hFo hLx hBx
        generalize (put9 s).bad = bd at *
        generalize (put9 s).fs = gs at *
        go_upto_region 23 with (fail)
        refine region_segs [([0, 1, 2, 3], 4)] [5] 6 (fun W => W.cell? ⟨w.heap.size, 0, none⟩ = some (.slice fa gs.length fcap) ∧ W.cell? ⟨w.heap.size + 1 + 1, 0, none⟩ = some (.bool bd)) (by kernel_rfl) (by kernel_rfl) ?_ ?_
        · exact ⟨dc, db⟩
        simp only [segPick, List.map_cons, List.map_nil, pick, List.filterMap_cons, List.filterMap_nil, List.getElem?_cons_succ, List.getElem?_cons_zero, List.drop_succ_cons, List.drop_zero]
        rw [wpSegs]
        intro ι F hne hF
        have c1 := fun j => (hF j).1
        have c2 := fun j => (hF j).2
        clear hF
        repeat (quiet_step (fail))
        refine wpQuiet_nil ?_
        clear c1 c2 hne F ι
        go_wp2
        have hB7 : Blk (wx.drew.setCell ⟨w.heap.size, 0, none⟩ (.slice fa gs.length fcap)) (w.heap.size + 1 + 1) [.bool bd] 4 := (HBX.out.drew).set_other (p := ⟨w.heap.size, 0, none⟩) (by simp; omega) _
        have hF7 : Blk (wx.drew.setCell ⟨w.heap.size, 0, none⟩ (.slice fa gs.length fcap)) w.heap.size [.slice fa gs.length fcap] 58 := (HFX.out.drew.set 0 _).to rfl
        have hO7 : (wx.drew.setCell ⟨w.heap.size, 0, none⟩ (.slice fa gs.length fcap)).ownsRow (w.heap.size + 1 + 1 + 1) 63 4 (.slice fa gs.length fcap) gs.length (f9s gs) := ownsRow_keep HFO.out ((Keeps.refl (In [w.heap.size]) wx).drew.setCell (.inl (by simp [In])) _) (fun q hq hin => by
          have := (HFO.out.lt q hq).1
          simp [In] at hin
          omega)
        have HF7 := Lib.hid hF7
        have HO7 := Lib.hid hO7
        refine EffPost.intro ⟨hF7.cell 0, hB7.cell 0⟩ ?_
        clear hF7 hB7 hO7
        rw [wpSegs]
        intro ι F hne hF
        clear hF
        repeat (quiet_step (fail))
        refine wpQuiet_nil ?_
        clear hne F ι
        go_wp2
        refine bodyPost_ret (results_cell_tmp3 rfl _ _ w.heap.size _ rfl (load_f9s _ _ _ (HF7.out.cell 0))) rfl ?_
        rw [HH.out]
        exact ⟨_, rfl, ownsRow_mono HO7.out (by omega), ((KX.drew.setCell (.inr (Nat.le_refl _)) _).down (Nat.le_refl _)).mono (fun _ _ h => (by cases h)), by show gs.length ≤ l.length; omega⟩
end Go.Proofs.YtjbbapodcngnaaaGreatDoor
namespace Go.Proofs.YtjbbapodcngnaaaGreatDoor
open Go.RowKit Hdr

/-- A field of the specification. -/
structure F9 where
  k : List UInt8
  v : List UInt8
  raw : List UInt8
  has : Bool
def F9.val (p : F9) : Value := .agg #[str p.k, str p.v, str p.raw, .bool p.has]
def f9c (l : List F9) : List Value := l.flatMap fun p => [str p.k, str p.v, str p.raw, .bool p.has]
def rawF (p : PF) : F9 := ⟨p.k, p.v, p.raw, true⟩
theorem f9s_f9c (l : List PF) : f9s l = f9c (l.map rawF) := by
  unfold f9s f9c
  rw [List.flatMap_map]
  rfl
theorem f9c_at : ∀ (l : List F9) (i : Nat) (h : i < l.length), (f9c l)[i * 4]? = some (str l[i].k) ∧ (f9c l)[i * 4 + 1]? = some (str l[i].v) ∧ (f9c l)[i * 4 + 2]? = some (str l[i].raw) ∧ (f9c l)[i * 4 + 3]? = some (.bool l[i].has)
  | p :: l, 0, _ => ⟨rfl, rfl, rfl, rfl⟩
  | p :: l, i + 1, h => by
    have ih := f9c_at l i (by simpa using h)
    have e : f9c (p :: l) = str p.k :: str p.v :: str p.raw :: .bool p.has :: f9c l := rfl
    rw [e, show (i + 1) * 4 = i * 4 + 1 + 1 + 1 + 1 by omega]
    simp only [List.getElem?_cons_succ, List.getElem_cons_succ]
    exact ih

/-- What bytes9 leaves. -/
def B9Post (b : List UInt8) (w : World) (e : Ending) (w' : World) : Prop := e = .returned (str b) ∧ Keeps No w w'

set_option maxRecDepth 100000 in
theorem bytes9_raw (k v raw : List UInt8) (w : World) :
    Calls Tryz.prog 49 #[F9.val ⟨k, v, raw, true⟩] w (B9Post raw w) := by
  unfold F9.val
  go_enter Tryz.func49, Tryz.ntmps49
  go_wp2
  go_ret
  exact ⟨rfl, (Keeps.refl No w).alloc _⟩

/-- A row of fields, somewhere. -/
def Row9 (w : World) (v : Value) (l : List F9) : Prop :=
  (v = .slice none 0 0 ∧ l = []) ∨ ∃ g cap, v = .slice (some ⟨g, 0, none⟩) l.length cap ∧ l.length ≤ cap ∧ ∃ cs f, w.heap[g]? = some (.cells cs 63 f) ∧ cs.toList.take (l.length * 4) = f9c l
theorem f9c_length (l : List F9) : (f9c l).length = l.length * 4 := by
  induction l with
  | nil => rfl
  | cons p l ih => simp [f9c] at *; omega
theorem Row9.of_row {w : World} {base : Nat} {v : Value} {l : List F9} (h : w.ownsRow base 63 4 v l.length (f9c l)) : Row9 w v l := by
  obtain ⟨h1, h2⟩ := h
  rcases h2 with ⟨rfl, h2⟩ | ⟨g, cap, cur, rfl, hb, hg, hc, hm, hs, ht⟩
  · exact .inl ⟨rfl, List.length_eq_zero_iff.1 (by simpa using h2)⟩
  · exact .inr ⟨g, cap, rfl, hc, cur, (0, 0), hg, ht⟩

/-- What told9 leaves. -/
def T9LPost (ps : List PF) (w : World) (e : Ending) (w' : World) : Prop :=
  ∃ v, e = .returned v ∧ w'.ownsRow w.heap.size 38 3 v ps.length (hfs ps) ∧ Keeps No w w'

set_option maxRecDepth 100000 in
set_option maxHeartbeats 2000000 in
theorem told9_any (B : F9 → List UInt8) (l : List F9) (v : Value) (w : World) (h : Row9 w v l) (hn : l.length ≤ 100000)
    (hB : ∀ p ∈ l, ∀ w, Calls Tryz.prog 49 #[p.val] w (B9Post (B p) w)) :
    Calls Tryz.prog 23 #[v] w (T9LPost (l.map fun p => ⟨p.k, p.v, B p⟩) w) := by
  obtain ⟨va, cap, hv⟩ : ∃ va cap, v = .slice va l.length cap := by
    rcases h with ⟨rfl, rfl⟩ | ⟨g, cap, rfl, _⟩
    · exact ⟨none, 0, rfl⟩
    · exact ⟨_, _, rfl⟩
  subst hv
  have H := Lib.hid h
  have HB := Lib.hid hB
  clear h hB
  generalize hnl : l.length = n at *
  have HN := Lib.hid hnl
  clear hnl
  go_enter Tryz.func23, Tryz.ntmps23
  go_wp2
  go_loopg [3, 7] n (fun q s3 s7 wr => ∃ j : Nat, s7 = .int .i64 (j : Int) ∧ j + q = n ∧ wr.ownsRow w.heap.size 38 3 s3 j (hfs ((l.take j).map fun p => ⟨p.k, p.v, B p⟩)) ∧ Keeps No w wr)
  case atStart => exact ⟨0, rfl, by omega, World.ownsRow_nil _ _ _ _, Keeps.refl _ _⟩
  case round =>
    obtain ⟨j, rfl, hjn, hrow, K⟩ := hrel
    have HJN := Lib.hid hjn
    have hjl : j ≤ n := by omega
    obtain ⟨oa, oc, rfl⟩ := ownsRow_shape hrow
    have HROW := Lib.hid hrow
    clear hjn hrow
    by_cases hj : j < n
    · have hjj : (j : Int) < (n : Int) := by omega
      have hjl2 : j < l.length := by have := HN.out; omega
      obtain ⟨g, rfl, hcc, cs, f, hg, ht⟩ : ∃ g, va = some ⟨g, 0, none⟩ ∧ n ≤ cap ∧ ∃ cs f, w.heap[g]? = some (.cells cs 63 f) ∧ cs.toList.take (n * 4) = f9c l := by
        rcases H.out with ⟨h1, h2⟩ | ⟨g, cap', h1, h2, cs, f, h3, h4⟩
        · rw [h2] at hjl2; simp at hjl2
        · injection h1 with h1 _ h5
          subst h5
          rw [HN.out] at h2 h4
          exact ⟨g, h1, h2, cs, f, h3, h4⟩
      have hglt : g < w.heap.size := (Array.getElem?_eq_some_iff.1 hg).1
      have hcell : ∀ W S, Keeps S w W → ¬ S g → ∀ i u, (f9c l)[i]? = some u → W.cell? ⟨g, i, none⟩ = some u := fun W S hk hS i u hu => by
        have h1 := (hk.block g hglt hS).trans hg
        have hil : i < (f9c l).length := (List.getElem?_eq_some_iff.1 hu).1
        rw [← ht] at hu hil
        rw [List.length_take] at hil
        rw [List.getElem?_take, if_pos (by omega)] at hu
        simp only [World.cell?, h1]
        simpa using hu
      obtain ⟨a1, a2, a3, a4⟩ := f9c_at l j hjl2
      have hb := HB.out l[j] (List.getElem_mem _)
      have htk : l.take (j + 1) = l.take j ++ [l[j]] := List.take_succ_eq_append_getElem hjl2
      generalize l[j] = p at *
      have HTK := Lib.hid htk
      have HC := Lib.hid hcell
      have HBP := Lib.hid hb
      have hcls : ∀ W S, Keeps S w W → ¬ S g → W.cell? ⟨g, j * 4, none⟩ = some (str p.k) ∧ W.cell? ⟨g, j * 4 + 1, none⟩ = some (str p.v) ∧ W.cell? ⟨g, j * 4 + 2, none⟩ = some (str p.raw) ∧ W.cell? ⟨g, j * 4 + 3, none⟩ = some (.bool p.has) :=
        fun W S hk hS => ⟨hcell W S hk hS _ _ a1, hcell W S hk hS _ _ a2, hcell W S hk hS _ _ a3, hcell W S hk hS _ _ a4⟩
      have HCLS := Lib.hid hcls
      clear htk hcell hb hcls a1 a2 a3 a4 hg ht
      go_upto_region 5 with (fail)
      refine region_segs [([0, 1, 2, 3, 4, 5, 6, 7, 8, 9, 10, 11, 12, 13, 14], 15), ([16], 17)] [] 18 (fun W => W.cell? ⟨g, j * 4, none⟩ = some (str p.k) ∧ W.cell? ⟨g, j * 4 + 1, none⟩ = some (str p.v) ∧ W.cell? ⟨g, j * 4 + 2, none⟩ = some (str p.raw) ∧ W.cell? ⟨g, j * 4 + 3, none⟩ = some (.bool p.has)) (by kernel_rfl) (by kernel_rfl) ?_ ?_
      · exact HCLS.out _ No K.drew (fun h => h)
      simp only [segPick, List.map_cons, List.map_nil, pick, List.filterMap_cons, List.filterMap_nil, List.getElem?_cons_succ, List.getElem?_cons_zero, List.drop_succ_cons, List.drop_zero]
      rw [wpSegs]
      intro ι F hne hF
      have c1 := fun i => (hF i).1
      have c2 := fun i => (hF i).2.1
      have c3 := fun i => (hF i).2.2.1
      have c4 := fun i => (hF i).2.2.2
      clear hF
      repeat (quiet_step (fail))
      refine wpQuiet_nil ?_
      clear c1 c2 c3 c4 hne F ι
      go_wp2_with (fail)
      refine (HBP.out _).mono ?_
      rintro e w5 ⟨rfl, K5⟩
      generalize hbp : B p = bp at *
      have HBE := Lib.hid hbp
      clear hbp
      have K05 : Keeps No wr w5 := ((Keeps.refl No wr).drew).trans' K5
      have KW5 := K.trans' K05
      have hrow5 := ownsRow_keep HROW.out K05 (fun _ _ h => h)
      have HROW5 := Lib.hid hrow5
      clear hrow5
      go_wp2
      refine EffPost.intro (HCLS.out _ No KW5 (fun h => h)) ?_
      rw [wpSegs]
      intro ι F hne hF
      clear hF
      repeat (quiet_step (fail))
      refine wpQuiet_nil ?_
      clear hne F ι
      go_wp2
      refine EffPost.intro (HCLS.out _ No (KW5.alloc _) (fun h => h)) ?_
      rw [wpSegs]
      intro ι F hne hF
      clear hF
      repeat (quiet_step (fail))
      refine wpQuiet_nil ?_
      clear hne F ι
      obtain ⟨i0, hi, hz0, hz1, hz2⟩ := info_parts info_hfield
      have hc1 : ∀ i u, (hfs [⟨p.k, p.v, bp⟩])[i]? = some u → (w5.alloc (.cells #[str p.k, str p.v, str bp] 38)).cell? ((⟨w5.heap.size, 0, none⟩ : Addr).add i) = some u := fun i u hi => by
        have hb := Blk.new w5 [str p.k, str p.v, str bp] 38
        rw [addr_at]
        exact (hb.cell i).trans hi
      have hc2 : ∀ u ∈ hfs [⟨p.k, p.v, bp⟩], u.oneCell' = true := fun u hu => by
        simp [hfs] at hu
        rcases hu with rfl | rfl | rfl <;> rfl
      have hb5 : w.heap.size ≤ w5.heap.size := KW5.size
      have HC1 := Lib.hid hc1
      have HC2 := Lib.hid hc2
      clear hc1 hc2
      change wpList _ _ _ (_ :: _ :: []) _ _
      go_wp2_with (at_builtin; refine wpList_append_own _ rfl (.tmp 10) (.tmp 27) 24 rfl w.heap.size 38 i0 (.agg #[.string ⟨#[]⟩, .string ⟨#[]⟩, .string ⟨#[]⟩]) 3 48 Tryz.underlying24 hi hz0 hz1 hz2 rfl (by decide) _ j (hfs ((l.take j).map fun p => ⟨p.k, p.v, B p⟩)) rfl (HROW5.out.alloc _) ⟨w5.heap.size, 0, none⟩ 1 1 (hfs [⟨p.k, p.v, bp⟩]) rfl (by rw [hfs_length]; rfl) HC1.out HC2.out (by unfold maxLen; omega) (by omega) (by simp; omega) ?_; intro v' W hrow' hgr _; have HRW := Lib.hid hrow'; have KW := (KW5.alloc _).grown hgr (fun k hk => .inr (HROW5.out.lt k hk).1); clear hrow' hgr)
      go_roundg (gk - 1)
      case measure => have := HJN.out; omega
      case rel =>
        refine ⟨j + 1, by simp, by have := HJN.out; omega, ?_, KW⟩
        have h2 := HRW.out
        rw [← hfs_append] at h2
        rw [HTK.out, List.map_append, List.map_cons, List.map_nil, HBE.out]
        exact h2
    · have hjn : j = n := by omega
      have e1 : decide ((j : Int) < (n : Int)) = false := decide_eq_false (by omega)
      have hfull : l.take j = l := List.take_of_length_le (by have := HN.out; omega)
      have HFL := Lib.hid hfull
      have HJE := Lib.hid hjn
      clear hjn hfull
      go_wp2
      go_ret
      refine ⟨_, rfl, ?_, K⟩
      have h2 := HROW.out
      rw [HFL.out] at h2
      rw [List.length_map, HN.out, ← HJE.out]
      exact h2
end Go.Proofs.YtjbbapodcngnaaaGreatDoor
namespace Go.Proofs.YtjbbapodcngnaaaGreatDoor
open Go.RowKit Hdr

theorem results_tmp4 {fn : Func} {t u v x : Tmp} (h : fn.results = #[.tmp t, .tmp u, .tmp v, .tmp x]) (tmps : Array Value) (P : Program) (w : World) :
    (results fn tmps).run P w = .ok (.tuple #[tmps.getD t undef, tmps.getD u undef, tmps.getD v undef, tmps.getD x undef]) w := by
  simp [results, h]

/-- What the specification's HeaderOf leaves. -/
def SHoPost (r : H9) (w : World) (e : Ending) (w' : World) : Prop :=
  ∃ v, e = .returned (.tuple #[v, .int .i64 r.taken, .bool r.ok, .bool r.sure]) ∧ w'.ownsRow w.heap.size 38 3 v r.fs.length (hfs r.fs) ∧ Keeps No w w' ∧ r.fs.length ≤ 100000

set_option maxRecDepth 100000 in
set_option maxHeartbeats 1000000 in
theorem specHeaderOf_any (l : List UInt8) (w : World) (hlen : l.length ≤ 100000) :
    Calls Tryz.prog 7 #[str l] w (SHoPost (h9 l) w) := by
  have H := header9_any l w (by omega)
  generalize h9 l = r at *
  obtain ⟨fs, taken, ok, sure⟩ := r
  have HH := Lib.hid H
  clear H
  go_enter Tryz.func7, Tryz.ntmps7
  go_wp2_with (fail)
  refine HH.out.mono ?_
  rintro e w1 ⟨v, rfl, hrow, K, hn⟩
  simp only at hrow hn
  rw [f9s_f9c, ← List.length_map (f := rawF)] at hrow
  have hr9 := Row9.of_row hrow
  have HT := told9_any (fun p => p.raw) (fs.map rawF) v w1 hr9 (by rw [List.length_map]; omega) (fun p hp w => by
    simp only [List.mem_map] at hp
    obtain ⟨q, _, rfl⟩ := hp
    exact bytes9_raw q.k q.v q.raw w)
  have e1 : ((fs.map rawF).map fun p : F9 => (⟨p.k, p.v, p.raw⟩ : PF)) = fs := by
    rw [List.map_map]
    conv => rhs; rw [← List.map_id fs]
    rfl
  rw [e1] at HT
  have HHT := Lib.hid HT
  obtain ⟨va, vc, hv⟩ := ownsRow_shape hrow
  rw [List.length_map] at hv
  subst hv
  clear HT hrow hr9 e1 HH
  go_wp2_with (fail)
  refine HHT.out.mono ?_
  rintro e w2 ⟨v2, rfl, hrow2, K2⟩
  have HR2 := Lib.hid hrow2
  clear hrow2
  go_wp2
  (try simp only [Exit.inBlock, Exit.then])
  refine bodyPost_ret (results_tmp4 rfl _ _ _) rfl ?_
  exact ⟨_, rfl, ownsRow_mono HR2.out K.size, K.trans' K2, by show fs.length ≤ 100000; omega⟩

/-- A row of told fields, somewhere. -/
def Row3 (w : World) (v : Value) (l : List PF) : Prop :=
  (v = .slice none 0 0 ∧ l = []) ∨ ∃ g cap, v = .slice (some ⟨g, 0, none⟩) l.length cap ∧ l.length ≤ cap ∧ ∃ cs f, w.heap[g]? = some (.cells cs 38 f) ∧ cs.toList.take (l.length * 3) = hfs l
theorem Row3.of_row {w : World} {base : Nat} {v : Value} {l : List PF} (h : w.ownsRow base 38 3 v l.length (hfs l)) : Row3 w v l := by
  obtain ⟨h1, h2⟩ := h
  rcases h2 with ⟨rfl, h2⟩ | ⟨g, cap, cur, rfl, hb, hg, hc, hm, hs, ht⟩
  · exact .inl ⟨rfl, List.length_eq_zero_iff.1 (by simpa using h2)⟩
  · exact .inr ⟨g, cap, rfl, hc, cur, (0, 0), hg, ht⟩
theorem hfs_at : ∀ (l : List PF) (i : Nat) (h : i < l.length), (hfs l)[i * 3]? = some (str l[i].k) ∧ (hfs l)[i * 3 + 1]? = some (str l[i].v) ∧ (hfs l)[i * 3 + 2]? = some (str l[i].raw)
  | p :: l, 0, _ => ⟨rfl, rfl, rfl⟩
  | p :: l, i + 1, h => by
    have ih := hfs_at l i (by simpa using h)
    have e : hfs (p :: l) = str p.k :: str p.v :: str p.raw :: hfs l := rfl
    rw [e, show (i + 1) * 3 = i * 3 + 1 + 1 + 1 by omega]
    simp only [List.getElem?_cons_succ, List.getElem_cons_succ]
    exact ih
theorem Row3.shape {w : World} {v : Value} {l : List PF} (h : Row3 w v l) : ∃ a cap, v = .slice a l.length cap := by
  rcases h with ⟨rfl, rfl⟩ | ⟨g, cap, rfl, _⟩
  · exact ⟨none, 0, rfl⟩
  · exact ⟨_, _, rfl⟩
theorem Row3.at {w : World} {a : Option Addr} {n cap : Nat} {l : List PF} (h : Row3 w (.slice a n cap) l) {j : Nat} (hj : j < l.length) :
    ∃ g, a = some ⟨g, 0, none⟩ ∧ n = l.length ∧ w.cell? ⟨g, j * 3, none⟩ = some (str l[j].k) ∧ w.cell? ⟨g, j * 3 + 1, none⟩ = some (str l[j].v) ∧ w.cell? ⟨g, j * 3 + 2, none⟩ = some (str l[j].raw) := by
  rcases h with ⟨_, rfl⟩ | ⟨g, cap', h1, h2, cs, f, hg, ht⟩
  · simp at hj
  · injection h1 with h1 h3 h4
    have hc : ∀ i u, (hfs l)[i]? = some u → w.cell? ⟨g, i, none⟩ = some u := fun i u hu => by
      have hil : i < (hfs l).length := (List.getElem?_eq_some_iff.1 hu).1
      rw [← ht] at hu hil
      rw [List.length_take] at hil
      rw [List.getElem?_take, if_pos (by omega)] at hu
      simp only [World.cell?, hg]
      simpa using hu
    obtain ⟨a1, a2, a3⟩ := hfs_at l j hj
    exact ⟨g, h1, h3, hc _ _ a1, hc _ _ a2, hc _ _ a3⟩
theorem Row3.keep {S : Nat → Prop} {w w' : World} {v : Value} {l : List PF} (h : Row3 w v l) (k : Keeps S w w') (hS : ∀ b, v.ownBlock = some b → ¬ S b) : Row3 w' v l := by
  rcases h with h | ⟨g, cap, rfl, h2, cs, f, hg, ht⟩
  · exact .inl h
  · exact .inr ⟨g, cap, rfl, h2, cs, f, (k.block g (Array.getElem?_eq_some_iff.1 hg).1 (hS g rfl)).trans hg, ht⟩

/-- What SameHFields leaves. -/
def SamePost (q : Prop) (w : World) (e : Ending) (w' : World) : Prop := ∃ t : Bool, e = .returned (.bool t) ∧ (t = true ↔ q) ∧ ∃ n, w' = w.drewN n

instance : DecidableEq PF := fun a b => by
  cases a; cases b
  exact decidable_of_iff (_ ∧ _ ∧ _) (by rw [PF.mk.injEq])

theorem beq_str (a b : List UInt8) : (((⟨a.toArray⟩ : ByteArray).toList == (⟨b.toArray⟩ : ByteArray).toList)) = decide (a = b) := by
  rw [← beq_toListBytes, str_beq]
theorem run_neq_hf (w : World) (p q : PF) : (Go.binOp .neq 38 (.agg #[str p.k, str p.v, str p.raw]) (.agg #[str q.k, str q.v, str q.raw])).run Tryz.prog w = .ok (.bool (!decide (p = q))) w := by
  have hf : (Tryz.prog.fieldsOf 38).toList.map (fun f => (f.name, f.type, f.offset)) = [("Key", 9, 0), ("Value", 9, 1), ("Raw", 9, 2)] := by kernel_rfl
  rw [run_neq_struct, run_equalIn_struct w 9999 38 _ _ (by kernel_rfl) Tryz.stoodInHeld38]
  generalize (Tryz.prog.fieldsOf 38).toList = fl at hf
  have hl := congrArg List.length hf
  rcases fl with _ | ⟨f1, _ | ⟨f2, _ | ⟨f3, _ | ⟨f4, r⟩⟩⟩⟩ <;> simp at hl
  · simp only [List.map_cons, List.map_nil, List.cons.injEq, Prod.mk.injEq, and_true] at hf
    obtain ⟨⟨a1, a2, a3⟩, ⟨b1, b2, b3⟩, ⟨c1, c2, c3⟩⟩ := hf
    have e : decide (p = q) = (decide (p.k = q.k) && (decide (p.v = q.v) && decide (p.raw = q.raw))) := by
      rw [Bool.eq_iff_iff]
      obtain ⟨pk, pv, pr⟩ := p
      obtain ⟨qk, qv, qr⟩ := q
      simp
    rw [e]
    by_cases h1 : p.k = q.k <;> by_cases h2 : p.v = q.v <;> by_cases h3 : p.raw = q.raw <;>
      simp [Op.eqFields, a1, a2, a3, b1, b2, b3, c1, c2, c3, part, run_equalIn_string, h1, h2, h3]

set_option maxRecDepth 100000 in
set_option maxHeartbeats 1000000 in
theorem sameHFields_any (a b : List PF) (va vb : Value) (w : World) (ha : Row3 w va a) (hb : Row3 w vb b) (_hna : a.length ≤ 100000) (hnb : b.length ≤ 100000) :
    Calls Tryz.prog 11 #[va, vb] w (SamePost (a = b) w) := by
  obtain ⟨aa, ac, rfl⟩ := ha.shape
  obtain ⟨ba, bc, rfl⟩ := hb.shape
  have HA := Lib.hid ha
  have HB := Lib.hid hb
  clear ha hb
  by_cases hl : a.length = b.length
  · have HL := Lib.hid hl
    rw [← hl]
    generalize hn : a.length = n at *
    have HN := Lib.hid hn
    clear hl hn
    go_enter Tryz.func11, Tryz.ntmps11
    go_wp2
    go_loopg [13] n (fun q s13 wr => ∃ j : Nat, s13 = .int .i64 (j : Int) ∧ j + q = n ∧ a.take j = b.take j ∧ ∃ m, wr = w.drewN m)
    case atStart => exact ⟨0, rfl, by omega, rfl, 0, rfl⟩
    case round =>
      obtain ⟨j, rfl, hjn, htk, m, rfl⟩ := hrel
      have HJN := Lib.hid hjn
      have HTK := Lib.hid htk
      have hjl : j ≤ n := by omega
      clear hjn htk
      by_cases hj : j < n
      · have hjj : (j : Int) < (n : Int) := by omega
        have hja : j < a.length := by have := HN.out; omega
        have hjb : j < b.length := by have := HL.out; omega
        obtain ⟨ga, rfl, -, a1, a2, a3⟩ := HA.out.at hja
        obtain ⟨gb, rfl, -, b1, b2, b3⟩ := HB.out.at hjb
        have hta : a.take (j + 1) = a.take j ++ [a[j]] := List.take_succ_eq_append_getElem hja
        have htb : b.take (j + 1) = b.take j ++ [b[j]] := List.take_succ_eq_append_getElem hjb
        have hne : a[j] ≠ b[j] → a ≠ b := fun h h2 => by subst h2; exact h rfl
        generalize a[j] = p at *
        generalize b[j] = p' at *
        have HTA := Lib.hid hta
        have HTB := Lib.hid htb
        have HNE := Lib.hid hne
        clear hta htb hne
        have hG := Tryz.eqGuardType38
        have hrun := fun W => run_neq_hf W p p'
        go_upto_region 6 with (fail)
        go_quiet (fail)
        generalize hd : decide (p = p') = dd
        have HD := Lib.hid hd
        clear hd
        cases dd with
        | true =>
          go_wp2
          go_roundg (gk - 1)
          case measure => have := HJN.out; omega
          case rel =>
            exact ⟨j + 1, by simp, by have := HJN.out; omega, by rw [HTA.out, HTB.out, HTK.out, of_decide_eq_true HD.out], m + nq, rfl⟩
        | false =>
          go_wp2
          go_ret
          exact ⟨false, rfl, ⟨fun h => (by cases h), fun h => absurd h (HNE.out (of_decide_eq_false HD.out))⟩, m + nq, World.drewN_drewN _ _ _⟩
      · have hjn : j = n := by omega
        have e1 : decide ((j : Int) < (n : Int)) = false := decide_eq_false (by omega)
        have heq : a = b := by
          have h1 := HTK.out
          have h2 := HN.out
          have h3 := HL.out
          rwa [List.take_of_length_le (by omega), List.take_of_length_le (by omega)] at h1
        have HEQ := Lib.hid heq
        clear hjn heq
        go_wp2
        go_ret
        exact ⟨true, rfl, ⟨fun _ => HEQ.out, fun _ => rfl⟩, m, rfl⟩
  · have e1 : ((a.length : Int) != (b.length : Int)) = true := by simp; omega
    have e2 : (a.length == b.length) = false := by simpa using hl
    have e3 : ((a.length : Int) == (b.length : Int)) = false := by simp; omega
    have HL := Lib.hid hl
    clear hl
    go_enter Tryz.func11, Tryz.ntmps11
    go_wp2
    go_ret
    exact ⟨false, rfl, ⟨fun h => (by cases h), fun h => absurd (congrArg List.length h) HL.out⟩, 0, rfl⟩

/-- What a law leaves. -/
def TruePost (w : World) (e : Ending) (w' : World) : Prop := e = .returned (.bool true) ∧ Keeps No w w'
end Go.Proofs.YtjbbapodcngnaaaGreatDoor
namespace Go.Proofs.YtjbbapodcngnaaaGreatDoor
open Go.RowKit Hdr

theorem sp_iff (c : UInt8) : sp c = true ↔ c = 32 ∨ c = 9 := by unfold sp; simp
theorem getD_at {l : List UInt8} {i : Nat} (h : i < l.length) : l.getD i 0 = l[i] := by rw [List.getD_eq_getElem?_getD, List.getElem?_eq_getElem h]; rfl

/-- What zzLastIndexAny answers. -/
def lastV (v : List UInt8) : Int := match lastBl v v.length with | some k => (k : Int) | none => -1

set_option maxRecDepth 100000 in
set_option maxHeartbeats 2000000 in
theorem lastIndex_any (l : List UInt8) (w : World) (hno : (10 : UInt8) ∉ l) (hlen : l.length ≤ 1000000000) :
    Calls Tryz.prog 188 #[str l, .string ⟨#[32, 9, 10]⟩] w fun e w' => e = .returned (.int .i64 (lastV l)) ∧ ∃ q, w' = w.drewN q := by
  have hls := str_len l
  have HNO := Lib.hid hno
  generalize hlv : lastV l = lv
  have HLV := Lib.hid hlv
  clear hno hlv
  have b1 : IntKind.i64.wrap ((l.length : Int) - 1) = (l.length : Int) - 1 := by rw [IntKind.wrap_i64]; omega
  go_enter Tryz.func188, Tryz.ntmps188
  go_wp2
  go_loopg [5] l.length (fun n s5 wr => s5 = .int .i64 ((n : Int) - 1) ∧ n ≤ l.length ∧ lastBl l l.length = lastBl l n ∧ ∃ q, wr = w.drewN q)
  case atStart => exact ⟨rfl, Nat.le_refl _, rfl, 0, rfl⟩
  case round =>
    obtain ⟨rfl, hn, hl, q, rfl⟩ := hrel
    have HL := Lib.hid hl
    clear hl
    cases gk with
    | zero =>
      have hv : lv = -1 := by
        rw [← HLV.out]
        unfold lastV
        rw [HL.out]
        rfl
      have HV := Lib.hid hv
      clear hv
      go_wp2
      go_ret
      exact ⟨by rw [HV.out]; rfl, q, rfl⟩
    | succ i =>
      have hi : i < l.length := by omega
      have e1 : (((i + 1 : Nat) : Int) - 1) = (i : Int) := by omega
      rw [e1]
      have hx := str_get l i hi
      have hmem : l[i] ∈ l := List.getElem_mem _
      have hlb : lastBl l (i + 1) = if sp l[i] then some i else lastBl l i := by
        conv => lhs; unfold lastBl
        rw [getD_at hi]
      generalize l[i] = c at *
      have hc10 : c ≠ 10 := fun h => HNO.out (h ▸ hmem)
      have HLB := Lib.hid hlb
      have HC10 := Lib.hid hc10
      have hm : c.toNat < 256 := c.toNat_lt
      clear hlb hc10 hmem e1
      go_wp2
      go_loopg [6] 3 (fun n s6 wx => ∃ k : Nat, s6 = .int .i64 (k : Int) ∧ k + n = 3 ∧ (1 ≤ k → c ≠ 32) ∧ (2 ≤ k → c ≠ 9) ∧ ∃ d, wx = w.drewN d)
      case atStart => exact ⟨0, rfl, rfl, fun h => by omega, fun h => by omega, q, rfl⟩
      case round =>
        obtain ⟨k, rfl, hkn, hk1, hk2, d, rfl⟩ := hrel
        have HK1 := Lib.hid hk1
        have HK2 := Lib.hid hk2
        clear hk1 hk2
        have hk : k = 0 ∨ k = 1 ∨ k = 2 ∨ k = 3 := by omega
        rcases hk with rfl | rfl | rfl | rfl
        · by_cases hc : c = 32
          · have e2 : ((c.toNat : Int) == ((⟨#[32, 9, 10]⟩ : ByteArray)[0].toNat : Int)) = true := by rw [hc]; rfl
            have hv : lv = i := by
              rw [← HLV.out]
              unfold lastV
              rw [HL.out, HLB.out, if_pos ((sp_iff c).2 (.inl hc))]
            have HV := Lib.hid hv
            clear hv hc
            go_upto_region 7 with (fail)
            go_quiet (fail)
            go_wp2
            go_ret
            exact ⟨by rw [HV.out]; rfl, d + nq, World.drewN_drewN _ _ _⟩
          · have e2 : ((c.toNat : Int) == ((⟨#[32, 9, 10]⟩ : ByteArray)[0].toNat : Int)) = false := by
              rw [beq_eq_false_iff_ne]
              intro h
              exact hc (UInt8.toNat.inj (by have : (c.toNat : Int) = 32 := h; show c.toNat = 32; omega))
            have HC := Lib.hid hc
            clear hc
            go_upto_region 7 with (fail)
            go_quiet (fail)
            go_wp2
            go_roundg (gk - 1)
            case measure => omega
            case rel => exact ⟨1, rfl, by omega, fun _ => HC.out, fun h => by omega, d + nq, rfl⟩
        · by_cases hc : c = 9
          · have e2 : ((c.toNat : Int) == ((⟨#[32, 9, 10]⟩ : ByteArray)[1].toNat : Int)) = true := by rw [hc]; rfl
            have hv : lv = i := by
              rw [← HLV.out]
              unfold lastV
              rw [HL.out, HLB.out, if_pos ((sp_iff c).2 (.inr hc))]
            have HV := Lib.hid hv
            clear hv hc
            go_upto_region 7 with (fail)
            go_quiet (fail)
            go_wp2
            go_ret
            exact ⟨by rw [HV.out]; rfl, d + nq, World.drewN_drewN _ _ _⟩
          · have e2 : ((c.toNat : Int) == ((⟨#[32, 9, 10]⟩ : ByteArray)[1].toNat : Int)) = false := by
              rw [beq_eq_false_iff_ne]
              intro h
              exact hc (UInt8.toNat.inj (by have : (c.toNat : Int) = 9 := h; show c.toNat = 9; omega))
            have HC := Lib.hid hc
            clear hc
            go_upto_region 7 with (fail)
            go_quiet (fail)
            go_wp2
            go_roundg (gk - 1)
            case measure => omega
            case rel => exact ⟨2, rfl, by omega, fun _ => HK1.out (by omega), fun _ => HC.out, d + nq, rfl⟩
        · have e2 : ((c.toNat : Int) == ((⟨#[32, 9, 10]⟩ : ByteArray)[2].toNat : Int)) = false := by
            rw [beq_eq_false_iff_ne]
            intro h
            exact HC10.out (UInt8.toNat.inj (by have : (c.toNat : Int) = 10 := h; show c.toNat = 10; omega))
          go_upto_region 7 with (fail)
          go_quiet (fail)
          go_wp2
          go_roundg (gk - 1)
          case measure => omega
          case rel => exact ⟨3, rfl, by omega, fun _ => HK1.out (by omega), fun _ => HK2.out (by omega), d + nq, rfl⟩
        · have hns : sp c = false := by
            cases h : sp c with
            | false => rfl
            | true =>
              rcases (sp_iff c).1 h with h | h
              · exact absurd h (HK1.out (by omega))
              · exact absurd h (HK2.out (by omega))
          have hl2 : lastBl l l.length = lastBl l i := by rw [HL.out, HLB.out, if_neg (by rw [hns]; decide)]
          have HL2 := Lib.hid hl2
          clear hns hl2
          go_wp2
          go_roundg i
          case measure => omega
          case rel => exact ⟨rfl, by omega, HL2.out, d, rfl⟩

/-- What foldLine answers. -/
def fl (v : List UInt8) (m : Nat) : List UInt8 × List UInt8 × Bool :=
  match brk v m with
  | some (a, b) => (a ++ [13, 10], b, true)
  | none => (v.take (cutN v m) ++ [13, 10, 32], v.drop (cutN v m), false)

theorem lastBl_congr {v u : List UInt8} : ∀ {n : Nat}, (∀ j, j < n → v.getD j 0 = u.getD j 0) → lastBl v n = lastBl u n
  | 0, _ => rfl
  | n + 1, h => by
    unfold lastBl
    rw [h n (by omega), lastBl_congr (fun j hj => h j (by omega))]
theorem lastBl_take (v : List UInt8) (n : Nat) : lastBl (v.take n) n = lastBl v n := lastBl_congr (fun j hj => by
  rw [List.getD_eq_getElem?_getD, List.getD_eq_getElem?_getD, List.getElem?_take, if_pos hj])

/-- Where foldLine stands ahead of its end. -/
def FlMid (v : List UInt8) (m : Nat) (w wx : World) (s6 s8 s9 : Value) : Prop :=
  ∃ (f : Nat) (x : List UInt8) (ok : Bool), s6 = .bool ok ∧ s8 = .int .i64 (f : Int) ∧ s9 = str x ∧ f ≤ v.length ∧ x.length ≤ 3 ∧ fl v m = (v.take f ++ x, v.drop f, ok) ∧ ∃ q, wx = w.drewN q

set_option maxRecDepth 100000 in
set_option maxHeartbeats 2000000 in
theorem foldLine_any (v : List UInt8) (m : Nat) (w : World) (hv : v ≠ []) (hno : (10 : UInt8) ∉ v) (hm : 2 ≤ m) (hm2 : m ≤ 100000) (hlen : v.length ≤ 1000000) :
    Calls Tryz.prog 143 #[str v, .int .i64 (m : Int)] w fun e w' => e = .returned (.tuple #[str (fl v m).1, str (fl v m).2.1, .bool (fl v m).2.2]) ∧ ∃ q, w' = w.drewN q := by
  have hls := str_len v
  have hpos := List.length_pos_iff.2 hv
  have HNO := Lib.hid hno
  have HV := Lib.hid hv
  have b1 : IntKind.i64.wrap ((m : Int) + 1) = (m : Int) + 1 := by rw [IntKind.wrap_i64]; omega
  have hne10 : ∀ i (h : i < v.length), ((v[i].toNat : Int) != 10) = true ∧ ((v[i].toNat : Int) == 10) = false := fun i h => by
    have h1 : v[i].toNat ≠ 10 := fun he => hno (by
      have : v[i] = 10 := UInt8.toNat.inj he
      rw [← this]
      exact List.getElem_mem _)
    exact ⟨by rw [bne_iff_ne]; omega, by rw [beq_eq_false_iff_ne]; omega⟩
  have HNE := Lib.hid hne10
  clear hno hv hne10
  go_enter Tryz.func143, Tryz.ntmps143
  go_upto_region 5 with (fail)
  go_cut [17] (fun s17 wx => s17 = .bool (decide (v.length ≤ m)) ∧ w = wx)
  case first =>
    have e1 : decide ((v.length : Int) < (m : Int) + 1) = decide (v.length ≤ m) := by
      rw [Bool.eq_iff_iff]
      simp only [decide_eq_true_eq]
      omega
    go_wp2
    go_meet
    exact ⟨rfl, rfl⟩
  case rest =>
    obtain ⟨rfl, rfl⟩ := hcut
    go_upto_if 17 with (fail)
    go_cut [6, 8, 9] (fun s6 s8 s9 wx => FlMid v m w wx s6 s8 s9)
    case first =>
      by_cases hlm : v.length ≤ m
      · rw [decide_eq_true hlm]
        have hi : v.length - 1 < v.length := by omega
        have hx := str_get v (v.length - 1) hi
        have h10 := (HNE.out (v.length - 1) hi).1
        generalize v[v.length - 1] = x at *
        have b2 : ((v.length : Int) - 1) = ((v.length - 1 : Nat) : Int) := by omega
        have b3 : IntKind.i64.wrap ((v.length : Int) - 1) = ((v.length - 1 : Nat) : Int) := by rw [IntKind.wrap_i64]; omega
        have hfl : fl v m = (v.take v.length ++ [13, 10], v.drop v.length, true) := by
          unfold fl brk
          rw [if_pos hlm, List.take_length, List.drop_length]
        have HFL := Lib.hid hfl
        have hvl : v.length - 1 < v.length := hi
        clear hfl hlm
        go_wp2
        go_meet
        exact ⟨v.length, [13, 10], true, rfl, rfl, rfl, Nat.le_refl _, by simp, HFL.out, 0, rfl⟩
      · rw [decide_eq_false hlm]
        have hml : m + 1 ≤ v.length := by omega
        have hsc := str_cut v 0 (m + 1)
        rw [List.drop_zero, Nat.sub_zero] at hsc
        have hno : (10 : UInt8) ∉ v.take (m + 1) := fun h => HNO.out (List.mem_of_mem_take h)
        have hlv : lastV (v.take (m + 1)) = match lastBl v (m + 1) with | some k => (k : Int) | none => -1 := by
          unfold lastV
          rw [List.length_take, Nat.min_eq_left hml, lastBl_take]
        have HLI := Lib.hid (lastIndex_any (v.take (m + 1)) w hno (by simp; omega))
        rw [hlv] at HLI
        have hfl : fl v m = match lastBl v (m + 1) with | some (k + 1) => (v.take (k + 1) ++ [13, 10], v.drop (k + 1), true) | _ => (v.take (cutN v m) ++ [13, 10, 32], v.drop (cutN v m), false) := by
          unfold fl brk
          rw [if_neg hlm]
          cases lastBl v (m + 1) with
          | none => rfl
          | some k => cases k <;> rfl
        have HFL := Lib.hid hfl
        have b2 : ((m : Int) + 1 - 1) = (m : Int) := by omega
        clear hno hlv hfl hlm
        cases hlb : lastBl v (m + 1) with
        | none =>
          rw [hlb] at HLI
          have hab := lastBl_none hlb
          have hcut : cutN v m = m - 1 := by
            unfold cutN
            rw [if_neg]
            cases v with
            | nil => simp [spHead]
            | cons y r =>
              have := hab 0 (by omega)
              intro h
              have h2 : sp y = true := h
              simp at this
              rw [this] at h2
              cases h2
          have HAB := Lib.hid hab
          have HCUT := Lib.hid hcut
          have b3 : ((m : Int) + 1 - 2) = ((m - 1 : Nat) : Int) := by omega
          have b4 : IntKind.i64.wrap ((m : Int) + 1 - 2) = ((m - 1 : Nat) : Int) := by rw [IntKind.wrap_i64]; omega
          clear hab hcut
          have hi : m - 1 < v.length := by omega
          have hx := str_get v (m - 1) hi
          have h10 := (HNE.out (m - 1) hi).2
          have hg := getD_at hi
          generalize v[m - 1] = x at *
          have hns : sp x = false := by rw [← hg]; exact HAB.out _ (by omega)
          have e3 : ((x.toNat : Int) == 32) = false := by
            rw [beq_eq_false_iff_ne]
            intro h
            have : x = 32 := UInt8.toNat.inj (by show x.toNat = 32; omega)
            rw [this] at hns
            cases hns
          have e4 : ((x.toNat : Int) == 9) = false := by
            rw [beq_eq_false_iff_ne]
            intro h
            have : x = 9 := UInt8.toNat.inj (by show x.toNat = 9; omega)
            rw [this] at hns
            cases hns
          have hfl : fl v m = (v.take (m - 1) ++ [13, 10, 32], v.drop (m - 1), false) := by
            rw [HFL.out, hlb]
            show (v.take (cutN v m) ++ [13, 10, 32], v.drop (cutN v m), false) = _
            rw [HCUT.out]
          have HF := Lib.hid hfl
          clear hfl hlb hns hg
          go_wp2_with (fail)
          refine HLI.out.mono ?_
          rintro e w2 ⟨rfl, q, rfl⟩
          go_wp2
          go_meet
          exact ⟨m - 1, [13, 10, 32], false, rfl, rfl, rfl, by omega, by simp, HF.out, q, rfl⟩
        | some k =>
          cases k with
          | zero =>
            rw [hlb] at HLI
            have hab := lastBl_above hlb
            have hs0 := (lastBl_some hlb).2
            have hcut : cutN v m = m := by
              unfold cutN
              rw [if_pos]
              cases v with
              | nil => simp at hpos
              | cons y r =>
                show sp y = true
                simpa using hs0
            have HAB := Lib.hid hab
            have HCUT := Lib.hid hcut
            clear hab hcut hs0
            have hi : m < v.length := by omega
            have hx := str_get v (m) hi
            have h10 := (HNE.out (m) hi).2
            have hg := getD_at hi
            generalize v[m] = x at *
            have hns : sp x = false := by rw [← hg]; exact HAB.out _ (by omega) (by omega)
            have e3 : ((x.toNat : Int) == 32) = false := by
              rw [beq_eq_false_iff_ne]
              intro h
              have : x = 32 := UInt8.toNat.inj (by show x.toNat = 32; omega)
              rw [this] at hns
              cases hns
            have e4 : ((x.toNat : Int) == 9) = false := by
              rw [beq_eq_false_iff_ne]
              intro h
              have : x = 9 := UInt8.toNat.inj (by show x.toNat = 9; omega)
              rw [this] at hns
              cases hns
            have hfl : fl v m = (v.take (m) ++ [13, 10, 32], v.drop (m), false) := by
              rw [HFL.out, hlb]
              show (v.take (cutN v m) ++ [13, 10, 32], v.drop (cutN v m), false) = _
              rw [HCUT.out]
            have HF := Lib.hid hfl
            clear hfl hlb hns hg
            go_wp2_with (fail)
            refine HLI.out.mono ?_
            rintro e w2 ⟨rfl, q, rfl⟩
            go_wp2
            go_meet
            exact ⟨m, [13, 10, 32], false, rfl, rfl, rfl, by omega, by simp, HF.out, q, rfl⟩
          | succ k =>
            rw [hlb] at HLI
            obtain ⟨hk1, hs1⟩ := lastBl_some hlb
            have hi : k + 1 < v.length := by omega
            have hx := str_get v (k + 1) hi
            have hy := str_get v k (by omega)
            have h10 := (HNE.out k (by omega)).1
            rw [getD_at hi] at hs1
            generalize v[k + 1] = x at *
            generalize v[k] = y at *
            have hfl : fl v m = (v.take (k + 1) ++ [13, 10], v.drop (k + 1), true) := by rw [HFL.out, hlb]
            have HF := Lib.hid hfl
            have hk : k < v.length := by omega
            clear hfl hlb
            rcases (sp_iff x).1 hs1 with hq | hq
            · have e3 : ((x.toNat : Int) == 32) = true := by rw [hq]; rfl
              clear hs1 hq
              go_wp2_with (fail)
              refine HLI.out.mono ?_
              rintro e w2 ⟨rfl, q, rfl⟩
              go_wp2
              go_meet
              exact ⟨k + 1, [13, 10], true, rfl, rfl, rfl, by omega, by simp, HF.out, q, rfl⟩
            · have e3 : ((x.toNat : Int) == 32) = false := by rw [hq]; rfl
              have e4 : ((x.toNat : Int) == 9) = true := by rw [hq]; rfl
              clear hs1 hq
              go_wp2_with (fail)
              refine HLI.out.mono ?_
              rintro e w2 ⟨rfl, q, rfl⟩
              go_wp2
              go_meet
              exact ⟨k + 1, [13, 10], true, rfl, rfl, rfl, by omega, by simp, HF.out, q, rfl⟩
    case rest =>
      obtain ⟨f, x, ok, rfl, rfl, rfl, hfv, hx3, hfl, q, rfl⟩ := hcut
      have hc1 := str_cut v 0 f
      have hc2 := str_cut v f v.length
      rw [List.drop_zero, Nat.sub_zero] at hc1
      rw [List.take_of_length_le (by simp)] at hc2
      have ha := str_app (v.take f) x
      have hfi : (f : Int) ≤ (v.length : Int) := by omega
      have hle : (v.take f).length + x.length ≤ 2000000 := by
        rw [List.length_take]
        omega
      have HFL := Lib.hid hfl
      clear hfl
      go_upto_region 22 with (fail)
      go_quiet (fail)
      go_wp2
      go_ret3
      exact ⟨by rw [HFL.out]; rfl, q + nq, World.drewN_drewN _ _ _⟩
end Go.Proofs.YtjbbapodcngnaaaGreatDoor
namespace Go.Proofs.YtjbbapodcngnaaaGreatDoor
open Go.RowKit Hdr

theorem piece_fl (a : Nat) (u : List UInt8) : ((fl u (76 - a)).2.2 = true → piece a u = ((fl u (76 - a)).1, (fl u (76 - a)).2.1)) ∧ ((fl u (76 - a)).2.2 = false → piece a u = ((fl u (998 - a)).1, (fl u (998 - a)).2.1)) := by
  unfold fl piece
  cases h1 : brk u (76 - a) with
  | some x => exact ⟨fun _ => rfl, fun h => by cases h⟩
  | none =>
    refine ⟨fun h => (by cases h), fun _ => ?_⟩
    cases h2 : brk u (998 - a) <;> rfl

/-- Where formatHeaderField stands. -/
structure Fmt (k v u acc : List UInt8) (first : Bool) : Prop where
  no : (10 : UInt8) ∉ u
  len : acc.length + 4 * u.length ≤ k.length + 2 + 4 * v.length
  ul : u.length ≤ v.length
  fst : first = true → acc.length = k.length + 2
  eq : acc ++ foldGo (if first then k.length + 2 else 0) u = k ++ [58, 32] ++ foldGo (k.length + 2) v

set_option maxRecDepth 100000 in
set_option maxHeartbeats 2000000 in
theorem format_any (k v : List UInt8) (w : World) (hk : k.length ≤ 40) (hno : (10 : UInt8) ∉ v) (hlen : v.length ≤ 100000) :
    Calls Tryz.prog 109 #[str k, str v] w fun e w' => e = .returned (str (fold k v)) ∧ ∃ q, w' = w.drewN q := by
  have hlk := str_len k
  have hlv := str_len v
  have ha := str_app k [58, 32]
  have hle : k.length + 2 ≤ 1000000 := by omega
  generalize hfo : fold k v = out
  have HFO := Lib.hid hfo
  have HNO := Lib.hid hno
  clear hfo hno
  by_cases hv : v = []
  · have hem : v.isEmpty = true := by rw [hv]; rfl
    have hout : out = k ++ [58, 32] ++ [13, 10] := by rw [← HFO.out]; unfold fold; rw [if_pos hv]
    have hb := str_app (k ++ [58, 32]) [13, 10]
    have hle2 : (k ++ [58, 32]).length + 2 ≤ 1000000 := by simp; omega
    have HO := Lib.hid hout
    clear hv hout
    go_enter Tryz.func109, Tryz.ntmps109
    go_wp2
    go_ret
    exact ⟨by rw [HO.out, List.append_assoc]; rfl, 0, rfl⟩
  · have hem : v.isEmpty = false := by cases v with | nil => exact absurd rfl hv | cons _ _ => rfl
    have hout : out = k ++ [58, 32] ++ foldGo (k.length + 2) v := by rw [← HFO.out]; unfold fold; rw [if_neg hv]
    have HO := Lib.hid hout
    have HV := Lib.hid hv
    clear hv hout
    go_enter Tryz.func109, Tryz.ntmps109
    go_wp2
    go_loopg [1, 5, 6] v.length (fun n s1 s5 s6 wr => ∃ (u acc : List UInt8) (first : Bool), s1 = str u ∧ s5 = str acc ∧ s6 = .bool first ∧ n = u.length ∧ Fmt k v u acc first ∧ ∃ q, wr = w.drewN q)
    case atStart => exact ⟨v, k ++ [58, 32], true, rfl, rfl, rfl, rfl, ⟨HNO.out, by simp, Nat.le_refl _, fun _ => by simp, rfl⟩, 0, rfl⟩
    case round =>
      obtain ⟨u, acc, first, rfl, rfl, rfl, hn, hF, q, rfl⟩ := hrel
      have HN := Lib.hid hn
      have HF := Lib.hid hF
      clear hn hF
      have hlu := str_len u
      have hla := str_len acc
      by_cases hu : u = []
      · have hu0 : u.length = 0 := by rw [hu]; rfl
        have e1 : decide ((0 : Int) < (u.length : Int)) = false := decide_eq_false (by omega)
        have e2 : decide (0 < u.length) = false := decide_eq_false (by omega)
        have hacc : acc = out := by
          have := HF.out.eq
          rw [hu, foldGo_nil, List.append_nil] at this
          rw [HO.out, this]
        have HA := Lib.hid hacc
        clear hu hacc hu0
        go_wp2
        go_ret
        exact ⟨by rw [← HA.out]; rfl, q, rfl⟩
      · have hu0 : 0 < u.length := List.length_pos_iff.2 hu
        have e1 : decide ((0 : Int) < (u.length : Int)) = true := decide_eq_true (by omega)
        have e2 : decide (0 < u.length) = true := decide_eq_true (by omega)
        have hul := HF.out.ul
        have HU := Lib.hid hu
        clear hu
        go_upto_if 20 with (fail)
        obtain ⟨a, hA⟩ : ∃ a, a = (if first then k.length + 2 else 0) := ⟨_, rfl⟩
        have ha42 : a ≤ 42 := by rw [hA]; split <;> omega
        have HA := Lib.hid hA
        have hfst := HF.out.fst
        clear hA
        go_cut [7] (fun s7 wx => s7 = .int .i64 (a : Int) ∧ wx = w.drewN q)
        case first =>
          cases first with
          | true =>
            have hal := hfst rfl
            have haa : a = acc.length := by rw [HA.out, hal]; rfl
            have HAA := Lib.hid haa
            clear hal hfst haa
            go_wp2
            go_meet
            exact ⟨by rw [HAA.out], rfl⟩
          | false =>
            have haa : a = 0 := HA.out
            have HAA := Lib.hid haa
            clear hfst haa
            go_wp2
            go_meet
            exact ⟨by rw [HAA.out]; rfl, rfl⟩
        case rest =>
          obtain ⟨rfl, rfl⟩ := hcut
          clear hfst
          have b1 : (76 : Int) - (a : Int) = ((76 - a : Nat) : Int) := by omega
          have b2 : IntKind.i64.wrap ((76 : Int) - (a : Int)) = ((76 - a : Nat) : Int) := by rw [IntKind.wrap_i64]; omega
          have b3 : (998 : Int) - (a : Int) = ((998 - a : Nat) : Int) := by omega
          have b4 : IntKind.i64.wrap ((998 : Int) - (a : Int)) = ((998 - a : Nat) : Int) := by rw [IntKind.wrap_i64]; omega
          have h1 := fun w => foldLine_any u (76 - a) w HU.out HF.out.no (by omega) (by omega) (by omega)
          have h2 := fun w => foldLine_any u (998 - a) w HU.out HF.out.no (by omega) (by omega) (by omega)
          have hpf := piece_fl a u
          generalize fl u (76 - a) = f1 at *
          generalize fl u (998 - a) = f2 at *
          obtain ⟨l1, n1, k1⟩ := f1
          obtain ⟨l2, n2, k2⟩ := f2
          simp only at h1 h2 hpf
          have hpl := piece_len a u
          have hplt := piece_lt (ahead := a) HU.out (by omega)
          have hpn := piece_no (x := 10) (ahead := a) HF.out.no
          have hgo := foldGo_cons (ahead := a) HU.out (by omega)
          generalize piece a u = pc at *
          obtain ⟨pl, pn⟩ := pc
          simp only at hpl hplt hpn hgo
          have H1 := Lib.hid h1
          have H2 := Lib.hid h2
          have HPF := Lib.hid hpf
          have HGO := Lib.hid hgo
          have HPN := Lib.hid hpn
          clear h1 h2 hpf hgo hpn
          go_wp2_with (fail)
          refine (H1.out _).mono ?_
          rintro e w2 ⟨rfl, q2, rfl⟩
          rw [World.drewN_drewN]
          go_upto_if 32 with (fail)
          go_cut [8, 9] (fun s8 s9 wx => s8 = str pl ∧ s9 = str pn ∧ ∃ q3, wx = w.drewN q3)
          case first =>
            cases k1 with
            | true =>
              have := HPF.out.1 rfl
              simp only [Prod.mk.injEq] at this
              obtain ⟨rfl, rfl⟩ := this
              go_wp2
              go_meet
              exact ⟨rfl, rfl, _, rfl⟩
            | false =>
              have := HPF.out.2 rfl
              simp only [Prod.mk.injEq] at this
              obtain ⟨rfl, rfl⟩ := this
              go_wp2_with (fail)
              refine (H2.out _).mono ?_
              rintro e w2 ⟨rfl, q3, rfl⟩
              rw [World.drewN_drewN]
              go_wp2
              go_meet
              exact ⟨rfl, rfl, _, rfl⟩
          case rest =>
            obtain ⟨rfl, rfl, q3, rfl⟩ := hcut
            have hl := HF.out.len
            have hb := str_app acc pl
            have hle3 : acc.length + pl.length ≤ 10000000 := by omega
            go_wp2
            go_roundg pn.length
            case measure => have := HN.out; omega
            case rel =>
              refine ⟨pn, acc ++ pl, false, rfl, rfl, rfl, rfl, ⟨HPN.out, by simp; omega, by omega, fun h => (by cases h), ?_⟩, q3, rfl⟩
              have h3 := HF.out.eq
              rw [← HA.out, HGO.out] at h3
              rw [← h3]
              simp
end Go.Proofs.YtjbbapodcngnaaaGreatDoor
namespace Go.Proofs.YtjbbapodcngnaaaGreatDoor
open Go.RowKit Hdr

def brkA (v : List UInt8) (room : Nat) : List UInt8 × List UInt8 × Bool :=
  match brk v room with
  | some (a, b) => (a, b, true)
  | none => ([], [], false)

set_option maxRecDepth 100000 in
set_option maxHeartbeats 2000000 in
theorem broken9_any (v : List UInt8) (room : Nat) (w : World) (hr : room ≤ 100000) (hlen : v.length ≤ 1000000) :
    Calls Tryz.prog 95 #[str v, .int .i64 (room : Int)] w fun e w' => e = .returned (.tuple #[str (brkA v room).1, str (brkA v room).2.1, .bool (brkA v room).2.2]) ∧ ∃ q, w' = w.drewN q := by
  have hls := str_len v
  by_cases hle : v.length ≤ room
  · have hb : brkA v room = (v, [], true) := by unfold brkA brk; rw [if_pos hle]
    rw [hb]
    have e1 : decide (v.length ≤ room) = true := decide_eq_true hle
    go_enter Tryz.func95, Tryz.ntmps95
    go_wp2
    go_ret3
    exact ⟨rfl, 0, rfl⟩
  · have hb : brkA v room = match lastBl v (room + 1) with | some (k + 1) => (v.take (k + 1), v.drop (k + 1), true) | _ => ([], [], false) := by
      unfold brkA brk
      rw [if_neg hle]
      cases lastBl v (room + 1) with
      | none => rfl
      | some k => cases k <;> rfl
    generalize hbv : brkA v room = bv at *
    have HB := Lib.hid hb
    have e1 : decide (v.length ≤ room) = false := decide_eq_false hle
    have hmin : min (room : Int) ((v.length : Int) - 1) = (room : Int) := by omega
    have hrl : room < v.length := by omega
    clear hb hbv hle
    go_enter Tryz.func95, Tryz.ntmps95
    go_wp2
    go_loopg [7] room (fun n s7 wr => s7 = .int .i64 (n : Int) ∧ n ≤ room ∧ lastBl v (room + 1) = lastBl v (n + 1) ∧ ∃ q, wr = w.drewN q)
    case atStart => exact ⟨rfl, Nat.le_refl _, rfl, 0, rfl⟩
    case round =>
      obtain ⟨rfl, hn, hl, q, rfl⟩ := hrel
      have HL := Lib.hid hl
      clear hl
      cases gk with
      | zero =>
        have hbv : bv = ([], [], false) := by
          rw [HB.out, HL.out]
          cases hq : lastBl v (0 + 1) with
          | none => rfl
          | some k =>
            have := (lastBl_some hq).1
            obtain rfl : k = 0 := by omega
            rfl
        have HV := Lib.hid hbv
        clear hbv
        go_wp2
        go_ret3
        exact ⟨by rw [HV.out]; rfl, q, rfl⟩
      | succ i =>
        have hi : i + 1 < v.length := by omega
        have hx := str_get v (i + 1) hi
        have hlb : lastBl v (i + 1 + 1) = if sp v[i + 1] then some (i + 1) else lastBl v (i + 1) := by
          conv => lhs; unfold lastBl
          rw [getD_at hi]
        generalize v[i + 1] = c at *
        have HLB := Lib.hid hlb
        clear hlb
        have e2 : (((i + 1 : Nat) : Int) - 1) = (i : Int) := by omega
        have e3 : decide ((0 : Int) < ((i + 1 : Nat) : Int)) = true := decide_eq_true (by omega)
        have e4 : IntKind.i64.wrap (((i + 1 : Nat) : Int) - 1) = (i : Int) := by rw [IntKind.wrap_i64]; omega
        go_wp2_with (fail)
        refine (isBlank9_any c _).mono ?_
        rintro e w2 ⟨rfl, rfl⟩
        cases hs : sp c with
        | true =>
          have hbv : bv = (v.take (i + 1), v.drop (i + 1), true) := by rw [HB.out, HL.out, HLB.out, hs]; rfl
          have hc1 := str_cut v 0 (i + 1)
          have hc2 := str_cut v (i + 1) v.length
          rw [List.drop_zero, Nat.sub_zero] at hc1
          rw [List.take_of_length_le (by simp)] at hc2
          have hil : ((i + 1 : Nat) : Int) ≤ (v.length : Int) := by omega
          have HV := Lib.hid hbv
          clear hbv hs
          go_upto_region 7 with (fail)
          go_quiet (fail)
          go_wp2
          go_ret3
          exact ⟨by rw [HV.out]; rfl, q + nq, World.drewN_drewN _ _ _⟩
        | false =>
          have hl2 : lastBl v (room + 1) = lastBl v (i + 1) := by rw [HL.out, HLB.out, hs]; rfl
          have HL2 := Lib.hid hl2
          clear hl2 hs
          go_wp2
          go_roundg i
          case measure => omega
          case rel => exact ⟨by simp, by omega, HL2.out, q, rfl⟩

def tailF (a : Nat) (u : List UInt8) : List UInt8 := if u = [] then [13, 10] else foldGo a u
theorem tailF_eq (a : Nat) (u : List UInt8) (ha : a ≤ 76) : tailF a u = (piece a u).1 ++ (if (piece a u).2 = [] then [] else tailF 0 (piece a u).2) := by
  by_cases hu : u = []
  · subst hu
    have : piece a [] = ([13, 10], []) := by unfold piece brk; rw [if_pos (by simp)]; rfl
    rw [this]
    rfl
  · unfold tailF
    rw [if_neg hu, foldGo_cons hu (by omega)]
    by_cases hp : (piece a u).2 = []
    · rw [if_pos hp, hp, foldGo_nil]
    · rw [if_neg hp, if_neg hp]

theorem piece_brk (a : Nat) (u : List UInt8) : ((brkA u (76 - a)).2.2 = true → piece a u = ((brkA u (76 - a)).1 ++ [13, 10], (brkA u (76 - a)).2.1)) ∧
    ((brkA u (76 - a)).2.2 = false → ((brkA u (998 - a)).2.2 = true → piece a u = ((brkA u (998 - a)).1 ++ [13, 10], (brkA u (998 - a)).2.1)) ∧
      ((brkA u (998 - a)).2.2 = false → piece a u = (u.take (cutN u (998 - a)) ++ [13, 10, 32], u.drop (cutN u (998 - a))) ∧ 998 - a < u.length)) := by
  unfold brkA piece
  cases h1 : brk u (76 - a) with
  | some x => exact ⟨fun _ => rfl, fun h => by cases h⟩
  | none =>
    refine ⟨fun h => (by cases h), fun _ => ?_⟩
    cases h2 : brk u (998 - a) with
    | some y => exact ⟨fun _ => rfl, fun h => by cases h⟩
    | none => exact ⟨fun h => (by cases h), fun _ => ⟨rfl, brk_none h2⟩⟩

set_option maxRecDepth 100000 in
set_option maxHeartbeats 2000000 in
theorem folded9_any (k v : List UInt8) (w : World) (hk : k.length ≤ 40) (hlen : v.length ≤ 100000) :
    Calls Tryz.prog 71 #[str k, str v] w fun e w' => e = .returned (str (fold k v)) ∧ ∃ q, w' = w.drewN q := by
  have hlk := str_len k
  have ha := str_app k [58, 32]
  have hla := str_len (k ++ [58, 32])
  have hll : (k ++ [58, 32]).length = k.length + 2 := by simp
  rw [hll] at hla
  have hle : k.length + 2 ≤ 1000000 := by omega
  have hfo : fold k v = k ++ [58, 32] ++ tailF (k.length + 2) v := rfl
  generalize fold k v = out at *
  have HFO := Lib.hid hfo
  clear hfo hll
  go_enter Tryz.func71, Tryz.ntmps71
  go_wp2
  go_loopg [1, 5, 6] (v.length + 1) (fun n s1 s5 s6 wr => ∃ (u acc : List UInt8) (a : Nat), s1 = str u ∧ s5 = str acc ∧ s6 = .int .i64 (a : Int) ∧ n = u.length + 1 ∧ a ≤ 42 ∧ u.length ≤ v.length ∧ acc.length + 4 * u.length ≤ k.length + 2 + 4 * v.length ∧ acc ++ tailF a u = out ∧ ∃ q, wr = w.drewN q)
  case atStart => exact ⟨v, k ++ [58, 32], k.length + 2, rfl, rfl, by simp, rfl, by omega, Nat.le_refl _, by simp, HFO.out.symm, 0, rfl⟩
  case round =>
    obtain ⟨u, acc, a, rfl, rfl, rfl, hn, ha42, hul, hal, heq, q, rfl⟩ := hrel
    have HN := Lib.hid hn
    have HEQ := Lib.hid heq
    have hlu := str_len u
    have htf := tailF_eq a u (by omega)
    have hpl := piece_len a u
    have hpt : u ≠ [] → (piece a u).2.length < u.length := fun h => piece_lt h (by omega)
    have hpb := piece_brk a u
    have hp0 : u = [] → (piece a u).2 = [] := by
      rintro rfl
      unfold piece brk
      rw [if_pos (by simp)]
    clear hn heq
    have b1 : (76 : Int) - (a : Int) = ((76 - a : Nat) : Int) := by omega
    have b2 : IntKind.i64.wrap ((76 : Int) - (a : Int)) = ((76 - a : Nat) : Int) := by rw [IntKind.wrap_i64]; omega
    have b3 : (998 : Int) - (a : Int) = ((998 - a : Nat) : Int) := by omega
    have b4 : IntKind.i64.wrap ((998 : Int) - (a : Int)) = ((998 - a : Nat) : Int) := by rw [IntKind.wrap_i64]; omega
    have b5 : (997 : Int) - (a : Int) = ((997 - a : Nat) : Int) := by omega
    have b6 : IntKind.i64.wrap ((997 : Int) - (a : Int)) = ((997 - a : Nat) : Int) := by rw [IntKind.wrap_i64]; omega
    have h1 := fun w => broken9_any u (76 - a) w (by omega) (by omega)
    have h2 := fun w => broken9_any u (998 - a) w (by omega) (by omega)
    generalize brkA u (76 - a) = f1 at *
    generalize brkA u (998 - a) = f2 at *
    obtain ⟨l1, n1, k1⟩ := f1
    obtain ⟨l2, n2, k2⟩ := f2
    generalize hpc : piece a u = pc at *
    obtain ⟨pl, pn⟩ := pc
    simp only at h1 h2 hpb htf hpl hpt hp0
    have HP0 := Lib.hid hp0
    have H1 := Lib.hid h1
    have H2 := Lib.hid h2
    have HPB := Lib.hid hpb
    have HTF := Lib.hid htf
    have HPT := Lib.hid hpt
    clear h1 h2 hpb htf hpc hpt hp0
    go_wp2_with (fail)
    refine (H1.out _).mono ?_
    rintro e w2 ⟨rfl, q2, rfl⟩
    rw [World.drewN_drewN]
    go_upto_if 24 with (fail)
    go_cut [7, 8, 9] (fun s7 s8 s9 wx => ∃ (x y : List UInt8) (ok : Bool), s7 = str x ∧ s8 = str y ∧ s9 = .bool ok ∧ (ok = true → pl = x ++ [13, 10] ∧ pn = y) ∧ (ok = false → pl = u.take (cutN u (998 - a)) ++ [13, 10, 32] ∧ pn = u.drop (cutN u (998 - a)) ∧ 998 - a < u.length) ∧ ∃ q3, wx = w.drewN q3)
    case first =>
      cases k1 with
      | true =>
        have := HPB.out.1 rfl
        simp only [Prod.mk.injEq] at this
        have HT := Lib.hid this
        clear this
        go_wp2
        go_meet
        exact ⟨l1, n1, true, rfl, rfl, rfl, fun _ => HT.out, fun h => (by cases h), _, rfl⟩
      | false =>
        obtain ⟨p1, p2⟩ := HPB.out.2 rfl
        simp only [Prod.mk.injEq] at p1 p2
        have HP1 := Lib.hid p1
        have HP2 := Lib.hid p2
        clear p1 p2
        go_wp2_with (fail)
        refine (H2.out _).mono ?_
        rintro e w2 ⟨rfl, q3, rfl⟩
        rw [World.drewN_drewN]
        go_wp2
        go_meet
        exact ⟨l2, n2, k2, rfl, rfl, rfl, fun h => HP1.out h, fun h => ⟨(HP2.out h).1.1, (HP2.out h).1.2, (HP2.out h).2⟩, _, rfl⟩
    case rest =>
      obtain ⟨x, y, ok, rfl, rfl, rfl, hyes, hnot, q3, rfl⟩ := hcut
      have HY := Lib.hid hyes
      have HNO := Lib.hid hnot
      clear hyes hnot
      cases ok with
      | true =>
        obtain ⟨rfl, rfl⟩ := HY.out rfl
        have hc1 := str_app x [13, 10]
        have hc2 := str_app acc (x ++ [13, 10])
        have hxl : (x ++ [13, 10]).length = x.length + 2 := by simp
        have hl1 : x.length + 2 ≤ 10000000 := by rw [hxl] at hpl; omega
        have hl2 : acc.length + (x ++ [13, 10]).length ≤ 10000000 := by omega
        have hly := str_len pn
        by_cases hy : pn = []
        · have hem : pn.isEmpty = true := by rw [hy]; rfl
          have hout : acc ++ (x ++ [13, 10]) = out := by
            rw [← HEQ.out, HTF.out, if_pos hy, List.append_nil]
          have HOUT := Lib.hid hout
          clear hy hout hxl
          go_wp2
          go_ret
          exact ⟨by rw [← HOUT.out]; rfl, q3, rfl⟩
        · have hem : pn.isEmpty = false := by cases pn with | nil => exact absurd rfl hy | cons _ _ => rfl
          have hout : acc ++ (x ++ [13, 10]) ++ tailF 0 pn = out := by
            rw [← HEQ.out, HTF.out, if_neg hy, List.append_assoc]
          have hun : u ≠ [] := by
            intro hu0
            exact hy (HP0.out hu0)
          have hyl := HPT.out hun
          have HOUT := Lib.hid hout
          have HXL := Lib.hid hxl
          clear hy hout hun hxl
          go_wp2
          go_roundg (pn.length + 1)
          case measure => have := HN.out; omega
          case rel => exact ⟨pn, acc ++ (x ++ [13, 10]), 0, rfl, rfl, rfl, rfl, by omega, by omega, by simp; have := HXL.out; omega, HOUT.out, q3, rfl⟩
      | false =>
        obtain ⟨rfl, rfl, hlt⟩ := HNO.out rfl
        obtain ⟨z, r, rfl⟩ : ∃ z r, u = z :: r := by
          cases u with
          | nil => simp at hlt
          | cons z r => exact ⟨z, r, rfl⟩
        have hz := str_get (z :: r) 0 (by simp)
        simp only [List.getElem_cons_zero] at hz
        have hcn : cutN (z :: r) (998 - a) = if sp z then 998 - a else 998 - a - 1 := rfl
        have hout : acc ++ ((z :: r).take (cutN (z :: r) (998 - a)) ++ [13, 10, 32]) ++ tailF 0 ((z :: r).drop (cutN (z :: r) (998 - a))) = out := by
          have hdn : (z :: r).drop (cutN (z :: r) (998 - a)) ≠ [] := by
            intro h
            have := congrArg List.length h
            rw [List.length_drop, List.length_nil, hcn] at this
            split at this <;> omega
          rw [← HEQ.out, HTF.out, if_neg hdn, List.append_assoc]
        generalize hN : cutN (z :: r) (998 - a) = n at *
        have hn1 : 900 ≤ n ∧ n ≤ 998 ∧ n < (z :: r).length := by rw [hcn]; split <;> omega
        have HOUT := Lib.hid hout
        have HCN := Lib.hid hcn
        have hlz := str_len (z :: r)
        clear hout hcn hN
        go_wp2_with (fail)
        refine (isBlank9_any z _).mono ?_
        rintro e w2 ⟨rfl, rfl⟩
        go_upto_if 39 with (fail)
        go_cut [10] (fun s10 wx => s10 = .int .i64 (n : Int) ∧ wx = w.drewN q3)
        case first =>
          cases hs : sp z with
          | true =>
            have hn2 : n = 998 - a := by rw [HCN.out, hs]; rfl
            have b7 : ((997 - a : Nat) : Int) + 1 = (n : Int) := by omega
            have b8 : IntKind.i64.wrap (((997 - a : Nat) : Int) + 1) = (n : Int) := by rw [IntKind.wrap_i64]; omega
            clear hn2 hs
            go_wp2
            go_meet
            exact ⟨rfl, rfl⟩
          | false =>
            have hn2 : n = 997 - a := by rw [HCN.out, hs]; show 998 - a - 1 = _; omega
            have HN2 := Lib.hid hn2
            clear hn2 hs
            go_wp2
            go_meet
            exact ⟨by rw [HN2.out], rfl⟩
        case rest =>
          obtain ⟨rfl, rfl⟩ := hcut
          have hc1 := str_cut (z :: r) 0 n
          have hc2 := str_cut (z :: r) n (z :: r).length
          rw [List.drop_zero, Nat.sub_zero] at hc1
          rw [List.take_of_length_le (by simp)] at hc2
          have hni : (n : Int) ≤ ((z :: r).length : Int) := by omega
          have htl : ((z :: r).take n).length = n := by rw [List.length_take]; omega
          have hdl : ((z :: r).drop n).length = (z :: r).length - n := List.length_drop
          generalize (z :: r).take n = A at *
          generalize (z :: r).drop n = B at *
          clear hz
          generalize z :: r = u at *
          have hca := str_app A [13, 10, 32]
          have hcb := str_app acc (A ++ [13, 10, 32])
          have hxl : (A ++ [13, 10, 32]).length = A.length + 3 := by simp
          have hl1 : A.length + 3 ≤ 10000000 := by omega
          have hl2 : acc.length + (A ++ [13, 10, 32]).length ≤ 10000000 := by omega
          have HXL := Lib.hid hxl
          clear hxl
          go_wp2
          go_roundg (B.length + 1)
          case measure => have := HN.out; omega
          case rel =>
            refine ⟨B, acc ++ (A ++ [13, 10, 32]), 0, rfl, rfl, rfl, rfl, by omega, by omega, ?_, HOUT.out, q3, rfl⟩
            have := HXL.out
            rw [List.length_append]
            omega
end Go.Proofs.YtjbbapodcngnaaaGreatDoor
namespace Go.Proofs.YtjbbapodcngnaaaGreatDoor
open Go.RowKit Hdr

/-- The slice of a field's bytes, outside of some blocks. -/
def RawP (w : World) (own : List Nat) (rv : Value) : Option (List UInt8) → Prop
  | none => rv = .slice none 0 0
  | some l => ∃ rb ro cap : Nat, rv = .slice (some ⟨rb, ro, none⟩) l.length cap ∧ rb ∉ own ∧ BytesAt w rb ro l
structure FdP (w : World) (own : List Nat) (f : Fd) : Prop where
  out : f.blk ∉ own
  B : Blk w f.blk [f.rv, str f.k, str f.v] 185
  R : RawP w own f.rv f.raw

theorem FdP.step {S : Nat → Prop} {w w' : World} {own own' : List Nat} {f : Fd} (h : FdP w own f) (k : Keeps S w w') (hS : ∀ x, x < w.heap.size → S x → x ∈ own) (ho : ∀ x ∈ own', x ∈ own ∨ w.heap.size ≤ x) : FdP w' own' f := by
  have hout : ∀ x, x < w.heap.size → x ∉ own → x ∉ own' := fun x hx hn hx' => by
    rcases ho x hx' with h | h
    · exact hn h
    · omega
  refine ⟨hout _ h.B.lt h.out, h.B.keep k (fun hs => h.out (hS _ h.B.lt hs)), ?_⟩
  have hR := h.R
  cases hr : f.raw with
  | none => rw [hr] at hR; exact hR
  | some l =>
    rw [hr] at hR
    obtain ⟨rb, ro, cap, h1, h2, h3⟩ := hR
    exact ⟨rb, ro, cap, h1, hout _ h3.lt h2, h3.keep k (fun hs => h2 (hS _ h3.lt hs))⟩

/-- The map of a header, with its groups. -/
structure MG (w : World) (own : List Nat) (lb mb : Nat) (gs : List Grp) (fsr : List Fd) : Prop where
  E : MapE w mb gs
  G : Grouped w 0 gs fsr
  om : mb ∈ own
  og : ∀ x ∈ gs, ∀ g, x.v.ownBlock = some g → g ∈ own ∧ g ≠ lb
theorem PS.ne_mb {w : World} {base mb : Nat} {v : Value} {l : List Nat} {gs : List Grp} (h : PS w base v l) (hM : MapE w mb gs) : ∀ g, v.ownBlock = some g → g ≠ mb := by
  intro g hg
  rcases h.2 with ⟨rfl, _⟩ | ⟨g', cap, cur, rfl, _, hc, _⟩
  · cases hg
  · simp only [Value.ownBlock, Option.some.injEq] at hg
    subst hg
    exact (hM.ne hc).symm
theorem MG.keep {S : Nat → Prop} {w w' : World} {own own' : List Nat} {lb lb' mb : Nat} {gs : List Grp} {fsr : List Fd} (h : MG w own lb mb gs fsr) (k : Keeps S w w') (hm : ¬ S mb) (hg : ∀ x ∈ gs, ∀ g, x.v.ownBlock = some g → ¬ S g ∧ g ≠ lb') (ho : ∀ x ∈ own, x ∈ own') : MG w' own' lb' mb gs fsr :=
  ⟨h.E.keep k hm, h.G.keep k (fun x hx b hb => (hg x hx b hb).1), ho _ h.om, fun x hx g hgx => ⟨ho _ (h.og x hx g hgx).1, (hg x hx g hgx).2⟩⟩

/-- A header behind a pointer, with the blocks that it may write. -/
structure Mu (w : World) (own : List Nat) (hb lb cap : Nat) (m : Option Nat) (fs : List Fd) : Prop where
  H : Blk w hb [.slice (some ⟨lb, 0, none⟩) fs.length cap, .map m] 74
  L : PO w 0 lb cap (fs.reverse.map (·.blk))
  M : (m = none ∧ fs = []) ∨ ∃ mb gs, m = some mb ∧ MG w own lb mb gs fs.reverse
  F : ∀ f ∈ fs, FdP w own f
  oh : hb ∈ own
  ol : lb ∈ own
  lt : ∀ x ∈ own, x < w.heap.size
  N : (fs.map (·.blk)).Nodup
def HMut (w : World) (own : List Nat) (hb : Nat) (fs : List Fd) : Prop := ∃ lb cap m, Mu w own hb lb cap m fs

/-- Changes elsewhere. -/
theorem Mu.keep {S : Nat → Prop} {w w' : World} {own T : List Nat} {hb lb cap : Nat} {m : Option Nat} {fs : List Fd} (h : Mu w own hb lb cap m fs) (k : Keeps S w w') (h1 : ∀ x ∈ own, ¬ S x) (h2 : ∀ f ∈ fs, FdP w T f) (hT : ∀ x, x < w.heap.size → S x → x ∈ T) : Mu w' own hb lb cap m fs := by
  refine ⟨h.H.keep k (h1 _ h.oh), h.L.keep k (h1 _ h.ol), ?_, fun f hf => ?_, h.oh, h.ol, fun x hx => Nat.lt_of_lt_of_le (h.lt x hx) k.size, h.N⟩
  · rcases h.M with h3 | ⟨mb, gs, h3, h4⟩
    · exact .inl h3
    · exact .inr ⟨mb, gs, h3, h4.keep k (h1 _ h4.om) (fun x hx g hg => ⟨h1 _ (h4.og x hx g hg).1, (h4.og x hx g hg).2⟩) (fun _ h => h)⟩
  · have a := h.F f hf
    have b := (h2 f hf).step k hT (own' := T) (fun x hx => .inl hx)
    refine ⟨a.out, b.B, ?_⟩
    have hR := a.R
    have hR2 := b.R
    cases hr : f.raw with
    | none => rw [hr] at hR; exact hR
    | some l =>
      rw [hr] at hR hR2
      obtain ⟨rb, ro, cp, e1, e2, e3⟩ := hR
      obtain ⟨rb', ro', cp', e1', e2', e3'⟩ := hR2
      rw [e1] at e1'
      simp only [Value.slice.injEq, Option.some.injEq, Addr.mk.injEq, and_true, true_and] at e1'
      obtain ⟨⟨rfl, rfl⟩, rfl⟩ := e1'
      exact ⟨rb, ro, cp, e1, e2, e3'⟩
theorem Mu.keep_no {w w' : World} {own : List Nat} {hb lb cap : Nat} {m : Option Nat} {fs : List Fd} (h : Mu w own hb lb cap m fs) (k : Keeps No w w') : Mu w' own hb lb cap m fs :=
  h.keep (T := own) k (fun _ _ h => h) h.F (fun _ _ h => h.elim)

/-- One field goes into its group. -/
theorem mg_push {w : World} {own : List Nat} {lb mb : Nat} {gs : List Grp} {fsr : List Fd} (h : MG w own lb mb gs fsr) (f : Fd) :
    ∃ (v0 : Value) (ps0 : List Nat), (∀ W, MapE W mb gs → (Instr.lookup 72 (.map (some mb)) (str f.k) false).run Tryz.prog W = .ok v0 W) ∧ PS w 0 v0 ps0 ∧ ps0.length ≤ fsr.length ∧ (∀ g, v0.ownBlock = some g → g ∈ own ∧ g ≠ lb ∧ g ≠ mb) ∧
      ∀ v' w2, PS w2 0 v' (ps0 ++ [f.blk]) → Keeps (fun k => v0.ownBlock = some k) w w2 → (v'.ownBlock = v0.ownBlock ∨ ∃ g, v'.ownBlock = some g ∧ w.heap.size ≤ g) →
        ∃ W, (Instr.mapUpdate 72 (.map (some mb)) (str f.k) v').run Tryz.prog w2 = .ok () W ∧ ∃ gs', MapE W mb gs' ∧ Grouped W 0 gs' (fsr ++ [f]) ∧ (∀ x ∈ gs', ∀ g, x.v.ownBlock = some g → (g ∈ own ∧ g ≠ lb) ∨ w.heap.size ≤ g) ∧ Keeps (In [mb]) w2 W := by
  obtain ⟨hM, hG, hom, hog⟩ := h
  have hother : ∀ (W w2 : World) (v0 : Value) (x : Grp), Keeps (fun k => v0.ownBlock = some k) w w2 → Keeps (In [mb]) w2 W → x ∈ gs → x.v.ownBlock ≠ v0.ownBlock → PS W 0 x.v x.ps := fun W w2 v0 x k1 k2 hx hne => by
    have hmb := (hG.own x hx).ne_mb hM
    obtain ⟨g, hg, hg1, hg2⟩ := (hG.own x hx).own_some (hG.some_ x hx)
    refine PS.keep (PS.keep (hG.own x hx) k1 (fun b hb => ?_)) k2 (fun b hb => ?_)
    · intro h
      exact hne (hb.trans h.symm)
    · intro h
      simp [In] at h
      exact hmb b hb h
  have htk : ∀ n, n = fsr.length → (fsr ++ [f]).take n = fsr := fun n hn => by rw [hn, List.take_left' rfl]
  have hG' : Grouped w 0 gs ((fsr ++ [f]).take fsr.length) := by rw [htk _ rfl]; exact hG
  have hi : fsr.length < (fsr ++ [f]).length := by simp
  have hfi : (fsr ++ [f])[fsr.length]'hi = f := by simp
  have hall : (fsr ++ [f]).take (fsr.length + 1) = fsr ++ [f] := List.take_of_length_le (by simp)
  rcases grp_cases gs f.k with hn | ⟨a, x, b, rfl, hxk, hn⟩
  · refine ⟨.slice none 0 0, [], fun W hW => run_lookup_none W mb gs _ hW hn, World.ownsRow_nil _ _ _ _, Nat.zero_le _, fun g hg => (by cases hg), fun v' w2 hv' k hl => ?_⟩
    have hM2 := hM.keep k (fun h => by cases h)
    obtain ⟨W, hr, hMW, kW⟩ := run_update_none w2 mb gs ⟨f.k, v', [f.blk]⟩ hM2 hn
    obtain ⟨gv, hgv, hgv1, hgv2⟩ := PS.own_some hv' (by simp)
    have hvmb := hv'.ne_mb hM2
    have hpush := Grouped.push_new (w := w) (W := W) (base := 0) hi hG' (by rw [hfi]; exact hn) (v := v') (by
      rw [hfi]
      exact PS.keep hv' kW (fun b hb h => by simp [In] at h; exact hvmb b hb h)) (fun y hy => hother W w2 _ y k kW hy (by
        obtain ⟨g, hg, _⟩ := (hG.own y hy).own_some (hG.some_ y hy)
        rw [hg]
        intro h
        cases h)) (fun y hy => by
        obtain ⟨g, hg, _, hg2⟩ := (hG.own y hy).own_some (hG.some_ y hy)
        rw [hg]
        rcases hl with hl | ⟨g', hl, hg'⟩
        · rw [hl]; intro h; cases h
        · rw [hl]; intro h; have := Option.some.inj h; omega)
    rw [hfi, hall] at hpush
    refine ⟨W, hr, _, hMW, hpush, fun y hy g hg => ?_, kW⟩
    rcases List.mem_append.1 hy with hy | hy
    · exact .inl (hog y hy g hg)
    · simp at hy
      subst hy
      rcases hl with hl | ⟨g', hl, hg'⟩
      · rw [hl] at hg; cases hg
      · rw [hl] at hg
        obtain rfl := Option.some.inj hg
        exact .inr hg'
  · have hx : x ∈ a ++ x :: b := by simp
    have hap := hG.apart
    rw [List.pairwise_append, List.pairwise_cons] at hap
    have hne : ∀ y ∈ a ++ b, y ∈ a ++ x :: b ∧ y.v.ownBlock ≠ x.v.ownBlock := fun y hy => by
      rcases List.mem_append.1 hy with hy | hy
      · exact ⟨by simp [hy], hap.2.2 y hy x (List.mem_cons_self ..)⟩
      · exact ⟨by simp [hy], (hap.2.1.1 y hy).symm⟩
    have hxmb := (hG.own x hx).ne_mb hM
    refine ⟨x.v, x.ps, fun W hW => by rw [← hxk]; exact run_lookup_some W mb a b x hW (by rw [hxk]; exact hn), hG.own x hx, ?_, fun g hg => ⟨(hog x hx g hg).1, (hog x hx g hg).2, hxmb g hg⟩, fun v' w2 hv' k hl => ?_⟩
    · rw [hG.of x hx, List.length_map]
      exact List.length_filter_le _ _
    · obtain ⟨gx, hgx, hgx1, hgx2⟩ := (hG.own x hx).own_some (hG.some_ x hx)
      have hM2 := hM.keep k (fun h => hxmb mb h rfl)
      obtain ⟨W, hr, hMW, kW⟩ := run_update_some w2 mb a b x ⟨f.k, v', x.ps ++ [f.blk]⟩ hM2 hxk hn
      have hvmb := hv'.ne_mb hM2
      have hpush := Grouped.push_old (w := w) (W := W) (base := 0) hi hG' (by rw [hfi]; exact hxk) (v := v') (by
        rw [hfi]
        exact PS.keep hv' kW (fun b hb h => by simp [In] at h; exact hvmb b hb h)) (fun y hy => hother W w2 _ y k kW (hne y hy).1 (hne y hy).2) (fun y hy => by
        obtain ⟨g, hg, _, hg2⟩ := (hG.own y (hne y hy).1).own_some (hG.some_ y (hne y hy).1)
        rcases hl with hl | ⟨g', hl, hg'⟩
        · rw [hl]; exact (hne y hy).2
        · rw [hl, hg]; intro h; have := Option.some.inj h; omega)
      rw [hfi, hall] at hpush
      refine ⟨W, hr, _, hMW, hpush, fun y hy g hg => ?_, kW⟩
      have hy' : y = ⟨f.k, v', x.ps ++ [f.blk]⟩ ∨ y ∈ a ++ b := by
        simp only [List.mem_append, List.mem_cons] at hy ⊢
        rcases hy with hy | hy | hy
        · exact .inr (.inl hy)
        · exact .inl hy
        · exact .inr (.inr hy)
      rcases hy' with rfl | hy'
      · rcases hl with hl | ⟨g', hl, hg'⟩
        · simp only at hg
          rw [hl] at hg
          exact .inl (hog x hx g hg)
        · simp only at hg
          rw [hl] at hg
          obtain rfl := Option.some.inj hg
          exact .inr hg'
      · exact .inl (hog y (hne y hy').1 g hg)
end Go.Proofs.YtjbbapodcngnaaaGreatDoor
namespace Go.Proofs.YtjbbapodcngnaaaGreatDoor
open Go.RowKit Hdr

/-- The header behind hb has come to hold these fields. -/
def MuTo (own : List Nat) (hb : Nat) (w w' : World) (fs : List Fd) : Prop := ∃ own', HMut w' own' hb fs ∧ Keeps (In own) w w' ∧ ∀ x ∈ own', x ∈ own ∨ w.heap.size ≤ x
theorem MuTo.trans {own : List Nat} {hb : Nat} {w w1 w2 : World} {fs fs' : List Fd} (h : MuTo own hb w w1 fs) (h2 : ∀ own1, HMut w1 own1 hb fs → (∀ x ∈ own1, x ∈ own ∨ w.heap.size ≤ x) → Keeps (In own) w w1 → MuTo own1 hb w1 w2 fs') : MuTo own hb w w2 fs' := by
  obtain ⟨own1, a, b, c⟩ := h
  obtain ⟨own2, a2, b2, c2⟩ := h2 own1 a c b
  have hs := b.size
  refine ⟨own2, a2, b.trans b2 (fun i hi h => ?_), fun x hx => ?_⟩
  · rcases c i h with h | h
    · exact h
    · omega
  · rcases c2 x hx with h | h
    · exact c x h
    · exact .inr (by omega)

theorem new_one (w : World) (x : Nat) (t : TypeId) : ∀ j u, (ptrs [x])[j]? = some u → (w.alloc (.cells #[.pointer (some ⟨x, 0, none⟩)] t)).cell? ((⟨w.heap.size, 0, none⟩ : Addr).add j) = some u := by
  intro j u hj
  match j, hj with
  | 0, hj => simp [ptrs] at hj; subst hj; simp [Addr.add]
  | j + 1, hj => simp [ptrs] at hj

theorem run_map_nil (m : Option Nat) (w : World) : (binOp .eql 72 (.map m) (.map none)).run Tryz.prog w = .ok (.bool m.isNone) w := by
  cases m with
  | none => kernel_rfl
  | some b => kernel_rfl
theorem run_makeMap_0 (w : World) : (Instr.makeMap 72 none).run Tryz.prog w = .ok (.map (some w.heap.size)) (w.alloc (.map #[] 0)) := by
  simp [Instr.makeMap, Result.andThen]
theorem Mu.hl {w : World} {own : List Nat} {hb lb cap : Nat} {m : Option Nat} {fs : List Fd} (h : Mu w own hb lb cap m fs) : hb ≠ lb := by
  obtain ⟨_, _, _, cur, hB, _⟩ := h.L
  exact h.H.ne hB (by decide)
theorem Mu.make_map {w w1 : World} {own : List Nat} {hb lb cap : Nat} {fs : List Fd} (h : Mu w own hb lb cap none fs) (k : Keeps No w w1) :
    Mu ((w1.alloc (.map #[] 0)).setCell ⟨hb, 1, none⟩ (.map (some w1.heap.size))) (w1.heap.size :: own) hb lb cap (some w1.heap.size) fs := by
  have hfs : fs = [] := by
    rcases h.M with h | ⟨_, _, h, _⟩
    · exact h.2
    · cases h
  subst hfs
  have h1 := h.keep_no k
  have hhb := h1.H.lt
  have kk : Keeps (In [hb]) w1 ((w1.alloc (.map #[] 0)).setCell ⟨hb, 1, none⟩ (.map (some w1.heap.size))) := ((Keeps.refl _ w1).alloc _).setCell (.inl (by simp [In])) _
  have e : MapE (w1.alloc (.map #[] 0)) w1.heap.size [] := ⟨#[], 0, heap_alloc_new w1 _, rfl⟩
  have hE : MapE ((w1.alloc (.map #[] 0)).setCell ⟨hb, 1, none⟩ (.map (some w1.heap.size))) w1.heap.size [] := e.keep (S := In [hb]) ((Keeps.refl _ _).setCell (.inl (by simp [In])) _) (by simp [In]; omega)
  refine ⟨(h1.H.alloc _).set 1 _, h1.L.keep kk (by simp [In]; exact h1.hl.symm), .inr ⟨w1.heap.size, [], rfl, ⟨?_, ⟨.nil, .nil, ?_, ?_, ?_, ?_⟩, List.mem_cons_self .., ?_⟩⟩, ?_, List.mem_cons_of_mem _ h1.oh, List.mem_cons_of_mem _ h1.ol, ?_, .nil⟩
  · exact hE
  all_goals try (intro x h; cases h; done)
  intro x hx
  rcases List.mem_cons.1 hx with rfl | hx
  · exact hE.lt
  · exact Nat.lt_of_lt_of_le (h1.lt x hx) kk.size
theorem PS.ne_hb {w : World} {base hb : Nat} {v : Value} {l : List Nat} {cs : List Value} (h : PS w base v l) (hB : Blk w hb cs 74) : ∀ g, v.ownBlock = some g → g ≠ hb := by
  intro g hg
  rcases h.2 with ⟨rfl, _⟩ | ⟨g', cap, cur, rfl, _, hc, _⟩
  · cases hg
  · simp only [Value.ownBlock, Option.some.injEq] at hg
    subst hg
    exact Typed.ne ⟨_, _, hc⟩ hB.typed (by decide)
/-- The list with one field more. -/
theorem Mu.list {w W : World} {own : List Nat} {hb lb cap g' mb : Nat} {gs : List Grp} {fs : List Fd} (h : Mu w own hb lb cap (some mb) fs) (hM : MG w own lb mb gs fs.reverse) (k : Keeps (In [lb, hb]) w W) (hg : g' = lb ∨ w.heap.size ≤ g') :
    MG W (g' :: own) g' mb gs fs.reverse := by
  have hT : ∀ b, Typed w b 160 → b ≠ hb := fun b ht => ht.ne h.H.typed (by decide)
  refine hM.keep k (fun hc => ?_) (fun x hx g hgx => ?_) (fun _ h => List.mem_cons_of_mem _ h)
  · simp only [In, List.mem_cons, List.not_mem_nil, or_false] at hc
    rcases hc with rfl | rfl
    · obtain ⟨_, _, _, cur, hB, _⟩ := h.L
      exact hM.E.ne hB rfl
    · exact hM.E.ne h.H rfl
  · obtain ⟨h1, h2⟩ := hM.og x hx g hgx
    obtain ⟨g0, cap0, hv, _, h3, hp, _⟩ := (hM.G.own x hx).block (hM.G.some_ x hx)
    rw [hv] at hgx
    obtain rfl := Option.some.inj hgx
    refine ⟨fun hc => ?_, ?_⟩
    · simp only [In, List.mem_cons, List.not_mem_nil, or_false] at hc
      rcases hc with hc | hc
      · exact h2 hc
      · exact hT _ hp.typed hc
    · rcases hg with rfl | hg
      · exact h2
      · simp only
        omega
theorem mu_final {w W : World} {own : List Nat} {hb g' cap' mb n : Nat} {gs : List Grp} {fs : List Fd} {f : Fd}
    (H : Blk W hb [.slice (some ⟨g', 0, none⟩) n cap', .map (some mb)] 74) (hn : n = fs.length + 1)
    (L : PO W 0 g' cap' (fs.reverse.map (·.blk) ++ [f.blk])) (E : MapE W mb gs) (G : Grouped W 0 gs (fs.reverse ++ [f]))
    (og : ∀ x ∈ gs, ∀ g, x.v.ownBlock = some g → (g ∈ own ∧ g ≠ g') ∨ w.heap.size ≤ g) (hg : g' ∈ own) (hs : ∀ x ∈ own, x < w.heap.size) (hh : hb ∈ own) (hm : mb ∈ own)
    (F : ∀ h ∈ f :: fs, FdP w own h) (k : Keeps (In own) w W) (hN : (fs.map (·.blk)).Nodup) (hN2 : ∀ h ∈ fs, h.blk ≠ f.blk) :
    HMut W (own ++ gs.filterMap (·.v.ownBlock)) hb (f :: fs) ∧ ∀ x ∈ own ++ gs.filterMap (·.v.ownBlock), x ∈ own ∨ w.heap.size ≤ x := by
  have ho : ∀ x ∈ own ++ gs.filterMap (·.v.ownBlock), x ∈ own ∨ w.heap.size ≤ x := fun x hx => by
    rcases List.mem_append.1 hx with hx | hx
    · exact .inl hx
    · obtain ⟨y, hy, hyx⟩ := List.mem_filterMap.1 hx
      exact (og y hy x hyx).imp (fun h => h.1) id
  refine ⟨⟨g', cap', some mb, H.to (by rw [hn]; rfl), ?_, .inr ⟨mb, gs, rfl, E, ?_, List.mem_append_left _ hm, fun x hx g hgx => ⟨List.mem_append_right _ (List.mem_filterMap.2 ⟨x, hx, hgx⟩), ?_⟩⟩, fun f' hf' => (F f' hf').step k (fun _ _ h => h) ho, List.mem_append_left _ hh, List.mem_append_left _ hg, fun x hx => ?_, ?_⟩, ho⟩
  · rw [List.reverse_cons, List.map_append]; exact L
  · rw [List.reverse_cons]; exact G
  · rcases og x hx g hgx with h | h
    · exact h.2
    · have := hs _ hg; omega
  · rcases List.mem_append.1 hx with hx | hx
    · exact Nat.lt_of_lt_of_le (hs x hx) k.size
    · obtain ⟨y, hy, hyx⟩ := List.mem_filterMap.1 hx
      obtain ⟨g, h1, _, h2⟩ := (G.own y hy).own_some (G.some_ y hy)
      rw [h1] at hyx
      obtain rfl := Option.some.inj hyx
      exact h2
  · rw [List.map_cons, List.nodup_cons]
    refine ⟨fun hc => ?_, hN⟩
    obtain ⟨h, h1, h2⟩ := List.mem_map.1 hc
    exact hN2 h h1 h2

/-- What Add leaves. -/
def AddPost (own : List Nat) (hb : Nat) (ck v : List UInt8) (raw : Option (List UInt8)) (fs : List Fd) (w : World) (e : Ending) (w' : World) : Prop :=
  e = .returned (.tuple #[]) ∧ ∃ f : Fd, f.k = ck ∧ f.v = v ∧ f.raw = raw ∧ MuTo own hb w w' (f :: fs)


set_option maxRecDepth 100000 in
set_option maxHeartbeats 2000000 in
theorem Add_any (hb : Nat) (k v : List UInt8) (fs : List Fd) (own : List Nat) (w : World) (h : HMut w own hb fs) (hk : k.length ≤ 1000000000) (hn : fs.length ≤ 1000000) :
    Calls Tryz.prog 73 #[.pointer (some ⟨hb, 0, none⟩), str k, str v] w (AddPost own hb (canon k) v none fs w) := by
  obtain ⟨lb, cap, m, M⟩ := h
  generalize hck : canon k = ck
  have HCK := Lib.hid hck
  have HM := Lib.hid M
  clear hck M
  go_enter Tryz.func73, Tryz.ntmps73
  go_wp2_with (fail)
  refine (canonicalKey_any k w hk).mono ?_
  rintro e w1 ⟨rfl, k1⟩
  rw [HCK.out]
  have c1 : w1.cell? ⟨hb, 1, none⟩ = some (.map m) := (HM.out.H.keep_no k1).cell 1
  have e1 := run_map_nil m w1
  go_upto_if 13 with (fail)
  go_cut [] (fun wx => ∃ mb own1, Mu wx own1 hb lb cap (some mb) fs ∧ Keeps (In own) w wx ∧ ∀ x ∈ own1, x ∈ own ∨ w.heap.size ≤ x)
  case first =>
    cases m with
    | none =>
      have H1 := (HM.out.H.keep_no k1).alloc (.map #[] 0)
      have fz := H1.frozen
      have c2 : (w1.alloc (.map #[] 0)).cell? ⟨hb, 1, none⟩ = some (.map none) := H1.cell 1
      clear H1
      have e2 := run_makeMap_0 w1
      go_wp2
      go_meet
      exact ⟨w1.heap.size, w1.heap.size :: own, Mu.make_map HM.out k1, (k1.alloc _).of_no.setCell (.inl HM.out.oh) _, fun x hx => by
        rcases List.mem_cons.1 hx with rfl | hx
        · exact .inr k1.size
        · exact .inl hx⟩
    | some mb =>
      go_wp2
      go_meet
      exact ⟨mb, own, HM.out.keep_no k1, k1.of_no, fun x hx => .inl hx⟩
  case rest =>
    obtain ⟨mb, own1, M2, k2, ho1⟩ := hcut
    clear c1 e1
    have HM2 := Lib.hid M2
    clear M2
    go_wp2_with (fail)
    refine (newHeaderField_any ck v _ ⟨_, _, _, rfl⟩ _ ?_).mono ?_
    · rw [← HCK.out, canon_len]; exact hk
    rintro e w3 ⟨fb, rfl, hf1, hf2, Bf, k3⟩
    have M3 := HM2.out.keep_no k3
    rw [← HCK.out, canon_canon, HCK.out] at Bf
    obtain ⟨f, hfb, hfk, hfv, hfr, hfrv⟩ : ∃ f : Fd, f.blk = fb ∧ f.k = ck ∧ f.v = v ∧ f.raw = none ∧ f.rv = .slice none 0 0 := ⟨⟨fb, ck, v, none, .slice none 0 0⟩, rfl, rfl, rfl, rfl, rfl⟩
    have hFf : FdP w3 own1 f := by
      refine ⟨fun hc => ?_, ?_, ?_⟩
      · have := HM2.out.lt _ hc; omega
      · rw [hfb, hfk, hfv, hfrv]; exact Bf
      · rw [hfr]; exact hfrv
    have HF3 := Lib.hid hFf
    have HM3 := Lib.hid M3
    have HK23 := Lib.hid (k2.trans_no k3)
    have HFE := Lib.hid (And.intro hfk (And.intro hfv hfr))
    have HFB := Lib.hid hfb
    have hfk' := hfk
    clear hFf Bf M3 hfk hfv hfr hfrv hfb k1 k2 k3
    have c0 : w3.cell? ⟨hb, 0, none⟩ = some (.slice (some ⟨lb, 0, none⟩) fs.length cap) := HM3.out.H.cell 0
    obtain ⟨gs, G3⟩ : ∃ gs, MG w3 own1 lb mb gs fs.reverse := by
      rcases HM3.out.M with ⟨h, _⟩ | ⟨mb', gs, h, hG⟩
      · cases h
      · obtain rfl := Option.some.inj h
        exact ⟨gs, hG⟩
    have HG3 := Lib.hid G3
    clear G3
    have HH3 := Lib.hid HM3.out.H
    go_wp2_with (at_builtin; refine wpList_append_p rfl (.tmp 25) (.tmp 27) rfl 0 lb cap fs.length (fs.reverse.map (·.blk)) rfl (by simp) (HM3.out.L.keep ((Keeps.refl No _).alloc _) (fun h => h)) ⟨w3.heap.size, 0, none⟩ 1 1 [fb] rfl rfl (new_one w3 fb _) (by omega) (Nat.zero_le _) ?_; intro g' cap' W4 hL4 k4 hg4; have B4 := (HH3.out.alloc _).keep k4 (fun hc => by simp [In] at hc; exact HM3.out.hl hc); have f4 := B4.frozen; have c4 := B4.cell 0)
    have k5 : Keeps (In [lb, hb]) w3 (W4.setCell ⟨hb, 0, none⟩ (.slice (some ⟨g', 0, none⟩) (fs.length + 1) cap')) := (((Keeps.refl (In [lb, hb]) w3).alloc _).trans k4 (fun _ _ h => by simp only [In, List.mem_cons, List.not_mem_nil, or_false] at h ⊢; exact .inl h)).setCell (.inl (by simp [In])) _
    have B5 := B4.set 0 (.slice (some ⟨g', 0, none⟩) (fs.length + 1) cap')
    have L5 : PO (W4.setCell ⟨hb, 0, none⟩ (.slice (some ⟨g', 0, none⟩) (fs.length + 1) cap')) 0 g' cap' (fs.reverse.map (·.blk) ++ [fb]) := hL4.keep (S := In [hb]) ((Keeps.refl _ _).setCell (.inl (by simp [In])) _) (fun hc => by
      simp [In] at hc
      subst hc
      obtain ⟨_, _, _, cur, hB, _⟩ := hL4
      exact B4.ne hB (by decide) rfl)
    generalize W4.setCell ⟨hb, 0, none⟩ (.slice (some ⟨g', 0, none⟩) (fs.length + 1) cap') = w5 at *
    have hg5 : g' = lb ∨ w3.heap.size ≤ g' := by
      rcases hg4 with h | h
      · exact .inl h
      · exact .inr (Nat.le_trans (Nat.le_of_lt (by simp)) h)
    have G5 := HM3.out.list HG3.out k5 hg5
    have F5 : ∀ h ∈ f :: fs, FdP w5 (g' :: own1) h := fun h hh => by
      have ho : ∀ x ∈ g' :: own1, x ∈ own1 ∨ w3.heap.size ≤ x := fun x hx => by
        rcases List.mem_cons.1 hx with rfl | hx
        · rcases hg5 with rfl | hg5
          · exact .inl HM3.out.ol
          · exact .inr hg5
        · exact .inl hx
      have hS : ∀ x, x < w3.heap.size → In [lb, hb] x → x ∈ own1 := fun x _ hx => by
        simp only [In, List.mem_cons, List.not_mem_nil, or_false] at hx
        rcases hx with rfl | rfl
        · exact HM3.out.ol
        · exact HM3.out.oh
      rcases List.mem_cons.1 hh with rfl | hh
      · exact HF3.out.step k5 hS ho
      · exact (HM3.out.F h hh).step k5 hS ho
    have c5 : w5.cell? ⟨hb, 1, none⟩ = some (.map (some mb)) := B5.cell 1
    have hM5 := G5.E
    obtain ⟨v0, ps0, hlk, hown, hpl, hov, hfin⟩ := mg_push G5 f
    rw [hfk'] at hlk
    have HFIN := Lib.hid hfin
    have HOWN := Lib.hid hown
    have HOV := Lib.hid hov
    have HG5 := Lib.hid G5
    have HF5 := Lib.hid F5
    have HL5 := Lib.hid L5
    have HB5 := Lib.hid B5
    have HHG := Lib.hid hg5
    have hpl2 : ps0.length ≤ 1000000 := by simp at hpl; omega
    clear hfin hown hov G5 F5 L5 B5 hg5 hg4 f4 c4 B4 hL4 k4 c0 hpl
    refine region_eff [0, 1, 2, 3, 4, 5, 6, 7, 8, 9, 10, 11] [12, 13] 14 (fun W => W.cell? ⟨hb, 1, none⟩ = some (.map (some mb)) ∧ MapE W mb gs) (by kernel_rfl) (by kernel_rfl) ?_ ?_
    · exact ⟨c5, hM5.keep ((Keeps.refl No _).drew) (fun h => h)⟩
    intro ι F hne hF
    have d1 := fun j => (hF j).1
    have d2 := fun j => hlk _ (hF j).2
    clear hF hlk
    simp only [pick, List.filterMap_cons, List.filterMap_nil, List.getElem?_cons_succ, List.getElem?_cons_zero, List.drop_succ_cons, List.drop_zero]
    repeat (quiet_step (fail))
    refine wpQuiet_nil ?_
    obtain ⟨i0, hi, hz0, hz1, hz2⟩ := info_parts info_hf
    rw [wpEffs]
    go_wp2
    have kA : Keeps No w5 (w5.alloc (.cells #[.pointer (some ⟨fb, 0, none⟩)] 160)).drew := ((Keeps.refl No w5).alloc _).drew
    have hvh : v0.ownBlock ≠ some hb := fun h => HOWN.out.ne_hb HB5.out hb h rfl
    have hvm : v0.ownBlock ≠ some mb := fun h => (HOV.out mb h).2.2 rfl
    refine EffPost.intro ⟨kA.cell c5 (fun h => h), hM5.keep kA (fun h => h)⟩ ?_
    rw [wpEffs]
    go_wp2_with (at_builtin; refine wpList_append_own_at _ rfl (.tmp 41) (.tmp 43) 71 rfl 0 160 i0 (.pointer none) 1 8 Tryz.underlying71 hi hz0 hz1 hz2 rfl (by decide) v0 ps0.length (ptrs ps0) rfl (PS.keep HOWN.out kA (fun _ _ h => h)) ⟨w5.heap.size, 0, none⟩ 1 1 (ptrs [fb]) rfl rfl ?c1 (ptrs_one _) ?c3 ?c4 ?c5 ?_)
    case c1 =>
      intro j u hj
      match j, hj with
      | 0, hj => simp [ptrs] at hj; subst hj; simp [Addr.add]
      | j + 1, hj => simp [ptrs] at hj
    case c3 => unfold maxLen; omega
    case c4 => omega
    case c5 => simp
    intro v' w6 hown' hgrow _ hloc
    have kG : Keeps (fun k => v0.ownBlock = some k) w5 w6 := (kA.of_no).grown hgrow (fun k hk => .inl hk)
    have hloc' : v'.ownBlock = v0.ownBlock ∨ ∃ g, v'.ownBlock = some g ∧ w5.heap.size ≤ g := hloc.imp id (fun h => ⟨_, h, by simp⟩)
    have hP : PS w6 0 v' (ps0 ++ [fb]) := by
      rw [← ptrs_append, show ps0.length + 1 = (ps0 ++ [fb]).length by simp] at hown'
      exact hown'
    rw [← HFB.out] at hP
    have HUP := HFIN.out v' w6 hP kG hloc'
    rw [hfk'] at HUP
    have HUP' := Lib.hid HUP
    clear HUP hP hown' hgrow hloc hloc'
    go_wp2
    refine EffPost.intro ⟨kG.cell c5 hvh, hM5.keep kG hvm⟩ ?_
    rw [wpEffs]
    go_wp2_with (at_mapUpdate; refine wpList_update rfl (.tmp 34) (.tmp 35) (.tmp 44) rfl mb ck v' rfl rfl rfl HUP'.out ?_; rintro W ⟨gs', hM', hG', hog', kW⟩)
    go_wp2
    go_end0
    have hmh := HG5.out.E.ne HB5.out
    have hm2 : mb ∈ own1 := HG3.out.om
    have h35 := k5.size
    have h23 := HK23.out.size
    have hg2 : g' ∈ own1 ∨ w3.heap.size ≤ g' := by
      rcases HHG.out with h | h
      · exact .inl (h ▸ HM3.out.ol)
      · exact .inr h
    have k56 : Keeps (In (g' :: own1)) w5 W := by
      refine (kG.mono (fun k _ h => ?_)).trans kW (fun k _ h => ?_)
      · exact (HOV.out k h).1
      · simp only [In, List.mem_cons, List.not_mem_nil, or_false] at h
        exact h ▸ HG5.out.om
    have B6 : Blk W hb [.slice (some ⟨g', 0, none⟩) (fs.length + 1) cap', .map (some mb)] 74 := (HB5.out.keep kG (fun h => hvh h)).keep kW (fun h => by
      simp only [In, List.mem_cons, List.not_mem_nil, or_false] at h
      exact hmh h.symm)
    have hgm : mb ≠ g' := by
      obtain ⟨_, _, _, cur, hB, _⟩ := HL5.out
      exact HG5.out.E.ne hB
    have L6 : PO W 0 g' cap' (fs.reverse.map (·.blk) ++ [f.blk]) := by
      rw [HFB.out]
      exact (HL5.out.keep kG (fun h => (HOV.out g' h).2.1 rfl)).keep kW (fun h => by
        simp only [In, List.mem_cons, List.not_mem_nil, or_false] at h
        exact hgm h.symm)
    obtain ⟨hmu, ho⟩ := mu_final B6 rfl L6 hM' hG' hog' (List.mem_cons_self ..) (fun x hx => by
      rcases List.mem_cons.1 hx with rfl | hx
      · exact HL5.out.lt
      · exact Nat.lt_of_lt_of_le (HM3.out.lt x hx) h35) (List.mem_cons_of_mem _ HM3.out.oh) (List.mem_cons_of_mem _ hm2) HF5.out k56 HM3.out.N (fun h hh => by
      have := (HM2.out.F h hh).B.lt
      rw [HFB.out]
      omega)
    have hin : ∀ x ∈ g' :: own1, x ∈ own ∨ w.heap.size ≤ x := fun x hx => by
      rcases List.mem_cons.1 hx with rfl | hx
      · rcases hg2 with h | h
        · exact ho1 _ h
        · exact .inr (by omega)
      · exact ho1 _ hx
    have hin2 : ∀ S : Nat → Prop, (∀ x, S x → x ∈ g' :: own1) → ∀ x, x < w.heap.size → S x → In own x := fun S hS x hx h => by
      rcases hin x (hS x h) with h | h
      · exact h
      · omega
    refine ⟨rfl, f, HFE.out.1, HFE.out.2.1, HFE.out.2.2, _, hmu, (HK23.out.trans k5 (hin2 _ (fun x h => ?_))).trans k56 (hin2 _ (fun x h => h)), fun x hx => ?_⟩
    · simp only [In, List.mem_cons, List.not_mem_nil, or_false] at h
      rcases h with rfl | rfl
      · exact List.mem_cons_of_mem _ HM3.out.ol
      · exact List.mem_cons_of_mem _ HM3.out.oh
    · rcases ho x hx with h | h
      · exact hin x h
      · exact .inr (by omega)
end Go.Proofs.YtjbbapodcngnaaaGreatDoor
