/- countReader over a source: a source. Bytes: Equal, HasPrefix, LastIndexByte, the package's own Index, matchAfterPrefix, blanks. Bytes: the package's own Index, matchAfterPrefix, blanks. scanUntilBoundary, without an error. Where a part ends: the scan is right. Lines hold no boundary: the scan of a part's content is safe. Lines that are boundaries. All that is left of a source is read (both packages' zzDiscard). -/
import Derived.Test.YtjbbapodcngnaaaGreatDoorZsah
import Derived.Test.YtjbbapodcngnaaaGreatDoorZtaa
namespace Go.Proofs.YtjbbapodcngnaaaGreatDoor.G
open Go.RowKit Hdr

/-- Does it end with a line feed? -/
def lfEnd (l : List UInt8) : Bool := l.getLast? == some 10
theorem lfEnd_snoc (l : List UInt8) (c : UInt8) : lfEnd (l ++ [c]) = (c == 10) := by simp [lfEnd]

/-- A number of 32 bits. -/
def U32 (v : Int) : Prop := 0 ≤ v ∧ v < 4294967296

/-- A countReader at block k over a source, of the bytes T: s is still to come. -/
def CountS (k : Nat) (X : Src) (T : List UInt8) (w : World) (s : List UInt8) : Prop :=
  ∃ (pre : List UInt8) (nl : Int), T = pre ++ s ∧ Blk w k [.iface X.t X.v, .int .u32 pre.length, .int .u32 nl, .bool (lfEnd pre)] 178 ∧ (T ≠ [] → nl = lfs pre) ∧ X.S w s ∧ ¬ X.own k ∧ (T ≠ [] → lfEnd T = true) ∧ T.length ≤ 1000000000 ∧ U32 nl

theorem CountS.keep {S : Nat → Prop} {k : Nat} {X : Src} {T : List UInt8} {w w' : World} {s : List UInt8} (h : CountS k X T w s) (K : Keeps S w w') (hS : ∀ x, InO k X x → ¬ S x) : CountS k X T w' s := by
  obtain ⟨pre, nl, h1, h2, h3, h4, h5⟩ := h
  exact ⟨pre, nl, h1, h2.keep K (hS _ (.inl rfl)), h3, X.keep h4 K (fun x hx => hS x (.inr hx)), h5⟩

theorem u32_in (v : Int) (h0 : 0 ≤ v) (h : v < 4294967296) : IntKind.u32.wrap v = v := by
  unfold IntKind.wrap
  simp [IntKind.bits, IntKind.signed]
  omega

set_option maxRecDepth 100000 in
set_option maxHeartbeats 2000000 in
theorem countRead_any (k : Nat) (X : Src) (T : List UInt8) {N : Nat} (O : X.Ok N) (d o len cap : Nat) (cs : List Value) (w : World) (s : List UInt8) (h : CountS k X T w s) (hkN : N ≤ k) (L : Laid N X.ea w) (hd : Blk w d cs 5) (hnd : ¬ InO k X d) (hdN : N ≤ d) (hlen : 0 < len) (hcap : len ≤ cap) (hfit : o + len ≤ cs.length) (hcs : cs.length ≤ 1000000) :
    Calls Tryz.prog 259 #[.pointer (some ⟨k, 0, none⟩), .slice (some ⟨d, o, none⟩) len cap] w fun e w' =>
      ∃ (n : Nat) (err : Value), e = .returned (.tuple #[.int .i64 n, err]) ∧ n ≤ len ∧ n ≤ s.length ∧ (0 < n ∧ err = .nilIface ∨ n = s.length ∧ err = (.iface 203 (.pointer (some X.ea)))) ∧ CountS k X T w' (s.drop n) ∧
        Blk w' d (cs.take o ++ u8s (s.take n) ++ cs.drop (o + n)) 5 ∧ Keeps (fun x => InO k X x ∨ x = d) w w' := by
  obtain ⟨pre, nl, hT, hB, hnl, hS, hk, hend, hTl, hnu⟩ := h
  have c0 : w.cell? ⟨k, 0, none⟩ = some (.iface X.t X.v) := hB.cell 0
  have hm := O.meth
  have hen := O.enter
  have hkd : k ≠ d := fun e => hnd (.inl e.symm)
  have hxd : ¬ X.own d := fun e => hnd (.inr e)
  have HB := Lib.hid hB
  have HS := Lib.hid hS
  have HO := Lib.hid O
  have HL := Lib.hid L
  have HD := Lib.hid hd
  have HK := Lib.hid hk
  have HT := Lib.hid hT
  have HNL := Lib.hid hnl
  have HEND := Lib.hid hend
  clear hB hS O L hd hk hT hnl hend
  go_enter Tryz.func259, Tryz.ntmps259
  go_wp2_with (fail)
  refine (HO.out.read (g := d) (o := o) (len := len) (cap := cap) HS.out HL.out HD.out hxd hdN hlen hcap hfit hcs).mono ?_
  rintro e w2 ⟨n, errv, rfl, hn3, hn2, hcase, hS2, B4, K2⟩
  have hev : errv = .nilIface ∨ errv = (.iface 203 (.pointer (some X.ea))) := by rcases hcase with ⟨_, h⟩ | ⟨_, h⟩; exact .inl h; exact .inr h
  have HC := Lib.hid (show ∀ v, v = errv → (0 < n ∧ v = .nilIface ∨ n = s.length ∧ v = (.iface 203 (.pointer (some X.ea)))) from fun v hv => hv ▸ hcase)
  have B5 := HB.out.keep K2 (fun h => by rcases h with h | h; exact HK.out h; exact hkd h)
  have L5 := HL.out.keep K2 (fun x h => by rcases h with h | h; exact HO.out.old h; omega)
  have HB5 := Lib.hid B5
  have HS2 := Lib.hid hS2
  have HB4 := Lib.hid B4
  have HL5 := Lib.hid L5
  have KD : Keeps (fun x => InO k X x ∨ x = d) w w2 := K2.mono (fun _ _ h => by rcases h with h | h; exact .inl (.inr h); exact .inr h)
  have hTlen : pre.length + s.length ≤ 1000000000 := by have := congrArg List.length HT.out; rw [List.length_append] at this; omega
  obtain ⟨p2, hp2⟩ : ∃ p2 : Nat, p2 = pre.length + n := ⟨_, rfl⟩
  have hs1 : (pre.length : Int) + n = p2 := by omega
  have hs2 : IntKind.u32.wrap (n : Int) = n := u32_in _ (by omega) (by omega)
  have hs3 : IntKind.u32.wrap (p2 : Int) = p2 := u32_in _ (by omega) (by omega)
  have hs4 : IntKind.u32.wrap ((pre.length : Int) + n) = p2 := by rw [hs1]; exact hs3
  have HP2 := Lib.hid hp2
  have fz := B5.frozen
  have q1 : w2.cell? ⟨k, 1, none⟩ = some (.int .u32 pre.length) := B5.cell 1
  have q2 : w2.cell? ⟨k, 2, none⟩ = some (.int .u32 nl) := B5.cell 2
  have q3 : w2.cell? ⟨k, 3, none⟩ = some (.bool (lfEnd pre)) := B5.cell 3
  clear B5 hS2 B4 hcase L5 c0 hp2
  by_cases hn : n = 0
  · subst hn
    have hev2 : errv = (.iface 203 (.pointer (some X.ea))) ∧ s = [] := by
      rcases HC.out errv rfl with ⟨h, _⟩ | ⟨h, h2⟩
      · omega
      · exact ⟨h2, List.length_eq_zero_iff.1 h.symm⟩
    obtain ⟨rfl, hs0⟩ := hev2
    have HS0 := Lib.hid hs0
    have heof := HL5.out.eof
    have hq := fun w => eql_err_same w X.ea
    obtain rfl : p2 = pre.length := by have := HP2.out; omega
    have hTp : T = pre := by rw [HT.out, HS0.out, List.append_nil]
    have HTP := Lib.hid hTp
    have hgk : ∀ v : Value, Blk (w2.setCell ⟨k, 1, none⟩ v) k [.iface X.t X.v, v, .int .u32 nl, .bool (lfEnd pre)] 178 := fun v => (HB5.out.set 1 v).to rfl
    have HGK := Lib.hid hgk
    have hg9 : (w2.setCell ⟨k, 1, none⟩ (.int .u32 pre.length)).cell? ⟨0, 0, none⟩ = some (.iface 203 (.pointer (some X.ea))) := ((Keeps.cell_one w2 ⟨k, 1, none⟩ _).cell heof (fun h => by simp only [In, List.mem_cons, List.not_mem_nil, or_false] at h; have := HL5.out.hN; omega))
    clear hs0 hTp hgk
    cases hle : lfEnd pre with
    | true =>
      rw [hle] at q3
      go_wp2
      go_ret2
      refine ⟨0, _, rfl, by omega, by omega, .inr ⟨by rw [HS0.out]; rfl, rfl⟩, ⟨pre, nl, by rw [HS0.out, HTP.out]; simp, (HGK.out _).to rfl, HNL.out, X.set (by simpa using HS2.out) HK.out _, HK.out, HEND.out, hTl, hnu⟩, ?_, KD.setCell (.inl (.inl (.inl rfl))) _⟩
      have := (HB4.out.set_other (p := ⟨k, 1, none⟩) hkd (.int .u32 pre.length))
      simpa using this
    | false =>
      have hT0 : T = [] := by
        rcases Decidable.em (T = []) with h | h
        · exact h
        · have := HEND.out h
          rw [HTP.out, hle] at this
          cases this
      have HT0 := Lib.hid hT0
      obtain ⟨nl2, hnl2⟩ : ∃ nl2 : Int, nl2 = IntKind.u32.wrap (nl + 1) := ⟨_, rfl⟩
      have hnl2' := hnl2.symm
      have hnb : U32 nl2 := by
        rw [hnl2]
        unfold U32
        unfold IntKind.wrap
        simp [IntKind.bits, IntKind.signed]
        omega
      rw [hle] at q3
      clear hT0 hnl2
      go_wp2
      go_ret2
      refine ⟨0, _, rfl, by omega, by omega, .inr ⟨by rw [HS0.out]; rfl, rfl⟩, ⟨pre, nl2, by rw [HS0.out, HTP.out]; simp, ((HGK.out _).set 2 _).to (by rw [hle]; rfl), fun h => absurd HT0.out h, X.set (X.set (by simpa using HS2.out) HK.out _) HK.out _, HK.out, HEND.out, hTl, hnb⟩, ?_, (KD.setCell (.inl (.inl (.inl rfl))) _).setCell (.inl (.inl (.inl rfl))) _⟩
      have := (HB4.out.set_other (p := ⟨k, 1, none⟩) hkd (.int .u32 pre.length)).set_other (p := ⟨k, 2, none⟩) hkd (.int .u32 nl2)
      simpa using this
  · have hTne : T ≠ [] := by
      intro h
      have h1 := HT.out
      rw [h] at h1
      have h2 := congrArg List.length h1
      simp at h2
      omega
    have hnlv := HNL.out hTne
    subst hnlv
    have e1 : ((n : Int) == 0) = false := by simp; omega
    have e1' : (n == 0) = false := by simp; omega
    obtain ⟨t1, ht1⟩ : ∃ t1 : Nat, n = t1 + 1 := ⟨n - 1, by omega⟩
    have hsub : (n : Int) - 1 = t1 := by omega
    have hwt1 : IntKind.i64.wrap (t1 : Int) = t1 := IntWalk.i64_in _ (by omega)
    have hsub2 : IntKind.i64.wrap ((n : Int) - 1) = t1 := by rw [hsub]; exact hwt1
    have b3 : (t1 : Int) < (len : Int) := by omega
    have b4 : (0 : Int) ≤ (t1 : Int) := by omega
    have b5 : (n : Int) ≤ (cap : Int) := by omega
    have ht1s : t1 < s.length := by omega
    have hcl : (cs.take o).length = o := by rw [List.length_take]; omega
    have hba : BytesAt w2 d o (s.take n) := BytesAt.of_blk HB4.out (by
      have h1 : (s.take n).length = n := by rw [List.length_take]; omega
      rw [List.append_assoc, List.drop_append_of_le_length (by omega), List.drop_eq_nil_of_le (by omega), List.nil_append, h1, List.take_left' (by rw [u8s_length, h1])])
    have hx : w2.cell? ⟨d, o + t1, none⟩ = some (byt s[t1]) := by
      have := hba.cell (i := t1) (by rw [List.length_take]; omega)
      rwa [List.getElem_take] at this
    have htk : s.take n = s.take t1 ++ [s[t1]] := by rw [ht1]; exact List.take_succ_eq_append_getElem ht1s
    have hlast : lfEnd (pre ++ s.take n) = (s[t1] == 10) := by rw [htk, ← List.append_assoc, lfEnd_snoc]
    have hbl : ((s[t1].toNat : Int) == 10) = (s[t1] == 10) := by
      rw [Bool.eq_iff_iff]
      simp only [beq_iff_eq]
      constructor
      · intro h
        have h2 : s[t1].toNat = 10 := by omega
        exact UInt8.toNat.inj (by rw [h2]; rfl)
      · intro h
        rw [h]
        rfl
    generalize s[t1] = xx at hx hlast hbl
    unfold byt at hx
    have hlf1 : lfs (s.take n) ≤ n := Nat.le_trans (lfs_le _) (by rw [List.length_take]; omega)
    have hlf2 := lfs_le pre
    have hlf3 : lfs (pre ++ s.take n) = lfs pre + lfs (s.take n) := lfs_append _ _
    have hlsl : (s.take n).length = n := by rw [List.length_take]; omega
    have HBA := Lib.hid hba
    have HLAST := Lib.hid hlast
    have HLSL := Lib.hid hlsl
    have HLF3 := Lib.hid hlf3
    generalize hfl : lfs (s.take n) = fl at *
    generalize hfp : lfs pre = fp at *
    have HFL := Lib.hid hfl
    have HFP := Lib.hid hfp
    have hu1 : (fp : Int) + fl = ((fp + fl : Nat) : Int) := by omega
    obtain ⟨ft, hft⟩ : ∃ ft : Nat, ft = fp + fl := ⟨_, rfl⟩
    have hu2 : (fp : Int) + fl = ft := by omega
    have hu3 : IntKind.u32.wrap (ft : Int) = ft := u32_in _ (by omega) (by omega)
    have hu4 : IntKind.u32.wrap ((fp : Int) + fl) = ft := by rw [hu2]; exact hu3
    have HFT := Lib.hid hft
    generalize hbb : (xx == 10) = bb at *
    clear hba hlast hlf3 hlsl ht1s hcl htk hu1 hfl hfp hft ht1
    have heof := HL5.out.eof
    have hTe : T = (pre ++ s.take n) ++ s.drop n := by rw [List.append_assoc, List.take_append_drop]; exact HT.out
    have HTE := Lib.hid hTe
    clear hTe
    go_wp2
    generalize hw3 : w2.setCell ⟨k, 1, none⟩ (.int .u32 p2) = w3
    have hB6 : Blk w3 k [.iface X.t X.v, .int .u32 p2, .int .u32 fp, .bool (lfEnd pre)] 178 := by rw [← hw3]; exact (HB5.out.set 1 _).to rfl
    have K3 : Keeps (In [k]) w2 w3 := by rw [← hw3]; exact Keeps.cell_one w2 ⟨k, 1, none⟩ _
    have hx3 : w3.cell? ⟨d, o + t1, none⟩ = some (.int .u8 xx.toNat) := K3.cell hx (fun h => by simp only [In, List.mem_cons, List.not_mem_nil, or_false] at h; exact hkd h.symm)
    have heof3 := K3.cell heof (fun h => by simp only [In, List.mem_cons, List.not_mem_nil, or_false] at h; have := HL5.out.hN; omega)
    have hba3 := HBA.out.keep K3 (fun h => by simp only [In, List.mem_cons, List.not_mem_nil, or_false] at h; exact hkd h.symm)
    have HB6 := Lib.hid hB6
    have HBA3 := Lib.hid hba3
    have fz6 := hB6.frozen
    have r2 : w3.cell? ⟨k, 2, none⟩ = some (.int .u32 fp) := hB6.cell 2
    have r3 : w3.cell? ⟨k, 3, none⟩ = some (.bool (lfEnd pre)) := hB6.cell 3
    clear hw3 hB6 hba3 fz q1 q2 q3 hx heof
    refine region_mid 11 (by kernel_rfl) (by kernel_rfl) ?_
    simp only [List.take_succ_cons, List.take_zero, List.drop_succ_cons, List.drop_zero]
    repeat (quiet_step ((go_at_call 260; exact Calls.quiet_of_same (lineFeeds_any d o n cap (s.take n) HLSL.out _ (HBA3.out.keep (S := No) ((Keeps.refl No _).drewN _) (fun h => h)) (by omega)))))
    refine wpQuiet_nil ?_
    intro wq hwq
    obtain ⟨nq, rfl⟩ := hwq
    rw [HFL.out]
    have hq := fun w => eql_err_same w X.ea
    have hq2 := fun (w : World) (v : Value) => run_eql_iface_nil_left (P := Tryz.prog) w 203 v Tryz.underlying93
    have hfin : ∀ (W : World) (b' : Bool), b' = bb → Keeps (In [k]) w3 W → Blk W k [.iface X.t X.v, .int .u32 p2, .int .u32 ft, .bool b'] 178 →
        CountS k X T W (s.drop n) ∧ Blk W d (cs.take o ++ u8s (s.take n) ++ cs.drop (o + n)) 5 ∧ Keeps (fun x => InO k X x ∨ x = d) w W := fun W b' hb' KW BW => by
      have KK : Keeps (In [k]) w2 W := K3.trans' KW
      have hxk : ∀ x, X.own x → ¬ In [k] x := fun x hx hi => by simp only [In, List.mem_cons, List.not_mem_nil, or_false] at hi; subst hi; exact HK.out hx
      refine ⟨⟨pre ++ s.take n, ft, HTE.out, BW.to ?_, fun _ => by rw [HLF3.out, HFT.out], X.keep HS2.out KK hxk, HK.out, HEND.out, hTl, ?_⟩, HB4.out.keep KK (fun h => by simp only [In, List.mem_cons, List.not_mem_nil, or_false] at h; exact hkd h.symm), KD.trans KK (fun x _ h => .inl (.inl (by simpa [In] using h)))⟩
      · rw [HLAST.out, hb', HP2.out, List.length_append, HLSL.out]
      · unfold U32
        have := HFT.out
        omega
    have HFIN := Lib.hid hfin
    clear hfin
    rcases hev with rfl | rfl
    · go_wp2
      go_ret2
      obtain ⟨f1, f2, f3⟩ := HFIN.out (((w3.drewN nq).setCell ⟨k, 2, none⟩ (.int .u32 ft)).setCell ⟨k, 3, none⟩ (.bool bb)) bb rfl (by repeat (first | assumption | exact Keeps.refl _ _ | apply Keeps.drewN | apply Keeps.drew | apply Keeps.alloc | (refine Keeps.setCell ?_ (.inl (by simp [In])) _))) ((((HB6.out.drewN _).set 2 (.int .u32 ft)).set 3 (.bool bb)).to rfl)
      have hC := HC.out _ rfl
      exact ⟨n, _, rfl, hn3, hn2, hC, f1, f2, f3⟩
    · have hbt : bb = true := by
        rcases HC.out _ rfl with ⟨_, h⟩ | ⟨h, _⟩
        · cases h
        · have h1 := HEND.out hTne
          rw [HTE.out, h, List.drop_length, List.append_nil, ← h, HLAST.out] at h1
          exact h1
      subst hbt
      go_wp2
      go_ret2
      obtain ⟨f1, f2, f3⟩ := HFIN.out (((w3.drewN nq).setCell ⟨k, 2, none⟩ (.int .u32 ft)).setCell ⟨k, 3, none⟩ (.bool true)) true rfl (by repeat (first | assumption | exact Keeps.refl _ _ | apply Keeps.drewN | apply Keeps.drew | apply Keeps.alloc | (refine Keeps.setCell ?_ (.inl (by simp [In])) _))) ((((HB6.out.drewN _).set 2 (.int .u32 ft)).set 3 (.bool true)).to rfl)
      have hC := HC.out _ rfl
      exact ⟨n, _, rfl, hn3, hn2, hC, f1, f2, f3⟩

/-- A countReader over a source is a source. -/
def countSrc (k : Nat) (X : Src) (T : List UInt8) : Src where
  ea := X.ea
  t := 179
  v := .pointer (some ⟨k, 0, none⟩)
  f := 259
  recv := .pointer (some ⟨k, 0, none⟩)
  own := InO k X
  S := CountS k X T
  keep := fun h k hS => h.keep k hS
  lt := fun h hx => by
    obtain ⟨pre, nl, h1, h2, h3, h4, _⟩ := h
    rcases hx with rfl | hx
    · exact h2.lt
    · exact X.lt h4 hx
  small := fun h => by
    obtain ⟨pre, nl, h1, h2, h3, h4, _⟩ := h
    exact X.small h4

theorem method_count (k : Nat) (w : World) : (method 477 179 (.pointer (some ⟨k, 0, none⟩)) "Read").run Tryz.prog w = .ok (259, .pointer (some ⟨k, 0, none⟩)) w := by kernel_rfl
theorem enter_count (args : Array Value) (w : World) : (callFunc 259 args).run Tryz.prog w = .ok (.enter 259 args) w := by kernel_rfl
theorem count_notBuf (k : Nat) (w : World) : (Instr.typeAssert (.iface 179 (.pointer (some ⟨k, 0, none⟩))) 131 150 true).run Tryz.prog w = .ok (.tuple #[.pointer none, .bool false]) w := by kernel_rfl

theorem countSrc_ok {k : Nat} {X : Src} {T : List UInt8} {N : Nat} (O : X.Ok N) (hK : N ≤ k) : (countSrc k X T).Ok N where
  meth := method_count k
  enter := enter_count
  old := fun hx => by
    rcases hx with rfl | hx
    · exact hK
    · exact O.old hx
  read := fun {w s d o len cap cs} hS L hd hnd hdN hlen hcap hfit hcs => countRead_any k X T O d o len cap cs w s hS hK L hd hnd hdN hlen hcap hfit hcs
end Go.Proofs.YtjbbapodcngnaaaGreatDoor.G
namespace Go.Proofs.YtjbbapodcngnaaaGreatDoor.G
open Go.RowKit Hdr

set_option maxRecDepth 100000 in
theorem bytesEq_any (a o n ca b p m cb : Nat) (l r : List UInt8) (hl : n = l.length) (hr : m = r.length) (w : World) (h1 : BytesAt w a o l) (h2 : BytesAt w b p r) :
    Calls Tryz.prog 127 #[.slice (some ⟨a, o, none⟩) n ca, .slice (some ⟨b, p, none⟩) m cb] w fun e w' => e = .returned (.bool (l == r)) ∧ w' = w := by
  have c1 := run_string_of w a o ca l n hl h1
  have c2 := run_string_of w b p cb r m hr h2
  unfold str at c1 c2
  clear h1 h2 hl hr
  go_enter Tryz.func127, Tryz.ntmps127
  go_wp2
  go_ret
  exact ⟨by simp, rfl⟩

theorem prefix_take (p l : List UInt8) (h : p.length ≤ l.length) : (l.take p.length == p) = p.isPrefixOf l := by
  rw [Bool.eq_iff_iff, beq_iff_eq, List.isPrefixOf_iff_prefix]
  constructor
  · intro h
    refine ⟨l.drop p.length, ?_⟩
    have h9 := List.take_append_drop p.length l
    rw [h] at h9
    exact h9
  · rintro ⟨t, rfl⟩
    simp
theorem prefix_short (p l : List UInt8) (h : l.length < p.length) : p.isPrefixOf l = false := by
  rw [Bool.eq_false_iff]
  intro h2
  rw [List.isPrefixOf_iff_prefix] at h2
  have := h2.length_le
  omega

set_option maxRecDepth 100000 in
theorem bytesHasPrefix_any (a o n ca b p m cb : Nat) (l r : List UInt8) (hl : n = l.length) (hr : m = r.length) (w : World) (h1 : BytesAt w a o l) (h2 : BytesAt w b p r) (hca : n ≤ ca) :
    Calls Tryz.prog 160 #[.slice (some ⟨a, o, none⟩) n ca, .slice (some ⟨b, p, none⟩) m cb] w fun e w' => e = .returned (.bool (r.isPrefixOf l)) ∧ w' = w := by
  by_cases hlen : m ≤ n
  · have e1 : decide ((m : Int) ≤ (n : Int)) = true := decide_eq_true (by omega)
    have b1 : (m : Int) ≤ (ca : Int) := by omega
    have H := fun w' (hw : w' = w) => bytesEq_any a o m ca b p m cb (l.take m) r (by rw [List.length_take]; omega) hr w (by have := h1.sub 0 m; rwa [List.drop_zero] at this) h2
    have hp := prefix_take r l (by omega)
    rw [← hr] at hp
    have HP := Lib.hid hp
    have H0 := Lib.hid (H w rfl)
    clear H h1 h2 hl hr hp
    go_enter Tryz.func160, Tryz.ntmps160
    go_wp2_with (fail)
    refine H0.out.mono ?_
    rintro e w' ⟨rfl, rfl⟩
    go_wp2
    go_ret
    exact ⟨by rw [HP.out]; rfl, rfl⟩
  · have e1 : decide ((m : Int) ≤ (n : Int)) = false := decide_eq_false (by omega)
    have hp := prefix_short r l (by omega)
    have HP := Lib.hid hp
    clear h1 h2 hl hr hp
    go_enter Tryz.func160, Tryz.ntmps160
    go_wp2
    go_ret
    exact ⟨by rw [HP.out]; rfl, rfl⟩

/-- Where a byte stands last; -1 if nowhere. -/
def lastIx (c : UInt8) : List UInt8 → Int
  | [] => -1
  | x :: l => if lastIx c l = -1 then (if x = c then 0 else -1) else lastIx c l + 1
theorem lastIx_ge (c : UInt8) (l : List UInt8) : -1 ≤ lastIx c l := by
  induction l with
  | nil => exact Int.le_refl _
  | cons x l ih => simp only [lastIx]; split; (split <;> omega); omega
theorem lastIx_snoc (c x : UInt8) (l : List UInt8) : lastIx c (l ++ [x]) = if x = c then (l.length : Int) else lastIx c l := by
  induction l with
  | nil => simp [lastIx]
  | cons y l ih =>
    rw [List.cons_append]
    simp only [lastIx, ih, List.length_cons]
    have := lastIx_ge c l
    by_cases h : x = c
    · simp only [h, if_true]
      rw [if_neg (by omega)]
      omega
    · simp only [h, if_false]

set_option maxRecDepth 100000 in
set_option maxHeartbeats 400000 in
theorem lastIndexByte_any (a o n ca : Nat) (l : List UInt8) (c : UInt8) (hl : n = l.length) (w : World) (h : BytesAt w a o l) (hn : n ≤ 1000000000) :
    Calls Tryz.prog 277 #[.slice (some ⟨a, o, none⟩) n ca, .int .u8 c.toNat] w fun e w' => e = .returned (.int .i64 (lastIx c l)) ∧ w' = w := by
  have H := Lib.hid h
  have HL := Lib.hid hl
  clear h hl
  have hw0 : IntKind.i64.wrap ((n : Int) - 1) = (n : Int) - 1 := IntWalk.i64_in _ (by omega)
  go_enter Tryz.func277, Tryz.ntmps277
  go_wp2
  go_loopg [5] n (fun k s5 wr => s5 = .int .i64 ((k : Int) - 1) ∧ k ≤ n ∧ lastIx c l = lastIx c (l.take k) ∧ w = wr)
  case atStart => exact ⟨rfl, Nat.le_refl _, by rw [List.take_of_length_le (by have := HL.out; omega)], rfl⟩
  case round =>
    obtain ⟨rfl, hk, hi, rfl⟩ := hrel
    have HI := Lib.hid hi
    clear hi
    by_cases h0 : gk = 0
    · subst h0
      go_wp2
      go_ret
      exact ⟨by rw [HI.out]; rfl, rfl⟩
    · obtain ⟨i, rfl⟩ : ∃ i, gk = i + 1 := ⟨gk - 1, by omega⟩
      have hil : i < l.length := by have := HL.out; omega
      have hx := H.out.cell hil
      have htk : l.take (i + 1) = l.take i ++ [l[i]] := List.take_succ_eq_append_getElem hil
      have hsub : ((i + 1 : Nat) : Int) - 1 = i := by omega
      rw [hsub]
      have h1 : decide ((0 : Int) ≤ (i : Int)) = true := decide_eq_true (by omega)
      have h2 : (i : Int) < (n : Int) := by omega
      have h3 : IntKind.i64.wrap ((i : Int) - 1) = (i : Int) - 1 := IntWalk.i64_in _ (by omega)
      have hlt : (l.take i).length = i := by rw [List.length_take]; omega
      generalize l[i] = cc at *
      unfold byt at hx
      have HTK := Lib.hid htk
      have HLT := Lib.hid hlt
      clear htk hlt hsub
      by_cases hc : cc = c
      · subst hc
        go_wp2
        go_ret
        refine ⟨?_, rfl⟩
        rw [HI.out, HTK.out, lastIx_snoc, if_pos rfl, HLT.out]
        rfl
      · have hcn : cc.toNat ≠ c.toNat := fun e => hc (UInt8.toNat.inj e)
        have e1 : ((cc.toNat : Int) == (c.toNat : Int)) = false := by simp; omega
        have HC := Lib.hid hc
        clear hc hcn
        go_wp2
        go_roundg i
        case measure => omega
        case rel => exact ⟨rfl, by omega, by rw [HI.out, HTK.out, lastIx_snoc, if_neg HC.out], rfl⟩
end Go.Proofs.YtjbbapodcngnaaaGreatDoor.G
namespace Go.Proofs.YtjbbapodcngnaaaGreatDoor.G
open Go.RowKit Hdr

/-- Where a text stands first, counted from k; -1 if nowhere. -/
def ix (sub : List UInt8) : List UInt8 → Nat → Int
  | [], k => if sub.isPrefixOf [] then k else -1
  | c :: l, k => if sub.isPrefixOf (c :: l) then k else ix sub l (k + 1)

theorem ix_short (sub : List UInt8) : ∀ (l : List UInt8) (k : Nat), l.length < sub.length → ix sub l k = -1
  | [], k, h => by rw [ix, prefix_short _ _ h]; rfl
  | c :: l, k, h => by
    rw [ix, prefix_short _ _ h]
    exact ix_short sub l (k + 1) (by simp at h; omega)
theorem ix_hit (sub l : List UInt8) (k : Nat) (h : sub.isPrefixOf l = true) : ix sub l k = k := by
  cases l with
  | nil => rw [ix, if_pos h]
  | cons c l => rw [ix, if_pos h]
theorem ix_miss (sub : List UInt8) (c : UInt8) (l : List UInt8) (k : Nat) (h : sub.isPrefixOf (c :: l) = false) : ix sub (c :: l) k = ix sub l (k + 1) := by rw [ix, h]; rfl

set_option maxRecDepth 100000 in
set_option maxHeartbeats 1000000 in
theorem zzIndex_any (a o n ca b p m cb : Nat) (l r : List UInt8) (hl : n = l.length) (hr : m = r.length) (w : World) (h1 : BytesAt w a o l) (h2 : BytesAt w b p r) (hca : n ≤ ca) (hca2 : n ≤ 1000000) (hm : m ≤ 1000000) (hm0 : 0 < m) :
    Calls Tryz.prog 276 #[.slice (some ⟨a, o, none⟩) n ca, .slice (some ⟨b, p, none⟩) m cb] w fun e w' => e = .returned (.int .i64 (ix r l 0)) ∧ Drawn w w' := by
  have H1 := Lib.hid h1
  have H2 := Lib.hid h2
  have HL := Lib.hid hl
  have HR := Lib.hid hr
  clear h1 h2 hl hr
  go_enter Tryz.func276, Tryz.ntmps276
  go_wp2
  go_loopg [5] (n + 1) (fun k s5 wr => ∃ i : Nat, s5 = .int .i64 i ∧ i + k = n + 1 ∧ ix r l 0 = ix r (l.drop i) i ∧ Drawn w wr)
  case atStart => exact ⟨0, rfl, by omega, rfl, Drawn.refl _⟩
  case round =>
    obtain ⟨i, rfl, hk, hix, hD⟩ := hrel
    obtain ⟨nd, rfl⟩ := hD
    have HIX := Lib.hid hix
    have HK := Lib.hid hk
    have hin : i ≤ n + 1 := by omega
    clear hix hk
    obtain ⟨t, ht⟩ : ∃ t : Nat, t = i + m := ⟨_, rfl⟩
    have hs1 : (i : Int) + m = t := by omega
    have hs2 : IntKind.i64.wrap (t : Int) = t := IntWalk.i64_in _ (by omega)
    have hs3 : IntKind.i64.wrap ((i : Int) + m) = t := by rw [hs1]; exact hs2
    have HT := Lib.hid ht
    clear ht
    by_cases hle : t ≤ n
    · have e1 : decide ((t : Int) ≤ (n : Int)) = true := decide_eq_true (by omega)
      have b1 : (i : Int) ≤ (t : Int) := by have := HT.out; omega
      have b2 : (t : Int) ≤ (ca : Int) := by omega
      have htm : t - i = m := by have := HT.out; omega
      have hsub : ∀ q : Nat, BytesAt (w.drewN q) a (cutAt o i ca 1) ((l.drop i).take m) := fun q => ((H1.out.cut i m (cap := ca) (by have := HL.out; omega)).keep (S := No) ((Keeps.refl No w).drewN q) (fun h => h))
      have hlen : m = ((l.drop i).take m).length := by have := HL.out; have := HT.out; rw [List.length_take, List.length_drop]; omega
      have c1 := fun q => run_string_of (w.drewN q) a (cutAt o i ca 1) (ca - i) ((l.drop i).take m) m hlen (hsub q)
      have c2 := fun q => run_string_of (w.drewN q) b p cb r m HR.out (H2.out.keep (S := No) ((Keeps.refl No w).drewN q) (fun h => h))
      have hpt := prefix_take r (l.drop i) (by have := HL.out; have := HT.out; have := HR.out; rw [List.length_drop]; omega)
      rw [← HR.out] at hpt
      have hlt : i < n ∨ i = n := by have := HT.out; omega
      have HPT := Lib.hid hpt
      unfold str at c1 c2
      have c1' := fun q q2 => c1 (q + q2)
      have hdd : ∀ q q2 : Nat, (w.drewN q).drewN q2 = w.drewN (q + q2) := fun q q2 => World.drewN_drewN _ _ _
      clear hsub hlen hpt
      cases hpf : r.isPrefixOf (l.drop i) with
      | true =>
        have heq : ((l.drop i).take m == r) = true := by rw [HPT.out, hpf]
        have heq' : (l.drop i).take m = r := by simpa using heq
        have hh := ix_hit r (l.drop i) i hpf
        have HH := Lib.hid hh
        clear hh hpf
        go_wp2
        go_quiet (fail)
        go_wp2
        go_ret
        refine ⟨?_, ((Drawn.refl w).drewN _).drewN _⟩
        rw [HIX.out, HH.out]
        rfl
      | false =>
        have heq : ((l.drop i).take m == r) = false := by rw [HPT.out, hpf]
        have hne : (l.drop i).take m ≠ r := by simpa using heq
        have hmiss : ix r (l.drop i) i = ix r (l.drop (i + 1)) (i + 1) := by
          rcases hlt with h | h
          · rw [List.drop_eq_getElem_cons (by have := HL.out; omega)] at hpf ⊢
            exact ix_miss r _ _ i hpf
          · have h0 : l.drop i = [] := List.drop_eq_nil_of_le (by have := HL.out; omega)
            have h1 : l.drop (i + 1) = [] := List.drop_eq_nil_of_le (by have := HL.out; omega)
            rw [h0] at hpf
            rw [h0, h1, ix, ix, hpf]
            rfl
        have HMISS := Lib.hid hmiss
        have hw1 : IntKind.i64.wrap ((i : Int) + 1) = ((i + 1 : Nat) : Int) := by
          have : ((i : Int) + 1) = ((i + 1 : Nat) : Int) := by omega
          rw [this]; exact IntWalk.i64_in _ (by omega)
        have hw2 : IntKind.i64.wrap ((i : Int) + 1) = (i : Int) + 1 := IntWalk.i64_in _ (by omega)
        clear hmiss hpf hw1
        go_wp2
        go_quiet (fail)
        go_wp2
        go_roundg (gk - 1)
        case measure => have := HK.out; omega
        case rel => exact ⟨i + 1, by simp, by have := HK.out; omega, by rw [HIX.out, HMISS.out], (Drawn.refl w).drewN _⟩
    · have e1 : decide ((t : Int) ≤ (n : Int)) = false := decide_eq_false (by omega)
      have hsh := ix_short r (l.drop i) i (by have := HL.out; have := HT.out; have := HR.out; rw [List.length_drop]; omega)
      have HSH := Lib.hid hsh
      clear hsh
      go_wp2
      go_ret
      refine ⟨?_, (Drawn.refl w).drewN _⟩
      rw [HIX.out, HSH.out]
      rfl

/-! ### matchAfterPrefix, without an error -/
/-- A sign behind a boundary. -/
def dl (c : UInt8) : Bool := c == 32 || c == 9 || c == 13 || c == 10 || c == 45
/-- What stands behind a boundary of so many bytes. -/
def mAft (l : List UInt8) (n : Nat) : Int := match l[n]? with
  | none => 0
  | some c => if dl c then 1 else -1

set_option maxRecDepth 100000 in
theorem matchAfter_any (a o n ca b p m cb : Nat) (l : List UInt8) (hl : n = l.length) (w : World) (h1 : BytesAt w a o l) (hm : m ≤ n) :
    Calls Tryz.prog 275 #[.slice (some ⟨a, o, none⟩) n ca, .slice (some ⟨b, p, none⟩) m cb, .nilIface] w fun e w' => e = .returned (.int .i64 (mAft l m)) ∧ w' = w := by
  by_cases hnm : n = m
  · have hx : mAft l m = 0 := by
      unfold mAft
      rw [List.getElem?_eq_none (by omega)]
    have HX := Lib.hid hx
    subst hnm
    clear hx h1 hl
    go_enter Tryz.func275, Tryz.ntmps275
    go_wp2
    go_ret
    exact ⟨by rw [HX.out]; rfl, rfl⟩
  · have hlt : m < l.length := by omega
    have hc := h1.cell hlt
    have hx : mAft l m = if dl l[m] then 1 else -1 := by
      unfold mAft
      rw [List.getElem?_eq_getElem hlt]
    generalize l[m] = c at hc hx
    unfold byt at hc
    have e0 : ((n : Int) == (m : Int)) = false := by simp; omega
    have e0' : (n == m) = false := by simp; omega
    have b1 : (m : Int) < (n : Int) := by omega
    have HX := Lib.hid hx
    clear hx h1 hl hlt
    have key : ∀ v : UInt8, ((c.toNat : Int) == (v.toNat : Int)) = (c == v) := fun v => by
      rw [Bool.eq_iff_iff, beq_iff_eq, beq_iff_eq]
      exact ⟨fun h => UInt8.toNat.inj (by omega), fun h => by rw [h]⟩
    have k1 : ((c.toNat : Int) == 32) = (c == 32) := key 32
    have k2 : ((c.toNat : Int) == 9) = (c == 9) := key 9
    have k3 : ((c.toNat : Int) == 13) = (c == 13) := key 13
    have k4 : ((c.toNat : Int) == 10) = (c == 10) := key 10
    have k5 : ((c.toNat : Int) == 45) = (c == 45) := key 45
    clear key
    have hdl : dl c = (c == 32 || c == 9 || c == 13 || c == 10 || c == 45) := rfl
    rw [← k1, ← k2, ← k3, ← k4, ← k5] at hdl
    clear k1 k2 k3 k4 k5
    have HDL := Lib.hid hdl
    clear hdl
    cases q1 : ((c.toNat : Int) == 32) <;> cases q2 : ((c.toNat : Int) == 9) <;> cases q3 : ((c.toNat : Int) == 13) <;> cases q4 : ((c.toNat : Int) == 10) <;> cases q5 : ((c.toNat : Int) == 45)
    all_goals
      have hh := HDL.out
      rw [q1, q2, q3, q4, q5] at hh
      have HH := Lib.hid hh
      clear hh HDL
      go_enter Tryz.func275, Tryz.ntmps275
      go_wp2
      go_ret
      exact ⟨by rw [HX.out, HH.out]; rfl, rfl⟩

/-! ### skipLWSPChar -/
end Go.Proofs.YtjbbapodcngnaaaGreatDoor.G
namespace Go.Proofs.YtjbbapodcngnaaaGreatDoor.G
open Go.RowKit Hdr

/-- .. no boundary at the begin. -/
def scanR (l nl : List UInt8) : Nat × Bool :=
  if 0 ≤ ix nl l 0 then
    (if mAft (l.drop (ix nl l 0).toNat) nl.length = -1 then ((ix nl l 0).toNat + nl.length, false) else if mAft (l.drop (ix nl l 0).toNat) nl.length = 0 then ((ix nl l 0).toNat, false) else ((ix nl l 0).toNat, true))
  else if l.isPrefixOf nl then (0, false)
  else if 0 ≤ lastIx 13 l ∧ (l.drop (lastIx 13 l).toNat).isPrefixOf nl = true then ((lastIx 13 l).toNat, false)
  else (l.length, false)
/-- scanUntilBoundary: how many bytes are a part's, and whether it ends there. -/
def scan (l da nl : List UInt8) (t0 : Bool) : Nat × Bool :=
  if t0 then
    (if da.isPrefixOf l then (if mAft l da.length = -1 then (da.length, false) else if mAft l da.length = 0 then (0, false) else (0, true))
    else if l.isPrefixOf da then (0, false) else scanR l nl)
  else scanR l nl

/-- io.EOF, where it ends. -/
def endV (ea : Addr) (b : Bool) : Value := if b then (.iface 203 (.pointer (some ea))) else .nilIface
theorem endV_true (ea : Addr) : endV ea true = (.iface 203 (.pointer (some ea))) := rfl
theorem endV_false (ea : Addr) : endV ea false = .nilIface := rfl

theorem mAft_cases (l : List UInt8) (n : Nat) : mAft l n = -1 ∨ mAft l n = 0 ∨ mAft l n = 1 := by
  unfold mAft
  split
  · exact .inr (.inl rfl)
  · split
    · exact .inr (.inr rfl)
    · exact .inl rfl
theorem ix_cases (sub : List UInt8) : ∀ (l : List UInt8) (k : Nat), ix sub l k = -1 ∨ ∃ i, ix sub l k = ((k + i : Nat) : Int) ∧ i ≤ l.length ∧ sub.isPrefixOf (l.drop i) = true
  | [], k => by
    unfold ix
    split
    · rename_i h; exact .inr ⟨0, rfl, Nat.le_refl _, h⟩
    · exact .inl rfl
  | c :: l, k => by
    unfold ix
    split
    · rename_i h; exact .inr ⟨0, rfl, Nat.zero_le _, h⟩
    · rcases ix_cases sub l (k + 1) with h | ⟨i, h, h1, h2⟩
      · exact .inl h
      · exact .inr ⟨i + 1, by rw [h]; congr 1; omega, by simp; omega, by simpa using h2⟩
theorem prefix_len {a b : List UInt8} (h : a.isPrefixOf b = true) : a.length ≤ b.length := by
  rw [List.isPrefixOf_iff_prefix] at h
  exact h.length_le
theorem lastIx_lt (c : UInt8) (l : List UInt8) : lastIx c l < l.length := by
  induction l with
  | nil => simp [lastIx]
  | cons x l ih =>
    simp only [lastIx, List.length_cons]
    split
    · split <;> omega
    · omega

set_option maxRecDepth 100000 in
set_option maxHeartbeats 1000000 in
theorem scanR_any (g o n ca b1 o1 n1 c1 b2 o2 n2 c2 : Nat) (l da nl : List UInt8) (hl : n = l.length) (hd : n1 = da.length) (hn : n2 = nl.length) (ea : Addr) (w : World) (tot : Int) (h1 : BytesAt w g o l) (h2 : BytesAt w b1 o1 da) (h3 : BytesAt w b2 o2 nl)
    (hca : n ≤ ca) (hca2 : n ≤ 1000000) (hm0 : 0 < n2) (hm : n2 ≤ 1000000) (hc2 : n2 ≤ c2) (hc1 : n1 ≤ c1) (h13 : nl[0]? = some 13) (heof : w.cell? ⟨0, 0, none⟩ = some (.iface 203 (.pointer (some ea)))) (t0 : Bool) (ht0 : (tot == 0) = t0)
    (hno : t0 = true → da.isPrefixOf l = false ∧ l.isPrefixOf da = false) :
    Calls Tryz.prog 274 #[.slice (some ⟨g, o, none⟩) n ca, .slice (some ⟨b1, o1, none⟩) n1 c1, .slice (some ⟨b2, o2, none⟩) n2 c2, .int .i64 tot, .nilIface] w fun e w' =>
      e = .returned (.tuple #[.int .i64 (scanR l nl).1, endV ea (scanR l nl).2]) ∧ Drawn w w' := by
  have H1 := Lib.hid h1
  have H2 := Lib.hid h2
  have H3 := Lib.hid h3
  have HL := Lib.hid hl
  have HD := Lib.hid hd
  have HN := Lib.hid hn
  have HNO := Lib.hid hno
  have h30 := h3.cell (i := 0) (by omega)
  have h0e : nl[0]'(by omega) = 13 := by rw [List.getElem?_eq_getElem (by omega)] at h13; exact Option.some.inj h13
  rw [h0e, Nat.add_zero] at h30
  have e13 : byt 13 = .int .u8 13 := rfl
  rw [e13] at h30
  generalize hsr : scanR l nl = sr
  have HSR := Lib.hid hsr
  have hixc := ix_cases nl l 0
  generalize hix : ix nl l 0 = iv at hixc
  have HIX := Lib.hid hix
  clear h1 h2 h3 hl hd hn hsr hix h13 h0e e13 hno
  go_enter Tryz.func274, Tryz.ntmps274
  go_upto_if 15 with (fail)
  go_cut [] (fun wx => w = wx)
  case first =>
    cases t0 with
    | false =>
      go_wp2
      go_meet
      rfl
    | true =>
      obtain ⟨ha, hb⟩ := HNO.out rfl
      have HA := Lib.hid ha
      have HB := Lib.hid hb
      clear ha hb
      go_wp2_with (fail)
      refine (bytesHasPrefix_any g o n ca b1 o1 n1 c1 l da HL.out HD.out w H1.out H2.out hca).mono ?_
      rintro e w1 ⟨rfl, rfl⟩
      rw [HA.out]
      go_wp2_with (fail)
      refine (bytesHasPrefix_any b1 o1 n1 c1 g o n ca da l HD.out HL.out w1 H2.out H1.out hc1).mono ?_
      rintro e w2 ⟨rfl, rfl⟩
      rw [HB.out]
      go_wp2
      go_meet
      rfl
  case rest =>
    subst hcut
    go_wp2_with (fail)
    refine (zzIndex_any g o n ca b2 o2 n2 c2 l nl HL.out HN.out w H1.out H3.out hca hca2 hm hm0).mono ?_
    rintro e w1 ⟨rfl, q, rfl⟩
    rw [HIX.out]
    rcases hixc with rfl | ⟨i, rfl, hil, hpf⟩
    · have hsr : sr = (if l.isPrefixOf nl = true then (0, false) else if 0 ≤ lastIx 13 l ∧ (l.drop (lastIx 13 l).toNat).isPrefixOf nl = true then ((lastIx 13 l).toNat, false) else (l.length, false)) := by
        rw [← HSR.out]
        unfold scanR
        rw [HIX.out, if_neg (by omega)]
      have HS2 := Lib.hid hsr
      clear hsr
      have h1q : BytesAt (w.drewN q) g o l := H1.out.keep (S := No) ((Keeps.refl No w).drewN q) (fun h => h)
      have h3q : BytesAt (w.drewN q) b2 o2 nl := H3.out.keep (S := No) ((Keeps.refl No w).drewN q) (fun h => h)
      have HQ1 := Lib.hid h1q
      have HQ3 := Lib.hid h3q
      clear h1q h3q
      go_wp2_with (fail)
      refine (bytesHasPrefix_any b2 o2 n2 c2 g o n ca nl l HN.out HL.out (w.drewN q) HQ3.out HQ1.out hc2).mono ?_
      rintro e w2 ⟨rfl, rfl⟩
      cases hp : l.isPrefixOf nl with
      | true =>
        have hs := HS2.out
        rw [hp, if_pos rfl] at hs
        have HS := Lib.hid hs
        clear hp hs
        go_wp2
        go_ret2
        rw [HS.out]
        exact ⟨rfl, (Drawn.refl w).drewN _⟩
      | false =>
        have hs := HS2.out
        rw [hp, if_neg (by decide)] at hs
        have HS := Lib.hid hs
        have b0 : (0 : Int) < (n2 : Int) := by omega
        have hLI : Calls Tryz.prog 277 #[.slice (some ⟨g, o, none⟩) n ca, .int .u8 13] (w.drewN q) fun e w' => e = .returned (.int .i64 (lastIx 13 l)) ∧ w' = w.drewN q := lastIndexByte_any g o n ca l 13 HL.out (w.drewN q) HQ1.out (by omega)
        have HLI := Lib.hid hLI
        have hge := lastIx_ge 13 l
        have hltj := lastIx_lt 13 l
        clear hp hs hLI
        go_wp2_with (fail)
        refine HLI.out.mono ?_
        rintro e w2 ⟨rfl, rfl⟩
        generalize lastIx 13 l = jv at *
        by_cases hj : jv = -1
        · subst hj
          have hs := HS.out
          rw [if_neg (by omega)] at hs
          have HS9 := Lib.hid hs
          clear hs HS HS2
          go_wp2
          go_ret2
          rw [HS9.out, ← HL.out]
          exact ⟨rfl, (Drawn.refl w).drewN _⟩
        · obtain ⟨j, rfl⟩ : ∃ j : Nat, jv = j := ⟨jv.toNat, by omega⟩
          have e1 : decide ((0 : Int) ≤ (j : Int)) = true := decide_eq_true (by omega)
          have b3 : (j : Int) ≤ (n : Int) := by have := HL.out; omega
          have b4 : (0 : Int) ≤ (j : Int) := by omega
          have hnj : n - j = (l.drop j).length := by have := HL.out; rw [List.length_drop]; omega
          have hbd : BytesAt (w.drewN q) g (cutAt o j ca 1) (l.drop j) := HQ1.out.cut_l j (by have := HL.out; omega)
          have HNJ := Lib.hid hnj
          have HBD := Lib.hid hbd
          have hs := HS.out
          rw [Int.toNat_natCast] at hs
          have HS9 := Lib.hid hs
          clear hnj hbd hs HS HS2 hge hltj hj
          go_wp2_with (fail)
          refine (bytesHasPrefix_any b2 o2 n2 c2 g (cutAt o j ca 1) (n - j) (ca - j) nl (l.drop j) HN.out HNJ.out (w.drewN q) HQ3.out HBD.out hc2).mono ?_
          rintro e w2 ⟨rfl, rfl⟩
          cases hp2 : (l.drop j).isPrefixOf nl with
          | true =>
            have hs := HS9.out
            rw [hp2, if_pos ⟨by omega, rfl⟩] at hs
            have HS := Lib.hid hs
            clear hp2 hs
            go_wp2
            go_ret2
            rw [HS.out]
            exact ⟨rfl, (Drawn.refl w).drewN _⟩
          | false =>
            have hs := HS9.out
            rw [hp2, if_neg (by simp)] at hs
            have HS := Lib.hid hs
            clear hp2 hs
            go_wp2
            go_ret2
            rw [HS.out, ← HL.out]
            exact ⟨rfl, (Drawn.refl w).drewN _⟩
    · rw [Nat.zero_add] at HIX ⊢
      have e1 : decide ((0 : Int) ≤ (i : Int)) = true := decide_eq_true (by omega)
      have b3 : (i : Int) ≤ (n : Int) := by have := HL.out; omega
      have hml := prefix_len hpf
      rw [List.length_drop] at hml
      have hni : n - i = (l.drop i).length := by have := HL.out; rw [List.length_drop]; omega
      have hbd : BytesAt (w.drewN q) g (cutAt o i ca 1) (l.drop i) := (H1.out.cut_l i (by have := HL.out; omega)).keep (S := No) ((Keeps.refl No w).drewN q) (fun h => h)
      have HBD := Lib.hid hbd
      have hsr : sr = (if mAft (l.drop i) nl.length = -1 then (i + nl.length, false) else if mAft (l.drop i) nl.length = 0 then (i, false) else (i, true)) := by
        rw [← HSR.out]
        unfold scanR
        rw [HIX.out, if_pos (by omega), Int.toNat_natCast]
      have hmc := mAft_cases (l.drop i) nl.length
      rw [← HN.out] at hsr hmc
      have HNI := Lib.hid hni
      have HML := Lib.hid hml
      have HPF := Lib.hid hpf
      obtain ⟨t, ht⟩ : ∃ t : Nat, t = i + n2 := ⟨_, rfl⟩
      have hs1 : (i : Int) + n2 = t := by omega
      have hs2 : IntKind.i64.wrap (t : Int) = t := IntWalk.i64_in _ (by have := HL.out; omega)
      have hs3 : IntKind.i64.wrap ((i : Int) + n2) = t := by rw [hs1]; exact hs2
      rw [← ht] at hsr
      clear ht
      have HS2 := Lib.hid hsr
      clear hbd hni hml hpf hsr
      go_wp2_with (fail)
      refine (matchAfter_any g (cutAt o i ca 1) (n - i) (ca - i) b2 o2 n2 c2 (l.drop i) HNI.out (w.drewN q) HBD.out (by have := HML.out; have := HN.out; have := HL.out; omega)).mono ?_
      rintro e w2 ⟨rfl, rfl⟩
      generalize mAft (l.drop i) n2 = mv at *
      rcases hmc with rfl | rfl | rfl
      · have hs := HS2.out
        rw [if_pos rfl] at hs
        have HS := Lib.hid hs
        clear hs HS2
        go_wp2
        go_ret2
        rw [HS.out]
        exact ⟨rfl, (Drawn.refl w).drewN _⟩
      · have hs := HS2.out
        rw [if_neg (by decide), if_pos rfl] at hs
        have HS := Lib.hid hs
        clear hs HS2
        go_wp2
        go_ret2
        rw [HS.out]
        exact ⟨rfl, (Drawn.refl w).drewN _⟩
      · have hs := HS2.out
        rw [if_neg (by decide), if_neg (by decide)] at hs
        have HS := Lib.hid hs
        clear hs HS2
        go_wp2
        go_quiet (fail)
        go_wp2
        go_ret2
        rw [HS.out]
        exact ⟨rfl, by repeat (first | exact Drawn.refl _ | apply Drawn.drewN)⟩

set_option maxRecDepth 100000 in
set_option maxHeartbeats 1000000 in
theorem scan_any (g o n ca b1 o1 n1 c1 b2 o2 n2 c2 : Nat) (l da nl : List UInt8) (hl : n = l.length) (hd : n1 = da.length) (hn : n2 = nl.length) (ea : Addr) (w : World) (tot : Int) (h1 : BytesAt w g o l) (h2 : BytesAt w b1 o1 da) (h3 : BytesAt w b2 o2 nl)
    (hca : n ≤ ca) (hca2 : n ≤ 1000000) (hm0 : 0 < n2) (hm : n2 ≤ 1000000) (hc2 : n2 ≤ c2) (hc1 : n1 ≤ c1) (h13 : nl[0]? = some 13) (heof : w.cell? ⟨0, 0, none⟩ = some (.iface 203 (.pointer (some ea)))) :
    Calls Tryz.prog 274 #[.slice (some ⟨g, o, none⟩) n ca, .slice (some ⟨b1, o1, none⟩) n1 c1, .slice (some ⟨b2, o2, none⟩) n2 c2, .int .i64 tot, .nilIface] w fun e w' =>
      e = .returned (.tuple #[.int .i64 (scan l da nl (tot == 0)).1, endV ea (scan l da nl (tot == 0)).2]) ∧ Drawn w w' := by
  by_cases hno : (tot == 0) = true → da.isPrefixOf l = false ∧ l.isPrefixOf da = false
  · refine (scanR_any g o n ca b1 o1 n1 c1 b2 o2 n2 c2 l da nl hl hd hn ea w tot h1 h2 h3 hca hca2 hm0 hm hc2 hc1 h13 heof _ rfl hno).mono ?_
    have hs : scan l da nl (tot == 0) = scanR l nl := by
      unfold scan
      cases ht : (tot == 0) with
      | false => rfl
      | true =>
        obtain ⟨ha, hb⟩ := hno ht
        rw [ha, hb]
        rfl
    rw [hs]
    exact fun e w' h => h
  · have ht : (tot == 0) = true := by
      cases ht : (tot == 0) with
      | false => exact absurd (fun h => by cases ht.symm.trans h) hno
      | true => rfl
    have hab : da.isPrefixOf l = true ∨ da.isPrefixOf l = false ∧ l.isPrefixOf da = true := by
      cases ha : da.isPrefixOf l with
      | true => exact .inl rfl
      | false =>
        cases hb : l.isPrefixOf da with
        | true => exact .inr ⟨rfl, rfl⟩
        | false => exact absurd (fun _ => ⟨ha, hb⟩) hno
    have htot : tot = 0 := by simpa using ht
    subst htot
    have hmc := mAft_cases l da.length
    have hlen : da.isPrefixOf l = true → n1 ≤ n := fun h => by have := prefix_len h; omega
    have hsc : scan l da nl ((0 : Int) == 0) = (if da.isPrefixOf l = true then (if mAft l da.length = -1 then (da.length, false) else if mAft l da.length = 0 then (0, false) else (0, true)) else (if l.isPrefixOf da = true then (0, false) else scanR l nl)) := rfl
    generalize scan l da nl ((0 : Int) == 0) = sr at hsc ⊢
    rw [← hd] at hsc hmc
    have H1 := Lib.hid h1
    have H2 := Lib.hid h2
    have HL := Lib.hid hl
    have HD := Lib.hid hd
    have HSC := Lib.hid hsc
    have HLEN := Lib.hid hlen
    clear h1 h2 h3 hl hd hn hsc hlen hno h13 ht
    go_enter Tryz.func274, Tryz.ntmps274
    go_wp2_with (fail)
    refine (bytesHasPrefix_any g o n ca b1 o1 n1 c1 l da HL.out HD.out w H1.out H2.out hca).mono ?_
    rintro e w1 ⟨rfl, rfl⟩
    rcases hab with ha | ⟨ha, hb⟩
    · have hln := HLEN.out ha
      rw [ha]
      have hs := HSC.out
      rw [if_pos ha] at hs
      have HS := Lib.hid hs
      clear ha hs HSC HLEN
      go_wp2_with (fail)
      refine (matchAfter_any g o n ca b1 o1 n1 c1 l HL.out w1 H1.out hln).mono ?_
      rintro e w2 ⟨rfl, rfl⟩
      generalize mAft l n1 = mv at *
      rcases hmc with rfl | rfl | rfl
      · have hs := HS.out
        rw [if_pos rfl] at hs
        have HS9 := Lib.hid hs
        clear hs HS
        go_wp2
        go_ret2
        rw [HS9.out]
        exact ⟨rfl, Drawn.refl _⟩
      · have hs := HS.out
        rw [if_neg (by decide), if_pos rfl] at hs
        have HS9 := Lib.hid hs
        clear hs HS
        go_wp2
        go_ret2
        rw [HS9.out]
        exact ⟨rfl, Drawn.refl _⟩
      · have hs := HS.out
        rw [if_neg (by decide), if_neg (by decide)] at hs
        have HS9 := Lib.hid hs
        clear hs HS
        go_wp2
        go_quiet (fail)
        go_wp2
        go_ret2
        rw [HS9.out]
        exact ⟨rfl, by repeat (first | exact Drawn.refl _ | apply Drawn.drewN)⟩
    · rw [ha]
      have hs := HSC.out
      rw [if_neg (by rw [ha]; decide), if_pos hb] at hs
      have HS := Lib.hid hs
      have HB := Lib.hid hb
      clear ha hs HSC HLEN hb
      go_wp2_with (fail)
      refine (bytesHasPrefix_any b1 o1 n1 c1 g o n ca da l HD.out HL.out w1 H2.out H1.out hc1).mono ?_
      rintro e w2 ⟨rfl, rfl⟩
      rw [HB.out]
      go_wp2
      go_ret2
      rw [HS.out]
      exact ⟨rfl, Drawn.refl _⟩
end Go.Proofs.YtjbbapodcngnaaaGreatDoor.G
namespace Go.Proofs.YtjbbapodcngnaaaGreatDoor.G
open Go.RowKit Hdr

theorem pre_get (p : List UInt8) : ∀ (l : List UInt8), p.isPrefixOf l = true ↔ ∀ j, j < p.length → l[j]? = p[j]? := by
  induction p with
  | nil => intro l; simp
  | cons a p ih =>
    intro l
    cases l with
    | nil =>
      constructor
      · intro h; simp at h
      · intro h; have := h 0 (by simp); simp at this
    | cons b l =>
      rw [List.isPrefixOf_cons_cons, Bool.and_eq_true, ih l, beq_iff_eq]
      constructor
      · rintro ⟨rfl, h⟩ j hj
        cases j with
        | zero => rfl
        | succ j => simpa using h j (by simpa using hj)
      · intro h
        refine ⟨?_, fun j hj => ?_⟩
        · have := h 0 (by simp); simpa using this.symm
        · have := h (j + 1) (by simpa using hj); simpa using this

theorem ix_all (sub : List UInt8) : ∀ (l : List UInt8) (k : Nat), (ix sub l k = -1 ∧ ∀ j, j ≤ l.length → sub.isPrefixOf (l.drop j) = false) ∨ (∃ i, ix sub l k = ((k + i : Nat) : Int) ∧ i ≤ l.length ∧ sub.isPrefixOf (l.drop i) = true ∧ ∀ j, j < i → sub.isPrefixOf (l.drop j) = false)
  | [], k => by
    unfold ix
    split
    · rename_i h; exact .inr ⟨0, rfl, Nat.le_refl _, h, fun j hj => by omega⟩
    · rename_i h; exact .inl ⟨rfl, fun j _ => by rw [List.drop_nil]; exact Bool.eq_false_iff.2 h⟩
  | c :: l, k => by
    unfold ix
    split
    · rename_i h; exact .inr ⟨0, rfl, Nat.zero_le _, h, fun j hj => by omega⟩
    · rename_i h
      have h' : sub.isPrefixOf (c :: l) = false := Bool.eq_false_iff.2 h
      rcases ix_all sub l (k + 1) with ⟨h1, h2⟩ | ⟨i, h1, h2, h3, h4⟩
      · refine .inl ⟨h1, fun j hj => ?_⟩
        cases j with
        | zero => exact h'
        | succ j => exact h2 j (by simpa using hj)
      · refine .inr ⟨i + 1, by rw [h1]; congr 1; omega, by simp; omega, by simpa using h3, fun j hj => ?_⟩
        cases j with
        | zero => exact h'
        | succ j => exact h4 j (by omega)

theorem lastIx_all (c : UInt8) : ∀ (l : List UInt8), (lastIx c l = -1 ∧ ∀ j : Nat, l[j]? ≠ some c) ∨ (∃ i : Nat, lastIx c l = i ∧ l[i]? = some c ∧ ∀ j : Nat, i < j → l[j]? ≠ some c)
  | [] => .inl ⟨rfl, fun j => by simp⟩
  | x :: l => by
    simp only [lastIx]
    rcases lastIx_all c l with ⟨h1, h2⟩ | ⟨i, h1, h2, h3⟩
    · rw [if_pos h1]
      split
      · rename_i hx
        refine .inr ⟨0, rfl, by simp [hx], fun j hj => ?_⟩
        cases j with
        | zero => omega
        | succ j => simpa using h2 j
      · rename_i hx
        refine .inl ⟨rfl, fun j => ?_⟩
        cases j with
        | zero => simpa using hx
        | succ j => simpa using h2 j
    · rw [if_neg (by omega), h1]
      refine .inr ⟨i + 1, by omega, by simpa using h2, fun j hj => ?_⟩
      cases j with
      | zero => omega
      | succ j => simpa using h3 j (by omega)

/-- What comes behind a part's content: a line end, the boundary, and a sign behind it. -/
structure Bnd (da nl t : List UInt8) : Prop where
  nl : nl = 13 :: 10 :: da
  d0 : 0 < da.length
  d13 : (13 : UInt8) ∉ da
  t : ∃ x t', t = x :: t' ∧ dl x = true

/-- Nothing in s looks like its end. -/
def Safe (s nl t : List UInt8) : Prop := ∀ i, i < s.length → nl.isPrefixOf ((s ++ nl ++ t).drop i) = true → ∃ x, (s ++ nl ++ t)[i + nl.length]? = some x ∧ dl x = false
def Safe0 (s da nl t : List UInt8) : Prop := da.isPrefixOf (s ++ nl ++ t) = true → ∃ x, (s ++ nl ++ t)[da.length]? = some x ∧ dl x = false

/-- A scan that is right: n bytes of the part are left, k stand in the buffer. -/
def Good (n k N : Nat) (r : Nat × Bool) : Prop := r.1 ≤ n ∧ r.1 ≤ k ∧ (r.2 = true → r.1 = n) ∧ (r.1 = 0 → r.2 = false → k ≤ N)
theorem Good.no {n k N i : Nat} (h1 : i ≤ n) (h2 : i ≤ k) (h3 : i = 0 → k ≤ N) : Good n k N (i, false) := ⟨h1, h2, fun h => (by cases h), fun h _ => h3 h⟩
theorem Good.yes {n k N : Nat} (h2 : n ≤ k) : Good n k N (n, true) := ⟨Nat.le_refl _, h2, fun _ => rfl, fun _ h => (by cases h)⟩

theorem scan_law (s da nl t : List UInt8) (B : Bnd da nl t) (hS : Safe s nl t) (t0 : Bool) (h0 : t0 = true → Safe0 s da nl t) (k : Nat) (hk : k ≤ (s ++ nl ++ t).length) :
    Good s.length k nl.length (scan ((s ++ nl ++ t).take k) da nl t0) := by
  obtain ⟨x0, t', ht, hx0⟩ := B.t
  have hnl := B.nl
  have hd0 := B.d0
  have hnlen : nl.length = da.length + 2 := by rw [hnl]; simp
  have hcl : (s ++ nl ++ t).length = s.length + nl.length + t.length := by simp only [List.length_append]
  have htl : 0 < t.length := by rw [ht]; simp
  have hcs : (s ++ nl ++ t)[s.length]? = some 13 := by
    rw [List.append_assoc, List.getElem?_append_right (Nat.le_refl _), Nat.sub_self, hnl]; rfl
  have hcn : ∀ j, j < nl.length → (s ++ nl ++ t)[s.length + j]? = nl[j]? := fun j hj => by
    rw [List.append_assoc, List.getElem?_append_right (Nat.le_add_right _ _), Nat.add_sub_cancel_left, List.getElem?_append_left hj]
  have hct : (s ++ nl ++ t)[s.length + nl.length]? = some x0 := by
    rw [List.getElem?_append_right (by simp), List.length_append, Nat.sub_self, ht]; rfl
  have hda : ∀ j, j < da.length → da[j]? ≠ some 13 := fun j hj h => B.d13 (List.mem_of_getElem? h)
  have hn13 : ∀ j, 0 < j → j < nl.length → nl[j]? ≠ some 13 := fun j h0 hj h => by
    rw [hnl] at h
    rcases j with _ | _ | j
    · omega
    · simp at h
    · simp only [List.getElem?_cons_succ] at h
      exact hda j (by omega) h
  generalize hc : s ++ nl ++ t = c at *
  have hlk : ∀ j, j < k → (c.take k)[j]? = c[j]? := fun j hj => by rw [List.getElem?_take, if_pos hj]
  have hlk2 : ∀ j, k ≤ j → (c.take k)[j]? = none := fun j hj => by rw [List.getElem?_take, if_neg (by omega)]
  have hll : (c.take k).length = k := by rw [List.length_take]; omega
  generalize hl : c.take k = l at *
  have hSafe : ∀ i, i < s.length → (∀ j, j < nl.length → c[i + j]? = nl[j]?) → ∃ x, c[i + nl.length]? = some x ∧ dl x = false := fun i hi h => by
    have := hS i hi
    rw [hc] at this
    exact this ((pre_get nl _).2 (fun j hj => by rw [List.getElem?_drop]; exact h j hj))
  have key : Good s.length k nl.length (scanR l nl) := by
    unfold scanR
    rcases ix_all nl l 0 with ⟨h1, h2⟩ | ⟨i, h1, h2, h3, h4⟩
    · rw [if_neg (by omega)]
      have hno : k < s.length + nl.length := by
        rcases Nat.lt_or_ge k (s.length + nl.length) with h | h
        · exact h
        · have := h2 s.length (by omega)
          rw [(pre_get nl _).2 (fun j hj => by rw [List.getElem?_drop, hlk _ (by omega)]; exact hcn j hj)] at this
          cases this
      split
      · rename_i hp
        have := (pre_get l nl).1 hp
        have hlen : k ≤ nl.length := by
          rcases Nat.lt_or_ge nl.length k with h | h
          · have := this nl.length (by omega)
            rw [List.getElem?_eq_none (by omega), hlk _ (by omega), List.getElem?_eq_getElem (by omega)] at this
            cases this
          · exact h
        exact .no (Nat.zero_le _) (Nat.zero_le _) (fun _ => hlen)
      · rename_i hp
        rcases lastIx_all 13 l with ⟨h5, h6⟩ | ⟨j, h5, h6, h7⟩
        · rw [if_neg (by omega)]
          have hks : k ≤ s.length := by
            rcases Nat.lt_or_ge s.length k with h | h
            · exact absurd (by rw [hlk _ h]; exact hcs) (h6 s.length)
            · exact h
          rw [hll]
          exact .no hks (Nat.le_refl _) (fun h => by omega)
        · have hjk : j < k := by
            rcases Nat.lt_or_ge j k with h | h
            · exact h
            · rw [hlk2 _ h] at h6; cases h6
          have hjs : s.length < k → j = s.length := fun hsk => by
            have h8 : s.length ≤ j := by
              rcases Nat.lt_or_ge j s.length with h | h
              · exact absurd (by rw [hlk _ hsk]; exact hcs) (h7 s.length h)
              · exact h
            rcases Nat.lt_or_ge s.length j with h | h
            · rw [hlk _ hjk] at h6
              have h9 := hcn (j - s.length) (by omega)
              rw [show s.length + (j - s.length) = j by omega, h6] at h9
              exact absurd h9.symm (hn13 _ (by omega) (by omega))
            · omega
          rw [h5, Int.toNat_natCast]
          split
          · rename_i hp2
            have : j ≤ s.length := by
              rcases Nat.lt_or_ge s.length k with h | h
              · exact Nat.le_of_eq (hjs h)
              · omega
            refine .no this (by omega) (fun h => ?_)
            subst h
            rw [List.drop_zero] at hp2
            exact absurd hp2.2 hp
          · rename_i hp2
            have hks : k ≤ s.length := by
              rcases Nat.lt_or_ge s.length k with h | h
              · exfalso
                apply hp2
                have hj := hjs h
                refine ⟨by omega, (pre_get _ nl).2 (fun i hi => ?_)⟩
                rw [List.length_drop, hll] at hi
                rw [List.getElem?_drop, hlk _ (by omega), hj]
                exact (hcn i (by omega)).symm
              · exact h
            rw [hll]
            exact .no hks (Nat.le_refl _) (fun h => by omega)
    · rw [Nat.zero_add] at h1
      rw [h1, if_pos (by omega), Int.toNat_natCast]
      have h3' := (pre_get nl _).1 h3
      simp only [List.getElem?_drop] at h3'
      have hik : i + nl.length ≤ k := by
        rcases Nat.lt_or_ge k (i + nl.length) with h | h
        · have := h3' (nl.length - 1) (by omega)
          rw [hlk2 _ (by omega), List.getElem?_eq_getElem (by omega)] at this
          cases this
        · exact h
      have hoc : ∀ j, j < nl.length → c[i + j]? = nl[j]? := fun j hj => by rw [← hlk _ (by omega)]; exact h3' j hj
      have his : i ≤ s.length := by
        rcases Nat.lt_or_ge s.length i with h | h
        · have := h4 s.length h
          rw [(pre_get nl _).2 (fun j hj => by rw [List.getElem?_drop, hlk _ (by omega)]; exact hcn j hj)] at this
          cases this
        · exact h
      have hm : mAft (l.drop i) nl.length = match l[i + nl.length]? with | none => 0 | some c => if dl c then 1 else -1 := by
        unfold mAft; rw [List.getElem?_drop]; try (cases l[i + nl.length]? <;> rfl)
      rcases Nat.lt_or_ge i s.length with hi | hi
      · have hfit : i + nl.length ≤ s.length := by
          rcases Nat.lt_or_ge s.length (i + nl.length) with h | h
          · have h9 := hoc (s.length - i) (by omega)
            rw [show i + (s.length - i) = s.length by omega, hcs] at h9
            exact absurd h9.symm (hn13 _ (by omega) (by omega))
          · exact h
        obtain ⟨x, hx, hdx⟩ := hSafe i hi hoc
        rcases Nat.lt_or_ge (i + nl.length) k with h | h
        · rw [hlk _ h, hx] at hm
          simp only [hdx] at hm
          simp only [Bool.false_eq_true, if_false] at hm
          rw [if_pos hm]
          exact .no hfit hik (fun h => by omega)
        · rw [hlk2 _ h] at hm
          rw [if_neg (by rw [hm]; decide), if_pos hm]
          exact .no his (by omega) (fun h => by omega)
      · have hi' : i = s.length := by omega
        rcases Nat.lt_or_ge (i + nl.length) k with h | h
        · rw [hlk _ h, hi', hct] at hm
          simp only [hx0] at hm
          rw [hi', if_neg (by rw [hm]; decide), if_neg (by rw [hm]; decide)]
          exact .yes (by omega)
        · rw [hlk2 _ h] at hm
          rw [if_neg (by rw [hm]; decide), if_pos hm]
          exact .no his (by omega) (fun h => by omega)
  unfold scan
  cases t0 with
  | false => exact key
  | true =>
    have h0' := h0 rfl
    unfold Safe0 at h0'
    rw [hc] at h0'
    rw [if_pos rfl]
    split
    · rename_i hp
      have hp' := (pre_get da l).1 hp
      have hdk : da.length ≤ k := by
        rcases Nat.lt_or_ge k da.length with h | h
        · have := hp' (da.length - 1) (by omega)
          rw [hlk2 _ (by omega), List.getElem?_eq_getElem (by omega)] at this
          cases this
        · exact h
      have hdc : ∀ j, j < da.length → c[j]? = da[j]? := fun j hj => by rw [← hlk _ (by omega)]; exact hp' j hj
      have hds : da.length ≤ s.length := by
        rcases Nat.lt_or_ge s.length da.length with h | h
        · have := hdc s.length h
          rw [hcs] at this
          exact absurd this.symm (hda _ h)
        · exact h
      obtain ⟨x, hx, hdx⟩ := h0' ((pre_get da c).2 hdc)
      have hm : mAft l da.length = match l[da.length]? with | none => 0 | some c => if dl c then 1 else -1 := rfl
      rcases Nat.lt_or_ge da.length k with h | h
      · rw [hlk _ h, hx] at hm
        simp only [hdx] at hm
        simp only [Bool.false_eq_true, if_false] at hm
        rw [if_pos hm]
        exact .no hds hdk (fun h => by omega)
      · rw [hlk2 _ h] at hm
        rw [if_neg (by rw [hm]; decide), if_pos hm]
        exact .no (Nat.zero_le _) (Nat.zero_le _) (fun _ => by omega)
    · split
      · rename_i hp
        have := (pre_get l da).1 hp
        have hlen : k ≤ da.length := by
          rcases Nat.lt_or_ge da.length k with h | h
          · have := this da.length (by omega)
            rw [List.getElem?_eq_none (by omega), hlk _ (by omega), List.getElem?_eq_getElem (by omega)] at this
            cases this
          · exact h
        exact .no (Nat.zero_le _) (Nat.zero_le _) (fun _ => by omega)
      · exact key
end Go.Proofs.YtjbbapodcngnaaaGreatDoor.G
namespace Go.Proofs.YtjbbapodcngnaaaGreatDoor.G
open Go.RowKit Hdr

theorem dl_letter {x : UInt8} (h : 97 ≤ x.toNat) : dl x = false := by
  cases hd : dl x with
  | false => rfl
  | true =>
    unfold dl at hd
    simp only [Bool.or_eq_true, beq_iff_eq] at hd
    rcases hd with (((rfl | rfl) | rfl) | rfl) | rfl <;> simp at h

theorem start_law {b : List UInt8} (hb : (13 : UInt8) ∉ b) {s R : List UInt8} (hs : Lns (NoB b) s) (hR : R.head? = some 13) (h : (45 :: 45 :: b).isPrefixOf (s ++ R) = true) :
    ∃ x, (s ++ R)[(45 :: 45 :: b).length]? = some x ∧ dl x = false := by
  obtain ⟨ls, rfl, hls⟩ := hs
  have hp := (pre_get (45 :: 45 :: b) _).1 h
  have hb2 : (13 : UInt8) ∉ 45 :: 45 :: b := by
    simp only [List.mem_cons, not_or]
    exact ⟨by decide, by decide, hb⟩
  cases ls with
  | nil =>
    have h0 := hp 0 (by simp)
    have e : (raws [] ++ R)[0]? = some 13 := by
      rw [show raws [] ++ R = R from rfl, ← List.head?_eq_getElem?, hR]
    rw [e] at h0
    simp at h0
  | cons l ls =>
    obtain ⟨h1, h2, h3, h4⟩ := hls l (List.mem_cons_self ..)
    have e : raws (l :: ls) ++ R = l ++ 13 :: 10 :: (raws ls ++ R) := by rw [raws_cons]; simp
    rw [e] at hp ⊢
    have hlen : (45 :: 45 :: b).length ≤ l.length := by
      rcases Nat.lt_or_ge l.length (45 :: 45 :: b).length with h | h
      · have h9 := hp l.length h
        rw [List.getElem?_append_right (Nat.le_refl _), Nat.sub_self] at h9
        exact absurd (List.mem_of_getElem? h9.symm) hb2
      · exact h
    rcases h4 with h4 | ⟨x, r, rfl, hx⟩
    · exfalso
      apply h4
      have g0 := hp 0 (by simp)
      have g1 := hp 1 (by simp)
      have : 2 ≤ l.length := by simp at hlen; omega
      rw [List.getElem?_append_left (by omega)] at g0 g1
      match l, this with
      | x :: y :: l, _ =>
        simp at g0 g1
        simp [g0, g1]
    · refine ⟨x, ?_, dl_letter hx⟩
      rw [show (45 :: 45 :: (b ++ x :: r)) ++ 13 :: 10 :: (raws ls ++ R) = (45 :: 45 :: b) ++ (x :: (r ++ 13 :: 10 :: (raws ls ++ R))) by simp]
      rw [List.getElem?_append_right (Nat.le_refl _), Nat.sub_self]
      rfl

theorem safe_law {b : List UInt8} (hb : (13 : UInt8) ∉ b) {R : List UInt8} (hR : R.head? = some 13) : ∀ (ls : List (List UInt8)), (∀ l ∈ ls, (13 : UInt8) ∉ l ∧ (10 : UInt8) ∉ l ∧ l.length ≤ 400 ∧ NoB b l) →
    ∀ i, i < (raws ls).length → (13 :: 10 :: 45 :: 45 :: b).isPrefixOf ((raws ls ++ R).drop i) = true → ∃ x, (raws ls ++ R)[i + (13 :: 10 :: 45 :: 45 :: b).length]? = some x ∧ dl x = false := by
  intro ls
  induction ls with
  | nil => intro _ i hi; simp [raws] at hi
  | cons l ls ih =>
    intro H i hi h
    obtain ⟨h1, h2, h3, h4⟩ := H l (List.mem_cons_self ..)
    have e : raws (l :: ls) ++ R = l ++ 13 :: 10 :: (raws ls ++ R) := by rw [raws_cons]; simp
    rw [e] at h ⊢
    have hl : (raws (l :: ls)).length = l.length + 2 + (raws ls).length := by rw [raws_cons]; simp; omega
    have h0 := (pre_get _ _).1 h 0 (by simp)
    rw [List.getElem?_drop, Nat.add_zero] at h0
    rcases Nat.lt_or_ge i l.length with g | g
    · rw [List.getElem?_append_left g] at h0
      exact absurd (List.mem_of_getElem? h0) h1
    · obtain ⟨j, rfl⟩ : ∃ j, i = l.length + j := ⟨i - l.length, by omega⟩
      rw [List.getElem?_append_right (by omega), Nat.add_sub_cancel_left] at h0
      rw [List.drop_append, List.drop_eq_nil_of_le (by omega), Nat.add_sub_cancel_left, List.nil_append] at h
      rw [List.getElem?_append_right (by omega), show l.length + j + (13 :: 10 :: 45 :: 45 :: b).length - l.length = j + (13 :: 10 :: 45 :: 45 :: b).length by omega]
      match j with
      | 0 =>
        rw [List.drop_zero, List.isPrefixOf_cons_cons, List.isPrefixOf_cons_cons] at h
        simp only [beq_self_eq_true, Bool.true_and] at h
        obtain ⟨x, hx, hd⟩ := start_law hb ⟨ls, rfl, fun y hy => H y (List.mem_cons_of_mem _ hy)⟩ hR h
        refine ⟨x, ?_, hd⟩
        rw [← hx]
        simp only [List.length_cons, Nat.zero_add, List.getElem?_cons_succ]
      | 1 => simp at h0
      | j + 2 =>
        rw [List.drop_succ_cons, List.drop_succ_cons] at h
        obtain ⟨x, hx, hd⟩ := ih (fun y hy => H y (List.mem_cons_of_mem _ hy)) j (by omega) h
        refine ⟨x, ?_, hd⟩
        rw [← hx, show j + 2 + (13 :: 10 :: 45 :: 45 :: b).length = j + (13 :: 10 :: 45 :: 45 :: b).length + 2 by omega]
        rfl

/-- Lines without the boundary. -/
theorem safe_lns {b s t : List UInt8} (hb : (13 : UInt8) ∉ b) (hs : Lns (NoB b) s) : Safe s (13 :: 10 :: 45 :: 45 :: b) t ∧ Safe0 s (45 :: 45 :: b) (13 :: 10 :: 45 :: 45 :: b) t := by
  constructor
  · intro i hi h
    obtain ⟨ls, rfl, hls⟩ := hs
    rw [List.append_assoc] at h ⊢
    exact safe_law hb rfl ls hls i hi h
  · intro h
    rw [List.append_assoc] at h ⊢
    exact start_law hb hs rfl h
theorem Safe.drop {s nl t : List UInt8} (h : Safe s nl t) (n : Nat) (hn : n ≤ s.length) : Safe (s.drop n) nl t := by
  intro i hi hp
  rw [List.length_drop] at hi
  have e : (s.drop n ++ nl ++ t) = (s ++ nl ++ t).drop n := by rw [List.append_assoc, List.append_assoc, List.drop_append_of_le_length hn]
  rw [e, List.drop_drop] at hp
  rw [e, List.getElem?_drop]
  obtain ⟨x, hx, hd⟩ := h (n + i) (by omega) hp
  exact ⟨x, by rw [← hx]; congr 1; omega, hd⟩
end Go.Proofs.YtjbbapodcngnaaaGreatDoor.G
namespace Go.Proofs.YtjbbapodcngnaaaGreatDoor.G
open Go.RowKit Hdr

/-- Bytes that begin with no blank. -/
def noBl (l : List UInt8) : Prop := l.head? ≠ some 32 ∧ l.head? ≠ some 9

set_option maxRecDepth 100000 in
theorem skip_any (a o n cap : Nat) (l : List UInt8) (hl : n = l.length) (w : World) (h : BytesAt w a o l) (hb : noBl l) :
    Calls Tryz.prog 161 #[.slice (some ⟨a, o, none⟩) n cap] w fun e w' => e = .returned (.slice (some ⟨a, o, none⟩) n cap) ∧ w' = w := by
  cases l with
  | nil =>
    obtain rfl : n = 0 := hl
    clear h hb
    go_enter Tryz.func161, Tryz.ntmps161
    go_wp2
    refine wp_loop_rounds 1 ?_
    rw [rounds_succ]
    go_wp2
    go_ret
    exact ⟨rfl, rfl⟩
  | cons x l =>
    have hc := h.cell (i := 0) (by simp)
    rw [List.getElem_cons_zero, Nat.add_zero] at hc
    unfold byt at hc
    have hx1 : ((x.toNat : Int) == 32) = false := by
      have : x.toNat ≠ 32 := fun e => hb.1 (by rw [List.head?_cons]; congr 1; exact UInt8.toNat.inj e)
      simp; omega
    have hx2 : ((x.toNat : Int) == 9) = false := by
      have : x.toNat ≠ 9 := fun e => hb.2 (by rw [List.head?_cons]; congr 1; exact UInt8.toNat.inj e)
      simp; omega
    have e0 : decide ((0 : Int) < (n : Int)) = true := decide_eq_true (by rw [hl, List.length_cons]; omega)
    have e1 : (0 : Int) < (n : Int) := by rw [hl, List.length_cons]; omega
    clear h hb hl
    go_enter Tryz.func161, Tryz.ntmps161
    go_wp2
    refine wp_loop_rounds 1 ?_
    rw [rounds_succ]
    go_wp2
    go_ret
    exact ⟨rfl, rfl⟩

/-- The cells of a multipart reader: its bufio.Reader, the part at hand, how many were read, the boundary's slices. -/
def mrc (b : Nat) (cp : Value) (n : Nat) (B0 L cap : Nat) : List Value :=
  [.pointer (some ⟨b, 0, none⟩), cp, .int .i64 n, .slice (some ⟨B0, 0, none⟩) 2 cap, .slice (some ⟨B0, 0, none⟩) (L + 4) cap, .slice (some ⟨B0, 2, none⟩) (L + 4) (cap - 2), .slice (some ⟨B0, 2, none⟩) (L + 2) (cap - 2)]
/-- A multipart reader at block M. -/
structure MrB (w : World) (M b B0 cap : Nat) (cp : Value) (n : Nat) (bn : List UInt8) : Prop where
  B : Blk w M (mrc b cp n B0 bn.length cap) 216
  D : BytesAt w B0 0 (13 :: 10 :: 45 :: 45 :: (bn ++ [45, 45]))
  c1 : bn.length + 6 ≤ cap
  c2 : bn.length ≤ 1000
  n1 : n ≤ 1000
section
variable {w : World} {M b B0 cap : Nat} {cp : Value} {n : Nat} {bn : List UInt8}
theorem MrB.keep {S : Nat → Prop} {w' : World} (h : MrB w M b B0 cap cp n bn) (k : Keeps S w w') (h1 : ¬ S M) (h2 : ¬ S B0) : MrB w' M b B0 cap cp n bn := ⟨h.B.keep k h1, h.D.keep k h2, h.c1, h.c2, h.n1⟩
theorem MrB.nl (h : MrB w M b B0 cap cp n bn) : BytesAt w B0 0 [13, 10] := by
  have := h.D.sub 0 2
  simpa using this
theorem MrB.nd (h : MrB w M b B0 cap cp n bn) : BytesAt w B0 0 (13 :: 10 :: 45 :: 45 :: bn) := by
  have := h.D.sub 0 (bn.length + 4)
  rw [List.drop_zero] at this
  have e : (13 :: 10 :: 45 :: 45 :: (bn ++ [45, 45])).take (bn.length + 4) = 13 :: 10 :: 45 :: 45 :: bn := by simp [List.take_succ_cons]
  rwa [e] at this
theorem MrB.dd (h : MrB w M b B0 cap cp n bn) : BytesAt w B0 2 (45 :: 45 :: (bn ++ [45, 45])) := by
  have := h.D.sub 2 (bn.length + 4)
  have e : ((13 :: 10 :: 45 :: 45 :: (bn ++ [45, 45])).drop 2).take (bn.length + 4) = 45 :: 45 :: (bn ++ [45, 45]) := by
    rw [List.drop_succ_cons, List.drop_succ_cons, List.drop_zero]
    exact List.take_of_length_le (by simp)
  rwa [e] at this
theorem MrB.da (h : MrB w M b B0 cap cp n bn) : BytesAt w B0 2 (45 :: 45 :: bn) := by
  have := h.D.sub 2 (bn.length + 2)
  have e : ((13 :: 10 :: 45 :: 45 :: (bn ++ [45, 45])).drop 2).take (bn.length + 2) = 45 :: 45 :: bn := by
    rw [List.drop_succ_cons, List.drop_succ_cons, List.drop_zero]
    simp [List.take_succ_cons]
  rwa [e] at this
theorem MrB.cells (h : MrB w M b B0 cap cp n bn) : w.cell? ⟨M, 0, none⟩ = some (.pointer (some ⟨b, 0, none⟩)) ∧ w.cell? ⟨M, 1, none⟩ = some cp ∧ w.cell? ⟨M, 2, none⟩ = some (.int .i64 n) ∧ w.cell? ⟨M, 3, none⟩ = some (.slice (some ⟨B0, 0, none⟩) 2 cap) ∧
    w.cell? ⟨M, 4, none⟩ = some (.slice (some ⟨B0, 0, none⟩) (bn.length + 4) cap) ∧ w.cell? ⟨M, 5, none⟩ = some (.slice (some ⟨B0, 2, none⟩) (bn.length + 4) (cap - 2)) ∧ w.cell? ⟨M, 6, none⟩ = some (.slice (some ⟨B0, 2, none⟩) (bn.length + 2) (cap - 2)) :=
  ⟨h.B.cell 0, h.B.cell 1, h.B.cell 2, h.B.cell 3, h.B.cell 4, h.B.cell 5, h.B.cell 6⟩
end

set_option maxRecDepth 100000 in
set_option maxHeartbeats 1000000 in
theorem delim_any (M b B0 cap : Nat) (cp : Value) (n : Nat) (bn : List UInt8) (w : World) (h : MrB w M b B0 cap cp n bn) (g o ln lc : Nat) (l : List UInt8) (hl : ln = l.length) (hg : BytesAt w g o l) (hlc : ln ≤ lc)
    (hr : (45 :: 45 :: bn).isPrefixOf l = true → noBl (l.drop (bn.length + 2)) ∧ (l.drop (bn.length + 2)).length ≠ 1) :
    Calls Tryz.prog 125 #[.pointer (some ⟨M, 0, none⟩), .slice (some ⟨g, o, none⟩) ln lc] w fun e w' => e = .returned (.bool ((45 :: 45 :: bn).isPrefixOf l && l.drop (bn.length + 2) == [13, 10])) ∧ w' = w := by
  obtain ⟨c0, c1, c2, c3, c4, c5, c6⟩ := h.cells
  have hda := Lib.hid h.da
  have hnl := Lib.hid h.nl
  have hG := Lib.hid hg
  have hL := Lib.hid hl
  have h2 : bn.length + 2 = (45 :: 45 :: bn).length := by simp
  have hpl := fun hh => prefix_len (a := 45 :: 45 :: bn) (b := l) hh
  rw [← h2] at hpl
  clear h c0 c1 c4 c5 hg hl
  generalize hD : bn.length + 2 = D at *
  clear hD
  generalize hbb : (45 :: 45 :: bn).isPrefixOf l = bb at *
  have H2 := Lib.hid h2
  have HR := Lib.hid hr
  have HBB := Lib.hid hbb
  have HPL := Lib.hid hpl
  clear hbb hpl hr h2
  cases bb with
  | false =>
    go_enter Tryz.func125, Tryz.ntmps125
    go_wp2_with (fail)
    refine (bytesHasPrefix_any g o ln lc B0 2 D (cap - 2) l (45 :: 45 :: bn) hL.out H2.out w hG.out hda.out hlc).mono ?_
    rintro e w' ⟨rfl, rfl⟩
    rw [HBB.out]
    go_wp2
    go_ret
    exact ⟨by simp, rfl⟩
  | true =>
    obtain ⟨hb1, hb2⟩ := HR.out rfl
    have hle := HPL.out rfl
    have b1 : (D : Int) ≤ (ln : Int) := by have := hL.out; omega
    have b0 : (0 : Int) ≤ (D : Int) := by omega
    have hrest := hG.out.cut_l D (cap := lc) (by have := hL.out; omega)
    have hlr : ln - D = (l.drop D).length := by have := hL.out; rw [List.length_drop]; omega
    generalize l.drop D = r at *
    have HB := Lib.hid hb1
    have HREST := Lib.hid hrest
    have HLR := Lib.hid hlr
    obtain ⟨rn, hrn⟩ : ∃ rn, rn = ln - D := ⟨_, rfl⟩
    have e1 : ((rn : Int) == 1) = false := by simp; omega
    have e1' : (rn == 1) = false := by simp; omega
    have HRN := Lib.hid hrn
    clear hb1 hrest hlr hb2 hrn
    cases hn0 : ((n : Int) == 0)
    all_goals
      go_enter Tryz.func125, Tryz.ntmps125
      go_wp2_with (fail)
      refine (bytesHasPrefix_any g o ln lc B0 2 D (cap - 2) l (45 :: 45 :: bn) hL.out H2.out w hG.out hda.out hlc).mono ?_
      rintro e w' ⟨rfl, rfl⟩
      rw [HBB.out]
      go_wp2_with (fail)
      rw [← HRN.out]
      refine (skip_any g (cutAt o D lc 1) rn (lc - D) r (by rw [HRN.out]; exact HLR.out) w' HREST.out HB.out).mono ?_
      rintro e w2 ⟨rfl, rfl⟩
      go_wp2_with (fail)
      refine (bytesEq_any g (cutAt o D lc 1) rn (lc - D) B0 0 2 cap r [13, 10] (by rw [HRN.out]; exact HLR.out) rfl w2 HREST.out hnl.out).mono ?_
      rintro e w3 ⟨rfl, rfl⟩
      go_wp2
      go_ret
      exact ⟨by simp, rfl⟩

set_option maxRecDepth 100000 in
set_option maxHeartbeats 1000000 in
theorem final_any (M b B0 cap : Nat) (cp : Value) (n : Nat) (bn : List UInt8) (w : World) (h : MrB w M b B0 cap cp n bn) (g o ln lc : Nat) (l : List UInt8) (hl : ln = l.length) (hg : BytesAt w g o l) (hlc : ln ≤ lc)
    (hr : (45 :: 45 :: (bn ++ [45, 45])).isPrefixOf l = true → noBl (l.drop (bn.length + 4))) :
    Calls Tryz.prog 124 #[.pointer (some ⟨M, 0, none⟩), .slice (some ⟨g, o, none⟩) ln lc] w fun e w' => e = .returned (.bool ((45 :: 45 :: (bn ++ [45, 45])).isPrefixOf l && (l.drop (bn.length + 4) == [] || l.drop (bn.length + 4) == [13, 10]))) ∧ w' = w := by
  obtain ⟨c0, c1, c2, c3, c4, c5, c6⟩ := h.cells
  have hda := Lib.hid h.dd
  have hnl := Lib.hid h.nl
  have hG := Lib.hid hg
  have hL := Lib.hid hl
  have h2 : bn.length + 4 = (45 :: 45 :: (bn ++ [45, 45])).length := by simp
  have hpl := fun hh => prefix_len (a := 45 :: 45 :: (bn ++ [45, 45])) (b := l) hh
  rw [← h2] at hpl
  clear h c0 c1 c2 c4 c6 hg hl
  generalize hD : bn.length + 4 = D at *
  clear hD
  generalize hbb : (45 :: 45 :: (bn ++ [45, 45])).isPrefixOf l = bb at *
  have H2 := Lib.hid h2
  have HR := Lib.hid hr
  have HBB := Lib.hid hbb
  have HPL := Lib.hid hpl
  clear hbb hpl hr h2
  cases bb with
  | false =>
    go_enter Tryz.func124, Tryz.ntmps124
    go_wp2_with (fail)
    refine (bytesHasPrefix_any g o ln lc B0 2 D (cap - 2) l (45 :: 45 :: (bn ++ [45, 45])) hL.out H2.out w hG.out hda.out hlc).mono ?_
    rintro e w' ⟨rfl, rfl⟩
    rw [HBB.out]
    go_wp2
    go_ret
    exact ⟨by simp, rfl⟩
  | true =>
    have hb1 := HR.out rfl
    have hle := HPL.out rfl
    have b1 : (D : Int) ≤ (ln : Int) := by have := hL.out; omega
    have b0 : (0 : Int) ≤ (D : Int) := by omega
    have hrest := hG.out.cut_l D (cap := lc) (by have := hL.out; omega)
    have hlr : ln - D = (l.drop D).length := by have := hL.out; rw [List.length_drop]; omega
    generalize l.drop D = r at *
    have HB := Lib.hid hb1
    have HREST := Lib.hid hrest
    have HLR := Lib.hid hlr
    obtain ⟨rn, hrn⟩ : ∃ rn, rn = ln - D := ⟨_, rfl⟩
    have hre : (rn == 0) = (r == []) := by rw [Bool.eq_iff_iff, beq_iff_eq, beq_iff_eq, hrn, hlr]; exact List.length_eq_zero_iff
    have hre2 : ((rn : Int) == 0) = (r == []) := by rw [← hre, Bool.eq_iff_iff, beq_iff_eq, beq_iff_eq]; omega
    have HRN := Lib.hid hrn
    have HRE := Lib.hid hre
    clear hb1 hrest hlr hrn hre
    generalize hre3 : (r == []) = re at *
    have HR3 := Lib.hid hre3
    clear hre3
    cases re with
    | true =>
      go_enter Tryz.func124, Tryz.ntmps124
      go_wp2_with (fail)
      refine (bytesHasPrefix_any g o ln lc B0 2 D (cap - 2) l (45 :: 45 :: (bn ++ [45, 45])) hL.out H2.out w hG.out hda.out hlc).mono ?_
      rintro e w' ⟨rfl, rfl⟩
      rw [HBB.out]
      go_wp2_with (fail)
      rw [← HRN.out]
      refine (skip_any g (cutAt o D lc 1) rn (lc - D) r (by rw [HRN.out]; exact HLR.out) w' HREST.out HB.out).mono ?_
      rintro e w2 ⟨rfl, rfl⟩
      go_wp2
      go_ret
      exact ⟨by simp, rfl⟩
    | false =>
      go_enter Tryz.func124, Tryz.ntmps124
      go_wp2_with (fail)
      refine (bytesHasPrefix_any g o ln lc B0 2 D (cap - 2) l (45 :: 45 :: (bn ++ [45, 45])) hL.out H2.out w hG.out hda.out hlc).mono ?_
      rintro e w' ⟨rfl, rfl⟩
      rw [HBB.out]
      go_wp2_with (fail)
      rw [← HRN.out]
      refine (skip_any g (cutAt o D lc 1) rn (lc - D) r (by rw [HRN.out]; exact HLR.out) w' HREST.out HB.out).mono ?_
      rintro e w2 ⟨rfl, rfl⟩
      go_wp2_with (fail)
      refine (bytesEq_any g (cutAt o D lc 1) rn (lc - D) B0 0 2 cap r [13, 10] (by rw [HRN.out]; exact HLR.out) rfl w2 HREST.out hnl.out).mono ?_
      rintro e w3 ⟨rfl, rfl⟩
      go_wp2
      go_ret
      exact ⟨by simp, rfl⟩
end Go.Proofs.YtjbbapodcngnaaaGreatDoor.G
namespace Go.Proofs.YtjbbapodcngnaaaGreatDoor.G
open Go.RowKit Hdr

theorem made512 : ∀ w : World, (Instr.makeSlice 85 (.int .i64 512) (.int .i64 512)).run Tryz.prog w = .ok (.slice (some ⟨w.heap.size, 0, none⟩) 512 512) (w.alloc (.cells (u8s (List.replicate 512 0)).toArray 5)) := by
  have hmk := run_make_row' (P := Tryz.prog) 85 5 (.int .u8 0) 1 Tryz.underlying85 info_u8 rfl .i64 .i64 512 (by decide) (by decide)
  rw [made_u8] at hmk
  exact hmk

/-- What is read stands in a block of our own. -/
theorem keeps_own {X : Src} {d : Nat} {w0 w w' : World} (hd : w0.heap.size ≤ d) (k : Keeps (fun x => X.own x) w0 w) (K : Keeps (fun x => X.own x ∨ x = d) w w') : Keeps (fun x => X.own x) w0 w' :=
  ⟨K.os.trans k.os, K.tape.trans k.tape, K.output.trans k.output, Nat.le_trans k.size K.size, fun i hi hS => (K.block i (Nat.lt_of_lt_of_le hi k.size) (fun h => by rcases h with h | h; exact hS h; omega)).trans (k.block i hi hS)⟩

set_option maxRecDepth 100000 in
set_option maxHeartbeats 1000000 in
theorem discard_any (X : Src) {N : Nat} (O : X.Ok N) (w : World) (s : List UInt8) (hS : X.S w s) (L : Laid N X.ea w) (hN : N ≤ w.heap.size) :
    Calls Tryz.prog 92 #[.iface X.t X.v] w fun e w' => e = .returned .nilIface ∧ X.S w' [] ∧ Keeps (fun x => X.own x) w w' := by
  have hm := O.meth
  have hen := O.enter
  have hmk := made512
  have hlt : ∀ x, X.own x → x < w.heap.size := fun x hx => X.lt hS hx
  have HS := Lib.hid hS
  have HO := Lib.hid O
  have HL := Lib.hid L
  generalize hl : u8s (List.replicate 512 0) = l0 at hmk
  have hl0 : l0.length = 512 := by rw [← hl, u8s_length, List.length_replicate]
  have HL0 := Lib.hid hl0
  clear hS O L hl hl0
  go_enter Tryz.func92, Tryz.ntmps92
  go_wp2
  have hnd : ¬ X.own w.heap.size := fun h => by have := hlt _ h; omega
  have K0 : Keeps No w (w.alloc (.cells l0.toArray 5)) := (Keeps.refl No w).alloc _
  have B0 := Blk.new w l0 5
  have S0 := X.keep_no HS.out K0
  have L0 := HL.out.keep_no K0
  generalize w.alloc (.cells l0.toArray 5) = w0 at *
  have HB0 := Lib.hid B0
  have HS0 := Lib.hid S0
  have HLL0 := Lib.hid L0
  clear B0 S0 L0 hmk
  go_loopg [] s.length (fun k wr => ∃ (s' : List UInt8) (cs : List Value), cs.length = 512 ∧ Blk wr w.heap.size cs 5 ∧ X.S wr s' ∧ k = s'.length ∧ Laid N X.ea wr ∧ Keeps (fun x => X.own x) w wr)
  case atStart => exact ⟨s, l0, HL0.out, HB0.out, HS0.out, rfl, HLL0.out, K0.of_no⟩
  case round =>
    obtain ⟨s', cs, hcs, hB, hS, hk, hL, K⟩ := hrel
    have HCS := Lib.hid hcs
    have HB := Lib.hid hB
    have HSS := Lib.hid hS
    have HKK := Lib.hid hk
    have HLL := Lib.hid hL
    clear hcs hB hS hk hL
    go_wp2_with (fail)
    refine (HO.out.read (g := w.heap.size) (o := 0) (len := 512) (cap := 512) HSS.out HLL.out HB.out hnd hN (by omega) (by omega) (by rw [HCS.out]; omega) (by rw [HCS.out]; omega)).mono ?_
    rintro e w2 ⟨n, errv, rfl, hn3, hn2, hcase, hS2, B4, K2⟩
    have L2 := HLL.out.keep K2 (fun x h => by rcases h with h | h; exact HO.out.old h; omega)
    have heof := L2.eof
    have KK := keeps_own (Nat.le_refl _) K K2
    have HL2 := Lib.hid L2
    have HS2 := Lib.hid hS2
    have HB4 := Lib.hid B4
    clear L2 hS2 B4
    rcases hcase with ⟨hn0, rfl⟩ | ⟨hn0, rfl⟩
    · have hq2 := fun (w : World) (v : Value) => run_eql_iface_nil_left (P := Tryz.prog) w 203 v Tryz.underlying93
      go_wp2
      go_roundg (s'.drop n).length
      case measure => have := HKK.out; rw [List.length_drop]; omega
      case rel =>
        refine ⟨s'.drop n, _, ?_, HB4.out, HS2.out, rfl, HL2.out, KK⟩
        rw [List.length_append, List.length_append, List.length_take, u8s_length, List.length_take, List.length_drop, HCS.out]
        omega
    · have hq := fun w => eql_err_same w X.ea
      have hdn : s'.drop n = [] := List.drop_eq_nil_of_le (by omega)
      have HDN := Lib.hid hdn
      clear hdn hn0
      go_wp2
      go_ret
      exact ⟨rfl, by rw [← HDN.out]; exact HS2.out, KK⟩

set_option maxRecDepth 100000 in
set_option maxHeartbeats 1000000 in
theorem discardT_any (X : Src) {N : Nat} (O : X.Ok N) (w : World) (s : List UInt8) (hS : X.S w s) (L : Laid N X.ea w) (hN : N ≤ w.heap.size) :
    Calls Tryz.prog 159 #[.iface X.t X.v] w fun e w' => e = .returned (.tuple #[]) ∧ X.S w' [] ∧ Keeps (fun x => X.own x) w w' := by
  have hm := O.meth
  have hen := O.enter
  have hmk := made512
  have hlt : ∀ x, X.own x → x < w.heap.size := fun x hx => X.lt hS hx
  have HS := Lib.hid hS
  have HO := Lib.hid O
  have HL := Lib.hid L
  generalize hl : u8s (List.replicate 512 0) = l0 at hmk
  have hl0 : l0.length = 512 := by rw [← hl, u8s_length, List.length_replicate]
  have HL0 := Lib.hid hl0
  clear hS O L hl hl0
  go_enter Tryz.func159, Tryz.ntmps159
  go_wp2
  have hnd : ¬ X.own w.heap.size := fun h => by have := hlt _ h; omega
  have K0 : Keeps No w (w.alloc (.cells l0.toArray 5)) := (Keeps.refl No w).alloc _
  have B0 := Blk.new w l0 5
  have S0 := X.keep_no HS.out K0
  have L0 := HL.out.keep_no K0
  generalize w.alloc (.cells l0.toArray 5) = w0 at *
  have HB0 := Lib.hid B0
  have HS0 := Lib.hid S0
  have HLL0 := Lib.hid L0
  clear B0 S0 L0 hmk
  go_loopg [] s.length (fun k wr => ∃ (s' : List UInt8) (cs : List Value), cs.length = 512 ∧ Blk wr w.heap.size cs 5 ∧ X.S wr s' ∧ k = s'.length ∧ Laid N X.ea wr ∧ Keeps (fun x => X.own x) w wr)
  case atStart => exact ⟨s, l0, HL0.out, HB0.out, HS0.out, rfl, HLL0.out, K0.of_no⟩
  case round =>
    obtain ⟨s', cs, hcs, hB, hS, hk, hL, K⟩ := hrel
    have HCS := Lib.hid hcs
    have HB := Lib.hid hB
    have HSS := Lib.hid hS
    have HKK := Lib.hid hk
    have HLL := Lib.hid hL
    clear hcs hB hS hk hL
    go_wp2_with (fail)
    refine (HO.out.read (g := w.heap.size) (o := 0) (len := 512) (cap := 512) HSS.out HLL.out HB.out hnd hN (by omega) (by omega) (by rw [HCS.out]; omega) (by rw [HCS.out]; omega)).mono ?_
    rintro e w2 ⟨n, errv, rfl, hn3, hn2, hcase, hS2, B4, K2⟩
    have L2 := HLL.out.keep K2 (fun x h => by rcases h with h | h; exact HO.out.old h; omega)
    have KK := keeps_own (Nat.le_refl _) K K2
    have HL2 := Lib.hid L2
    have HS2 := Lib.hid hS2
    have HB4 := Lib.hid B4
    clear L2 hS2 B4
    rcases hcase with ⟨hn0, rfl⟩ | ⟨hn0, rfl⟩
    · go_wp2
      go_roundg (s'.drop n).length
      case measure => have := HKK.out; rw [List.length_drop]; omega
      case rel =>
        refine ⟨s'.drop n, _, ?_, HB4.out, HS2.out, rfl, HL2.out, KK⟩
        rw [List.length_append, List.length_append, List.length_take, u8s_length, List.length_take, List.length_drop, HCS.out]
        omega
    · have hdn : s'.drop n = [] := List.drop_eq_nil_of_le (by omega)
      have HDN := Lib.hid hdn
      clear hdn hn0
      go_wp2
      refine bodyPost_ret (results_none rfl _ _ _) rfl ?_
      exact ⟨rfl, by rw [← HDN.out]; exact HS2.out, KK⟩
end Go.Proofs.YtjbbapodcngnaaaGreatDoor.G
