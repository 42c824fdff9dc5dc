import Derived.Test.YtjbbapodcngnaaaDoorBufF
import Derived.Test.YtjbbapodcngnaaaDoorHdr
import Derived.LaidEql
namespace Go.Proofs.YtjbbapodcngnaaaDoor
open Go.RowKit Hdr

/-- What ReadLine leaves. -/
def LinePost (b g s : Nat) (src : ByteArray) (l : List UInt8) (c : List UInt8) (w : World) (e : Ending) (w' : World) : Prop :=
  ∃ o cap : Nat, e = .returned (.tuple #[.slice (some ⟨g, o, none⟩) l.length cap, .bool false, .nilIface]) ∧ l.length ≤ cap ∧ BytesAt w' g o l ∧ Rd w' b g s src c ∧ Keeps (In [b, g, s]) w w'

set_option maxRecDepth 100000 in
set_option maxHeartbeats 1000000 in
theorem readLine_found (b g s : Nat) (src : ByteArray) (ea : Addr) (w : World) (line c : List UInt8) (h : Rd w b g s src (line ++ 10 :: c)) (hl : line.length + 1 ≤ 4096) (hn : (10 : UInt8) ∉ line) {N : Nat} (E : Env N b g s src ea w) :
    Calls Tryd.prog 57 #[.pointer (some ⟨b, 0, none⟩)] w (LinePost b g s src (chomp line) c w) := by
  have H := readSlice_found b g s src ea w line c h hl hn E
  have HE := Lib.hid E
  clear h E
  go_enter Tryd.func57, Tryd.ntmps57
  go_wp2_with (fail)
  refine H.mono ?_
  rintro e w1 ⟨o, cap, rfl, hcap, hb, R, K⟩
  have e10 : byt 10 = .int .u8 10 := rfl
  obtain ⟨fa, hfull, -⟩ := (HE.out.keep3 K).laid.full
  have hq := fun (w : World) (v : Value) => run_eql_iface_nil_left (P := Tryd.prog) w 109 v Tryd.underlying49
  have HB := Lib.hid hb
  have HR := Lib.hid R
  clear R
  rcases nil_or_snoc line with rfl | ⟨l0, x, rfl⟩
  · have hlast := hb.cell (i := 0) (by simp)
    simp only [List.nil_append, List.getElem_cons_zero, Nat.add_zero, e10] at hlast
    clear hb
    go_wp2
    go_ret3
    exact ⟨o, cap, rfl, Nat.zero_le _, HB.out.nil o, HR.out, K⟩
  · have hlast := hb.cell (i := l0.length + 1) (by simp)
    have hlast2 := hb.cell (i := l0.length) (by simp)
    have x1 : (l0 ++ [x] ++ [10])[l0.length + 1]'(by simp) = (10 : UInt8) := by simp
    have x2 : (l0 ++ [x] ++ [10])[l0.length]'(by simp) = x := by simp
    have hlen : (l0 ++ [x] ++ [10]).length = l0.length + 2 := by simp
    rw [x1, e10] at hlast
    rw [x2] at hlast2
    rw [hlen] at hcap ⊢
    unfold byt at hlast2
    have HL := Lib.hid hlen
    have c1 : (l0.length : Int) + 2 ≤ cap := by omega
    have hln : l0.length + 2 ≤ 4096 := by simp at hl; omega
    have c2 : (l0.length : Int) + 1 ≤ cap := by omega
    have c3 : (l0.length : Int) ≤ cap := by omega
    clear hb hlen x1 x2 e10 hl hn
    by_cases hx : x = 13
    · subst hx
      have e13 : ((UInt8.toNat 13 : Nat) : Int) = 13 := rfl
      rw [e13] at hlast2
      clear e13
      go_wp2
      go_ret3
      have h2 : chomp (l0 ++ [13]) = l0 := by simp [chomp]
      rw [h2]
      refine ⟨o, cap, rfl, by omega, ?_, HR.out, K⟩
      have h3 := HB.out.sub 0 l0.length
      rw [List.drop_zero, List.append_assoc, List.take_left' rfl] at h3
      exact h3
    · have hx' : x.toNat ≠ 13 := fun e => hx (UInt8.toNat.inj e)
      have e1 : ((x.toNat : Int) == 13) = false := by simp; omega
      go_wp2
      go_ret3
      have h2 : chomp (l0 ++ [x]) = l0 ++ [x] := by simp [chomp, hx]
      rw [h2]
      refine ⟨o, cap, by simp, by simp; omega, ?_, HR.out, K⟩
      have h3 := HB.out.sub 0 (l0 ++ [x]).length
      rw [List.drop_zero, List.take_left' rfl] at h3
      exact h3

/-- ReadLine at the end. -/
def LineEnd (b g s : Nat) (src : ByteArray) (ea : Addr) (w : World) (e : Ending) (w' : World) : Prop :=
  e = .returned (.tuple #[.slice none 0 0, .bool false, (.iface 109 (.pointer (some ea)))]) ∧ Rd w' b g s src [] ∧ Keeps (In [b, g, s]) w w'

theorem info_es : (Tryd.prog.info? 109).map (·.comparable) = some true := by kernel_rfl
theorem info_es2 : (Tryd.prog.info? 111).map (·.size) = some 1 := by kernel_rfl

theorem eql_err {w : World} {ea fa : Addr} (h : ea ≠ fa) {ca cb : Array Value} {ta tb : TypeId} (ha : w.heap[ea.block]? = some (.cells ca ta (0, 0))) (hb : w.heap[fa.block]? = some (.cells cb tb (0, 0))) :
    (binOp .eql 49 (.iface 109 (.pointer (some ea))) (.iface 109 (.pointer (some fa)))).run Tryd.prog w = .ok (.bool false) w := by
  have h1 := info_es
  have h2 := info_es2
  cases hi : Tryd.prog.info? 109 with
  | none => rw [hi] at h1; simp at h1
  | some i =>
    cases hj : Tryd.prog.info? 111 with
    | none => rw [hj] at h2; simp at h2
    | some j =>
      rw [hi] at h1; rw [hj] at h2
      simp at h1 h2
      exact run_eql_iface_ptr_other w Tryd.underlying49 Tryd.underlying109 hi h1 hj (by rw [h2]; decide) h ha hb

theorem eql_err_same (w : World) (ea : Addr) : (binOp .eql 49 (.iface 109 (.pointer (some ea))) (.iface 109 (.pointer (some ea)))).run Tryd.prog w = .ok (.bool true) w := by
  have h1 := info_es
  have h2 := info_es2
  cases hi : Tryd.prog.info? 109 with
  | none => rw [hi] at h1; simp at h1
  | some i =>
    cases hj : Tryd.prog.info? 111 with
    | none => rw [hj] at h2; simp at h2
    | some j =>
      rw [hi] at h1
      simp at h1
      exact run_eql_iface_ptr_same w ea Tryd.underlying49 Tryd.underlying109 hi h1 hj

set_option maxRecDepth 100000 in
set_option maxHeartbeats 1000000 in
theorem readLine_end (b g s : Nat) (src : ByteArray) (ea : Addr) (w : World) (h : Rd w b g s src []) {N : Nat} (E : Env N b g s src ea w) :
    Calls Tryd.prog 57 #[.pointer (some ⟨b, 0, none⟩)] w (LineEnd b g s src ea w) := by
  have H := readSlice_eof b g s src ea w [] h (by simp) (by simp) E
  have HE := Lib.hid E
  clear h E
  go_enter Tryd.func57, Tryd.ntmps57
  go_wp2_with (fail)
  refine H.mono ?_
  rintro e w1 ⟨o, cap, rfl, hcap, hb, R, K⟩
  have L1 := (HE.out.keep3 K).laid
  obtain ⟨ca, ta, hc1⟩ := L1.ec
  obtain ⟨fa, hfull, -, ⟨cb, tb, hc2⟩, hne⟩ := L1.full
  have hq := eql_err hne hc1 hc2
  have HR := Lib.hid R
  clear R hb L1 hc1 hc2 hne hcap H
  go_wp2
  go_ret3
  exact ⟨rfl, HR.out, K⟩

set_option maxRecDepth 100000 in
set_option maxHeartbeats 1000000 in
theorem readLine_last (b g s : Nat) (src : ByteArray) (ea : Addr) (w : World) (c : List UInt8) (h : Rd w b g s src c) (hl : c.length < 4096) (hn : (10 : UInt8) ∉ c) (hc : c ≠ []) {N : Nat} (E : Env N b g s src ea w) :
    Calls Tryd.prog 57 #[.pointer (some ⟨b, 0, none⟩)] w (LinePost b g s src c [] w) := by
  have H := readSlice_eof b g s src ea w c h hl hn E
  have HE := Lib.hid E
  clear h E
  go_enter Tryd.func57, Tryd.ntmps57
  go_wp2_with (fail)
  refine H.mono ?_
  rintro e w1 ⟨o, cap, rfl, hcap, hb, R, K⟩
  have L1 := (HE.out.keep3 K).laid
  obtain ⟨ca, ta, hc1⟩ := L1.ec
  obtain ⟨fa, hfull, -, ⟨cb, tb, hc2⟩, hne⟩ := L1.full
  have hq := eql_err hne hc1 hc2
  have HR := Lib.hid R
  have HB := Lib.hid hb
  clear R L1 hc1 hc2 hne H
  rcases nil_or_snoc c with rfl | ⟨c0, x, rfl⟩
  · exact absurd rfl hc
  · have hlast := hb.cell (i := c0.length) (by simp)
    have x1 : (c0 ++ [x])[c0.length]'(by simp) = x := by simp
    have hlen : (c0 ++ [x]).length = c0.length + 1 := by simp
    rw [x1] at hlast
    have hx : x.toNat ≠ 10 := fun e => hn (by rw [show x = 10 from UInt8.toNat.inj e]; simp)
    have e1 : ((x.toNat : Int) == 10) = false := by simp; omega
    rw [hlen] at hcap ⊢
    unfold byt at hlast
    have HL := Lib.hid hlen
    have c1 : (c0.length : Int) + 1 ≤ cap := by omega
    have hln : c0.length + 1 ≤ 4096 := by simp at hl; omega
    clear hb hlen x1 hl hn hc
    go_wp2
    go_ret3
    exact ⟨o, cap, by rw [HL.out]; rfl, by rw [HL.out]; exact hcap, HB.out, HR.out, K⟩

/-- ReadLine, where something is left: the first line. -/
theorem readLine_some (b g s : Nat) (src : ByteArray) (ea : Addr) (w : World) (c : List UInt8) (h : Rd w b g s src c) (hc : c ≠ []) (hs : Short c) {N : Nat} (E : Env N b g s src ea w) :
    Calls Tryd.prog 57 #[.pointer (some ⟨b, 0, none⟩)] w (LinePost b g s src (line1 c).1 (line1 c).2 w) := by
  have h1 := hs.self
  have h2 := upto_no c
  cases hb : behind c with
  | nil =>
    have h3 := split c
    rw [hb, List.append_nil] at h3
    rw [line1_end hb]
    rw [← h3] at h1 h2
    exact readLine_last b g s src ea w c h (by omega) h2 hc E
  | cons x r =>
    rw [line1_nl hb]
    have h3 := split c
    have hx := behind_head hb
    subst hx
    rw [hb] at h3
    rw [h3] at h
    exact readLine_found b g s src ea w (upto c) r h (by omega) h2 E
end Go.Proofs.YtjbbapodcngnaaaDoor
