/- spec: isBlank9, hasByte9, trim9. -/
import Derived.Test.YtjbbapodcngnaaaDoorImE
namespace Go.Proofs.YtjbbapodcngnaaaDoor
open Go.RowKit Hdr

set_option maxRecDepth 100000 in
theorem isBlank9_any (c : UInt8) (w : World) :
    Calls Tryd.prog 21 #[.int .u8 c.toNat] w fun e w' => e = .returned (.bool (sp c)) ∧ w' = w := by
  have hsp : sp c = decide (c.toNat = 32 ∨ c.toNat = 9) := by
    unfold sp
    rw [Bool.eq_iff_iff]
    simp only [Bool.or_eq_true, beq_iff_eq, decide_eq_true_eq]
    constructor
    · rintro (rfl | rfl)
      · exact .inl rfl
      · exact .inr rfl
    · rintro (h | h)
      · exact .inl (UInt8.toNat.inj h)
      · exact .inr (UInt8.toNat.inj h)
  rw [hsp]
  clear hsp
  generalize hm : c.toNat = m
  clear hm
  go_enter Tryd.func21, Tryd.ntmps21
  go_wp2
  all_goals go_ret
  all_goals refine ⟨congrArg (fun b => Ending.returned (Value.bool b)) (?_ : (_ : Bool) = _), rfl⟩
  all_goals (rw [Bool.eq_iff_iff]; simp only [beq_iff_eq, Bool.or_eq_true, decide_eq_true_eq, eq_self, true_iff] at *; omega)

theorem str_get (l : List UInt8) (j : Nat) (h : j < l.length) : (⟨l.toArray⟩ : ByteArray)[j]'(by show j < l.toArray.size; simpa using h) = l[j] := rfl

set_option maxRecDepth 100000 in
set_option maxHeartbeats 1000000 in
theorem hasByte9_any (l : List UInt8) (c : UInt8) (w : World) (hlen : l.length ≤ 1000000000) :
    Calls Tryd.prog 11 #[str l, .int .u8 c.toNat] w fun e w' => e = .returned (.bool (l.contains c)) ∧ w' = w := by
  go_enter Tryd.func11, Tryd.ntmps11
  go_wp2
  go_loopg [8] l.length (fun n s8 wr => ∃ j : Nat, s8 = .int .i64 j ∧ j + n = l.length ∧ (l.take j).contains c = false ∧ w = wr)
  case atStart => exact ⟨0, rfl, by omega, rfl, rfl⟩
  case round =>
    obtain ⟨j, rfl, hjn, hjc, rfl⟩ := hrel
    have HJC := Lib.hid hjc
    have HJN := Lib.hid hjn
    have hjl : j ≤ l.length := by omega
    clear hjc hjn
    by_cases hj : j < l.length
    · have hx := str_get l j hj
      have htk : l.take (j + 1) = l.take j ++ [l[j]] := List.take_succ_eq_append_getElem hj
      have hmem : l[j] ∈ l := List.getElem_mem _
      generalize l[j] = x at *
      have HTK := Lib.hid htk
      have hjj : (j : Int) < (l.length : Int) := by omega
      clear htk
      by_cases hxc : x = c
      · subst hxc
        have hcon : l.contains x = true := by simpa using hmem
        have e1 : ((x.toNat : Int) == (x.toNat : Int)) = true := by simp
        have HC := Lib.hid hcon
        clear hcon
        go_wp2
        go_ret
        exact ⟨by rw [HC.out]; rfl, rfl⟩
      · have e1 : ((x.toNat : Int) == (c.toNat : Int)) = false := by
          simp only [beq_eq_false_iff_ne, ne_eq]
          intro h
          exact hxc (UInt8.toNat.inj (by show x.toNat = c.toNat; omega))
        have HXC := Lib.hid hxc
        clear hxc
        go_wp2
        go_roundg (gk - 1)
        case measure => have := HJN.out; omega
        case rel =>
          refine ⟨j + 1, by simp, by have := HJN.out; omega, ?_, rfl⟩
          rw [HTK.out, List.contains_append, HJC.out]
          simp [Ne.symm HXC.out]
    · have hjl2 : j = l.length := by omega
      have hcon : l.contains c = false := by have := HJC.out; rwa [hjl2, List.take_length] at this
      have e1 : decide (j < l.length) = false := decide_eq_false hj
      have HC := Lib.hid hcon
      clear hcon hjl2
      go_wp2
      go_ret
      exact ⟨by rw [HC.out]; rfl, rfl⟩
end Go.Proofs.YtjbbapodcngnaaaDoor
