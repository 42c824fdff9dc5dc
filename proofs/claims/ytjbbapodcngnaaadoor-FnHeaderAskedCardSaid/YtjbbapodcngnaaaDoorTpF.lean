/- tokenByte, validHeaderKeyByte, CanonicalKey. -/
import Derived.Test.YtjbbapodcngnaaaDoorTpE
import Derived.Test.YtjbbapodcngnaaaDoorHdrB
namespace Go.Proofs.YtjbbapodcngnaaaDoor
open Go.RowKit Hdr

set_option maxRecDepth 100000 in
set_option maxHeartbeats 2000000 in
theorem tokenByte_any (c : UInt8) (w : World) :
    Calls Tryd.prog 37 #[.int .u8 c.toNat] w fun e w' => e = .returned (.bool (tok c)) ∧ w' = w := by
  unfold tok
  generalize hm : c.toNat = m
  clear hm
  go_enter Tryd.func37, Tryd.ntmps37
  go_wp2
  all_goals go_ret
  all_goals refine ⟨congrArg (fun b => Ending.returned (Value.bool b)) (?_ : (_ : Bool) = _), rfl⟩
  all_goals (rw [Bool.eq_iff_iff]; simp only [beq_iff_eq, beq_eq_false_iff_ne, ne_eq, Bool.or_eq_true, decide_eq_true_eq, eq_self, true_iff, Bool.false_eq_true, false_iff] at *; simp only [tokN, signN]; omega)

set_option maxRecDepth 100000 in
set_option maxHeartbeats 1000000 in
theorem validKey_any (c : UInt8) (w : World) :
    Calls Tryd.prog 50 #[.int .u8 c.toNat] w fun e w' => e = .returned (.bool (keyb c)) ∧ w' = w := by
  have hc : c.toNat < 256 := c.toNat_lt
  unfold keyb
  generalize hm : c.toNat = m at *
  clear hm
  go_enter Tryd.func50, Tryd.ntmps50
  go_wp2
  all_goals go_ret
  all_goals refine ⟨congrArg (fun b => Ending.returned (Value.bool b)) (?_ : (_ : Bool) = _), rfl⟩
  all_goals (rw [Bool.eq_iff_iff]; simp only [bne_iff_ne, ne_eq, decide_eq_true_eq, Bool.false_eq_true, false_iff] at *; simp only [keyN]; omega)
end Go.Proofs.YtjbbapodcngnaaaDoor
