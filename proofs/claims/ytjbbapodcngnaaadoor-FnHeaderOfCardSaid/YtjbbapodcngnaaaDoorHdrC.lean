/- Bytes of tokens; keys in canonical form. No program in sight. -/
import Derived.Test.YtjbbapodcngnaaaDoorHdrB
namespace Go.Proofs.YtjbbapodcngnaaaDoor.Hdr

/-- Signs that a token may have beside letters and digits. -/
def signN (n : Nat) : Prop := n = 33 ∨ n = 35 ∨ n = 36 ∨ n = 37 ∨ n = 38 ∨ n = 39 ∨ n = 42 ∨ n = 43 ∨ n = 45 ∨ n = 46 ∨ n = 94 ∨ n = 95 ∨ n = 96 ∨ n = 124 ∨ n = 126
instance (n : Nat) : Decidable (signN n) := by unfold signN; infer_instance
def tokN (n : Nat) : Prop := signN n ∨ (48 ≤ n ∧ n ≤ 57) ∨ (97 ≤ n ∧ n ≤ 122) ∨ (65 ≤ n ∧ n ≤ 90)
instance (n : Nat) : Decidable (tokN n) := by unfold tokN; infer_instance
def tok (c : UInt8) : Bool := decide (tokN c.toNat)
def keyN (n : Nat) : Prop := 33 ≤ n ∧ n ≤ 126 ∧ n ≠ 58
instance (n : Nat) : Decidable (keyN n) := by unfold keyN; infer_instance
/-- A byte that may stand in a key. -/
def keyb (c : UInt8) : Bool := decide (keyN c.toNat)

/-- A byte, in the case that it stands in. -/
def cased (up : Bool) (c : UInt8) : UInt8 :=
  if up = true ∧ 97 ≤ c.toNat ∧ c.toNat ≤ 122 then c - 97 + 65
  else if up = false ∧ 65 ≤ c.toNat ∧ c.toNat ≤ 90 then c - 65 + 97
  else c
def canonGo : Bool → List UInt8 → List UInt8
  | _, [] => []
  | up, c :: l => cased up c :: canonGo (c == 45) l
def canon (l : List UInt8) : List UInt8 := if l.all tok then canonGo true l else l
theorem canonGo_len (up : Bool) (l : List UInt8) : (canonGo up l).length = l.length := by
  induction l generalizing up with
  | nil => rfl
  | cons c l ih => simp [canonGo, ih]
theorem canon_len (l : List UInt8) : (canon l).length = l.length := by
  unfold canon; split
  · exact canonGo_len _ _
  · rfl
end Go.Proofs.YtjbbapodcngnaaaDoor.Hdr
