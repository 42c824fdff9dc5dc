/- Key, Value, Raw of the field at hand; Fields. -/
import Derived.Test.YtjbbapodcngnaaaDoorImB
namespace Go.Proofs.YtjbbapodcngnaaaDoor
open Go.RowKit Hdr

/-- The field at hand is f. -/
structure At (w : World) (ib hb lb n cap : Nat) (m : Option Nat) (j fb : Nat) (rv : Value) (k v : List UInt8) : Prop where
  I : It w ib hb lb n cap m j
  c : w.cell? ⟨lb, n - 1 - j, none⟩ = some (.pointer (some ⟨fb, 0, none⟩))
  F : Blk w fb [rv, str k, str v] 70
theorem At.drewN {w : World} {ib hb lb n cap : Nat} {m : Option Nat} {j fb : Nat} {rv : Value} {k v : List UInt8} (h : At w ib hb lb n cap m j fb rv k v) (q : Nat) : At (w.drewN q) ib hb lb n cap m j fb rv k v := ⟨h.I.drewN q, h.c, h.F.drewN q⟩

section
variable (ib hb lb n cap : Nat) (m : Option Nat) (j fb : Nat) (rv : Value) (k v : List UInt8) (w : World) (h : At w ib hb lb n cap m j fb rv k v) (hj : j < n) (hn : n ≤ 1000000)
include h hj hn

set_option maxRecDepth 100000 in
theorem key_any : Calls Tryd.prog 105 #[.pointer (some ⟨ib, 0, none⟩)] w fun e w' => e = .returned (str k) ∧ ∃ q, w' = w.drewN q := by
  have c1 : w.cell? ⟨fb, 1, none⟩ = some (str k) := h.F.cell 1
  have H := Lib.hid h
  clear h
  go_enter Tryd.func105, Tryd.ntmps105
  go_wp2_with (fail)
  refine (field_any ib hb lb n cap m j fb w H.out.I hj hn H.out.c).mono ?_
  rintro e w1 ⟨rfl, q, rfl⟩
  go_wp2
  go_ret
  exact ⟨rfl, q, rfl⟩

set_option maxRecDepth 100000 in
theorem value_any : Calls Tryd.prog 109 #[.pointer (some ⟨ib, 0, none⟩)] w fun e w' => e = .returned (str v) ∧ ∃ q, w' = w.drewN q := by
  have c1 : w.cell? ⟨fb, 2, none⟩ = some (str v) := h.F.cell 2
  have H := Lib.hid h
  clear h
  go_enter Tryd.func109, Tryd.ntmps109
  go_wp2_with (fail)
  refine (field_any ib hb lb n cap m j fb w H.out.I hj hn H.out.c).mono ?_
  rintro e w1 ⟨rfl, q, rfl⟩
  go_wp2
  go_ret
  exact ⟨rfl, q, rfl⟩
end

set_option maxRecDepth 100000 in
theorem fieldRaw_some (fb : Nat) (a : Addr) (l c : Nat) (k v : List UInt8) (w : World) (h : Blk w fb [.slice (some a) l c, str k, str v] 70) :
    Calls Tryd.prog 27 #[.pointer (some ⟨fb, 0, none⟩)] w fun e w' => e = .returned (.tuple #[.slice (some a) l c, .nilIface]) ∧ w' = w := by
  have c1 : w.cell? ⟨fb, 0, none⟩ = some (.slice (some a) l c) := h.cell 0
  clear h
  go_enter Tryd.func27, Tryd.ntmps27
  go_wp2
  go_ret2
  exact ⟨rfl, rfl⟩

set_option maxRecDepth 100000 in
theorem raw_some (ib hb lb n cap : Nat) (m : Option Nat) (j fb : Nat) (a : Addr) (l c : Nat) (k v : List UInt8) (w : World) (h : At w ib hb lb n cap m j fb (.slice (some a) l c) k v) (hj : j < n) (hn : n ≤ 1000000) :
    Calls Tryd.prog 108 #[.pointer (some ⟨ib, 0, none⟩)] w fun e w' => e = .returned (.tuple #[.slice (some a) l c, .nilIface]) ∧ ∃ q, w' = w.drewN q := by
  have H := Lib.hid h
  clear h
  go_enter Tryd.func108, Tryd.ntmps108
  go_wp2_with (fail)
  refine (field_any ib hb lb n cap m j fb w H.out.I hj hn H.out.c).mono ?_
  rintro e w1 ⟨rfl, q, rfl⟩
  go_wp2_with (fail)
  refine (fieldRaw_some fb a l c k v _ (H.out.F.drewN q)).mono ?_
  rintro e w2 ⟨rfl, rfl⟩
  go_wp2
  go_ret2
  exact ⟨rfl, q, rfl⟩

set_option maxRecDepth 100000 in
theorem fields_any (hb : Nat) (w : World) :
    Calls Tryd.prog 28 #[.pointer (some ⟨hb, 0, none⟩)] w fun e w' => e = .returned (.iface 89 (.pointer (some ⟨w.heap.size, 0, none⟩))) ∧ w' = w.alloc (.cells #[.pointer (some ⟨hb, 0, none⟩), .int .i64 (-1)] 91) := by
  go_enter Tryd.func28, Tryd.ntmps28
  go_wp2
  go_ret
  exact ⟨rfl, rfl⟩

theorem method_next (b : Nat) (w : World) : (method 257 89 (.pointer (some ⟨b, 0, none⟩)) "Next").run Tryd.prog w = .ok (107, .pointer (some ⟨b, 0, none⟩)) w := by kernel_rfl
theorem method_raw (b : Nat) (w : World) : (method 257 89 (.pointer (some ⟨b, 0, none⟩)) "Raw").run Tryd.prog w = .ok (108, .pointer (some ⟨b, 0, none⟩)) w := by kernel_rfl
theorem method_key (b : Nat) (w : World) : (method 257 89 (.pointer (some ⟨b, 0, none⟩)) "Key").run Tryd.prog w = .ok (105, .pointer (some ⟨b, 0, none⟩)) w := by kernel_rfl
theorem method_value (b : Nat) (w : World) : (method 257 89 (.pointer (some ⟨b, 0, none⟩)) "Value").run Tryd.prog w = .ok (109, .pointer (some ⟨b, 0, none⟩)) w := by kernel_rfl
end Go.Proofs.YtjbbapodcngnaaaDoor
