import Derived.Test.YtjbbapodcngnaaaDoorTpA
namespace Go.Proofs.YtjbbapodcngnaaaDoor
open Go.RowKit Hdr

/-- These blocks, and all from base on. -/
def Up (base : Nat) (l : List Nat) : Nat → Prop := fun k => k ∈ l ∨ base ≤ k

theorem Keeps.up {base : Nat} {l : List Nat} {a b : World} (h : Keeps (In l) a b) : Keeps (Up base l) a b := h.mono (fun _ _ h => .inl h)
theorem Keeps.up_one {base : Nat} {l : List Nat} {a b : World} {g : Nat} (h : Keeps (In [g]) a b) (hg : base ≤ g) : Keeps (Up base l) a b :=
  h.mono (fun _ _ h => .inr (by simp only [In, List.mem_cons, List.not_mem_nil, or_false] at h; omega))
/-- What was made since counts for nothing. -/
theorem Keeps.down {base : Nat} {l : List Nat} {a b : World} (h : Keeps (Up base l) a b) (hb : a.heap.size ≤ base) : Keeps (In l) a b := h.mono (fun i hi h => by
  rcases h with h | h
  · exact h
  · omega)

/-- What readLineSlice leaves: l in a slice of ours. -/
def RlsPost (base b g s : Nat) (src : ByteArray) (l c : List UInt8) (err : Value) (w : World) (e : Ending) (w' : World) : Prop :=
  ∃ h cap : Nat, e = .returned (.tuple #[.slice (some ⟨h, 0, none⟩) l.length cap, err]) ∧ OwnS w' base h cap l ∧ Rd w' b g s src c ∧ Keeps (Up base [b, g, s]) w w'

set_option maxRecDepth 100000 in
set_option maxHeartbeats 1000000 in
theorem readLineSlice_some (base b g s : Nat) (src : ByteArray) (ea : Addr) (w : World) (c : List UInt8) (h : Rd w b g s src c) (hc : c ≠ []) (hs : Short c) {N : Nat} (E : Env N b g s src ea w)
    (k cap n : Nat) (l : List UInt8) (hn : n = l.length) (ho : OwnS w base k cap l) (hb : b < base) (hg : g < base) (hs' : s < base) (hbase : base ≤ w.heap.size) (hl : l.length ≤ 35184372088832) :
    Calls Tryd.prog 45 #[.pointer (some ⟨b, 0, none⟩), .slice (some ⟨k, 0, none⟩) n cap] w (RlsPost base b g s src (l ++ (line1 c).1) (line1 c).2 .nilIface w) := by
  have H := readLine_some b g s src ea w c h hc hs E
  have hkk := ho.ge
  have HO := Lib.hid ho
  have HN := Lib.hid hn
  have hll : (line1 c).1.length < 4096 := by
    have h1 := hs.self
    unfold line1
    cases hb : behind c with
    | nil => simp only []; omega
    | cons x r =>
      simp only [chomp]
      split
      · simp; omega
      · omega
  clear h hs hc ho E hn
  go_enter Tryd.func45, Tryd.ntmps45
  go_wp2
  refine wp_loop_rounds 1 ?_
  rw [rounds_succ]
  go_wp2_with (fail)
  refine H.mono ?_
  rintro e w1 ⟨o, cap1, rfl, hcap, hby, R, K⟩
  have O1 := HO.out.keep K (fun h => by simp only [In, List.mem_cons, List.not_mem_nil, or_false] at h; omega)
  have HB := Lib.hid hby
  have hn2 : n ≤ 35184372088832 := by have := HN.out; omega
  clear hby H
  generalize hL : (line1 c).1 = L at *
  generalize hM : (line1 c).2 = M at *
  clear hL hM
  go_wp2_with (at_builtin; refine wpList_append_b rfl (.tmp 15) (.tmp 16) rfl base k cap n l rfl HN.out O1 ⟨g, o, none⟩ L.length cap1 L rfl rfl HB.out.cells (by omega) (by have := K.size; omega) ?_; intro k2 cap2 W O2 K2)
  have K3 : Keeps (Up base [b, g, s]) w W := K.up.trans' (K2.up_one hkk)
  have R2 := R.keep K2 (fun h => by simp only [In, List.mem_cons, List.not_mem_nil, or_false] at h; omega) (fun h => by simp only [In, List.mem_cons, List.not_mem_nil, or_false] at h; omega) (fun h => by simp only [In, List.mem_cons, List.not_mem_nil, or_false] at h; omega)
  have hlen : n + L.length = (l ++ L).length := by have := HN.out; simp; omega
  have HL := Lib.hid hlen
  clear hlen R
  go_wp2
  go_ret2
  exact ⟨k2, cap2, by rw [← HL.out]; rfl, O2, R2, K3⟩

set_option maxRecDepth 100000 in
set_option maxHeartbeats 1000000 in
theorem readLineSlice_end (base b g s : Nat) (src : ByteArray) (ea : Addr) (w : World) (h : Rd w b g s src []) {N : Nat} (E : Env N b g s src ea w)
    (k cap n : Nat) (l : List UInt8) (hn : n = l.length) (ho : OwnS w base k cap l) (hb : b < base) (hg : g < base) (hs' : s < base) :
    Calls Tryd.prog 45 #[.pointer (some ⟨b, 0, none⟩), .slice (some ⟨k, 0, none⟩) n cap] w (RlsPost base b g s src l [] (.iface 109 (.pointer (some ea))) w) := by
  have H := readLine_end b g s src ea w h E
  have hkk := ho.ge
  have HO := Lib.hid ho
  have HN := Lib.hid hn
  clear h ho E hn
  go_enter Tryd.func45, Tryd.ntmps45
  go_wp2
  refine wp_loop_rounds 1 ?_
  rw [rounds_succ]
  go_wp2_with (fail)
  refine H.mono ?_
  rintro e w1 ⟨rfl, R, K⟩
  have O1 := HO.out.keep K (fun h => by simp only [In, List.mem_cons, List.not_mem_nil, or_false] at h; omega)
  clear H
  go_wp2_with (at_builtin; refine wpList_append_b_none rfl (.tmp 15) (.tmp 16) rfl base k cap n l rfl HN.out O1 rfl ?_)
  go_wp2
  go_ret2
  exact ⟨k, cap, by rw [← HN.out]; rfl, O1, R, K.up⟩
end Go.Proofs.YtjbbapodcngnaaaDoor
