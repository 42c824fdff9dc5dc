/- The lines of a field, as the specification takes them; its scan. No program in sight. -/
import Derived.Test.YtjbbapodcngnaaaDoorHdrB
namespace Go.Proofs.YtjbbapodcngnaaaDoor.Hdr

/-- What stands ahead of the colon. -/
def tillC (l : List UInt8) : List UInt8 := l.takeWhile (· != 58)
theorem tillC_len (l : List UInt8) : (tillC l).length ≤ l.length := List.Sublist.length_le (List.takeWhile_sublist _)
theorem tillC_take (l : List UInt8) : l.take (tillC l).length = tillC l := (List.prefix_iff_eq_take.1 (List.takeWhile_prefix _)).symm
theorem tillC_at {l : List UInt8} {j : Nat} (hj : j < l.length) (h : (58 : UInt8) ∉ l.take j) : (l[j] ≠ 58 → (58 : UInt8) ∉ l.take (j + 1)) ∧ (l[j] = 58 → (tillC l).length = j) := by
  constructor
  · intro hne
    rw [List.take_succ_eq_append_getElem hj]
    simp only [List.mem_append, List.mem_singleton, not_or]
    exact ⟨h, fun e => hne e.symm⟩
  · intro he
    have h1 : l = l.take j ++ 58 :: l.drop (j + 1) := by
      conv => lhs; rw [← List.take_append_drop j l, List.drop_eq_getElem_cons hj, he]
    have h2 : tillC l = l.take j := by
      unfold tillC
      conv => lhs; rw [h1]
      rw [List.takeWhile_append_of_pos (by
        intro x hx
        simp only [bne_iff_ne, ne_eq]
        rintro rfl
        exact h hx)]
      simp
    rw [h2, List.length_take]
    omega
theorem tillC_none {l : List UInt8} (h : (58 : UInt8) ∉ l) : tillC l = l := by
  induction l with
  | nil => rfl
  | cons x l ih =>
    simp only [List.mem_cons, not_or] at h
    unfold tillC at *
    rw [List.takeWhile_cons, if_pos (by simpa using fun e => h.1 e.symm), ih h.2]

/-- What fieldOf9 says of the lines: the bytes, the value. -/
def raws (ls : List (List UInt8)) : List UInt8 := ls.flatMap (· ++ [13, 10])
def vals1 (v s : List UInt8) : List UInt8 := if trim s = [] then v else if v = [] then trim s else v ++ 32 :: trim s
def vals (v : List UInt8) (ls : List (List UInt8)) : List UInt8 := ls.foldl vals1 v

theorem raws_append (a b : List (List UInt8)) : raws (a ++ b) = raws a ++ raws b := by simp [raws]
theorem raws_take (ls : List (List UInt8)) (j : Nat) (hj : j < ls.length) : raws (ls.take (j + 1)) = raws (ls.take j) ++ (ls[j] ++ [13, 10]) := by
  rw [List.take_succ_eq_append_getElem hj, raws_append]
  simp [raws]
theorem raws_le (ls : List (List UInt8)) (j : Nat) : (raws (ls.take j)).length ≤ (raws ls).length := by
  conv => rhs; rw [← List.take_append_drop j ls, raws_append, List.length_append]
  omega

theorem vals1_len (v s : List UInt8) : (vals1 v s).length ≤ v.length + (s.length + 2) := by
  have := trim_len s
  unfold vals1
  split
  · omega
  · split
    · omega
    · simp; omega
theorem vals_len (ls : List (List UInt8)) : ∀ v : List UInt8, (vals v ls).length ≤ v.length + (raws ls).length := by
  induction ls with
  | nil => intro v; simp [vals, raws]
  | cons s ls ih =>
    intro v
    have h1 := ih (vals1 v s)
    have h2 := vals1_len v s
    have h3 : (raws (s :: ls)).length = s.length + 2 + (raws ls).length := by simp [raws]; omega
    have h4 : vals v (s :: ls) = vals (vals1 v s) ls := rfl
    rw [h4, h3]
    omega

/-- What the lines so far come to. -/
structure HS where
  ls : List (List UInt8)
  bad : Bool
  fs : List PF
def okOf (l0 : List UInt8) : Bool := !decide ((tillC l0).length = l0.length) && (trim (tillC l0)).all keyb
def pfOf (l0 : List UInt8) (ls : List (List UInt8)) : PF := ⟨canon (trim (tillC l0)), vals [] (l0.drop ((tillC l0).length + 1) :: ls), raws (l0 :: ls)⟩
def put9 (s : HS) : HS :=
  match s.ls with
  | [] => s
  | l0 :: ls => ⟨[], s.bad || !okOf l0, if okOf l0 = true ∧ trim (tillC l0) ≠ [] then s.fs ++ [pfOf l0 ls] else s.fs⟩


/-- A line joins the lines so far. -/
def add9 (s : HS) (l : List UInt8) : HS :=
  if spHead l then ⟨s.ls ++ [l], s.bad, s.fs⟩ else ⟨(put9 s).ls ++ [l], (put9 s).bad, (put9 s).fs⟩

/-- The scan behind some lines; nothing where it is not sure. -/
def scan9 (s : HS) (c : List UInt8) : Option (HS × List UInt8) :=
  if _h : c = [] then some (s, []) else
  if (13 : UInt8) ∈ (line1 c).1 then none else
  if (line1 c).1 = [] then some (s, (line1 c).2) else
  scan9 (add9 s (line1 c).1) (line1 c).2
termination_by c.length
decreasing_by exact line1_lt _h

theorem scan9_nil (s : HS) : scan9 s [] = some (s, []) := by rw [scan9, dif_pos rfl]
theorem scan9_ret {s : HS} {c : List UInt8} (h : c ≠ []) (h2 : (13 : UInt8) ∈ (line1 c).1) : scan9 s c = none := by rw [scan9, dif_neg h, if_pos h2]
theorem scan9_end {s : HS} {c : List UInt8} (h : c ≠ []) (h2 : (line1 c).1 = []) : scan9 s c = some (s, (line1 c).2) := by rw [scan9, dif_neg h, if_neg (by rw [h2]; simp), if_pos h2]
theorem scan9_more {s : HS} {c : List UInt8} (h : c ≠ []) (h2 : (13 : UInt8) ∉ (line1 c).1) (h3 : (line1 c).1 ≠ []) : scan9 s c = scan9 (add9 s (line1 c).1) (line1 c).2 := by rw [scan9, dif_neg h, if_neg h2, if_neg h3]

/-- What the specification's reading answers. -/
structure H9 where
  fs : List PF
  taken : Nat
  ok : Bool
  sure : Bool
def h9 (c : List UInt8) : H9 :=
  if spHead c then ⟨[], 0, false, true⟩ else
  match scan9 ⟨[], false, []⟩ c with
  | none => ⟨[], 0, false, false⟩
  | some (s, r) => ⟨(put9 s).fs, c.length - r.length, !(put9 s).bad, true⟩
end Go.Proofs.YtjbbapodcngnaaaDoor.Hdr
