/- Blanks, lines of a value. No program in sight. -/
import Derived.Test.YtjbbapodcngnaaaDoorHdr
namespace Go.Proofs.YtjbbapodcngnaaaDoor.Hdr

/-! ### Blanks at both ends -/
def trimL (l : List UInt8) : List UInt8 := l.dropWhile sp
def trimR (l : List UInt8) : List UInt8 := (l.reverse.dropWhile sp).reverse
def trim (l : List UInt8) : List UInt8 := trimR (trimL l)

theorem trimL_at {l : List UInt8} {i : Nat} (hi : i < l.length) (h : trimL (l.drop i) = trimL l) : (sp l[i] = true → trimL (l.drop (i + 1)) = trimL l) ∧ (sp l[i] = false → l.drop i = trimL l) := by
  unfold trimL at *
  rw [List.drop_eq_getElem_cons hi] at h
  constructor
  · intro hs
    rw [List.dropWhile_cons, if_pos hs] at h
    exact h
  · intro hs
    rw [List.dropWhile_cons, if_neg (by rw [hs]; decide)] at h
    rw [List.drop_eq_getElem_cons hi]
    exact h
theorem trimL_end {l : List UInt8} {i : Nat} (hi : l.length ≤ i) (h : trimL (l.drop i) = trimL l) : l.drop i = trimL l := by
  rw [← h, List.drop_eq_nil_of_le hi]
  rfl
theorem trimR_nil : trimR [] = [] := rfl
theorem trimR_snoc (l : List UInt8) (x : UInt8) : trimR (l ++ [x]) = if sp x then trimR l else l ++ [x] := by
  unfold trimR
  rw [List.reverse_append, List.reverse_cons, List.reverse_nil, List.nil_append, List.singleton_append, List.dropWhile_cons]
  split
  · rfl
  · rw [List.reverse_cons, List.reverse_reverse]
/-- The end draws near. -/
theorem trimR_at {l : List UInt8} {i n : Nat} (hi : i < n) (hn : n ≤ l.length) (h : trimR ((l.take n).drop i) = trimR (l.drop i)) :
    (sp (l[n - 1]'(by omega)) = true → trimR ((l.take (n - 1)).drop i) = trimR (l.drop i)) ∧ (sp (l[n - 1]'(by omega)) = false → (l.take n).drop i = trimR (l.drop i)) := by
  have e : (l.take n).drop i = (l.take (n - 1)).drop i ++ [l[n - 1]'(by omega)] := by
    obtain ⟨m, rfl⟩ : ∃ m, n = m + 1 := ⟨n - 1, by omega⟩
    simp only [Nat.add_sub_cancel]
    rw [List.take_succ_eq_append_getElem (by omega), List.drop_append_of_le_length (by simp; omega)]
  rw [e, trimR_snoc] at h
  constructor
  · intro hs
    rw [if_pos hs] at h
    exact h
  · intro hs
    rw [if_neg (by rw [hs]; decide)] at h
    rw [e]
    exact h
theorem trimL_len (l : List UInt8) : (trimL l).length ≤ l.length := by
  unfold trimL
  exact List.Sublist.length_le (List.dropWhile_sublist _)
theorem trimR_len (l : List UInt8) : (trimR l).length ≤ l.length := by
  unfold trimR
  rw [List.length_reverse]
  exact Nat.le_trans (List.Sublist.length_le (List.dropWhile_sublist _)) (by simp)
theorem trim_len (l : List UInt8) : (trim l).length ≤ l.length := Nat.le_trans (trimR_len _) (trimL_len _)

/-! ### Lines of a value -/
/-- Without the return at its end, and without blanks at both ends. -/
def bare (l : List UInt8) : List UInt8 := trim (chomp l)
/-- A line joins what stands. -/
def join (a l : List UInt8) : List UInt8 := if bare l = [] then a else if a = [] then bare l else a ++ 32 :: bare l
/-- All lines of v join what stands. -/
def joins (a : List UInt8) (v : List UInt8) : List UInt8 :=
  match h : behind v with
  | [] => join a v
  | _ :: r => joins (join a (upto v)) r
termination_by v.length
decreasing_by
  have := congrArg List.length (split v)
  rw [h] at this
  simp at this
  omega
theorem joins_end {a v : List UInt8} (h : behind v = []) : joins a v = join a v := by
  rw [joins]; split
  · rfl
  · rename_i h2; rw [h] at h2; cases h2
theorem joins_nl {a v r : List UInt8} {x : UInt8} (h : behind v = x :: r) : joins a v = joins (join a (upto v)) r := by
  rw [joins]; split
  · rename_i h2; rw [h] at h2; cases h2
  · rename_i h2; rw [h] at h2; cases h2; rfl
theorem chomp_snoc (m : List UInt8) (x : UInt8) : chomp (m ++ [x]) = if x = 13 then m else m ++ [x] := by
  unfold chomp
  simp
theorem chomp_last (l : List UInt8) : (chomp l).length = if l.getLast? = some 13 then l.length - 1 else l.length := by
  unfold chomp
  split
  · simp
  · rfl
theorem chomp_nil : chomp [] = [] := rfl
theorem trim_nil : trim [] = [] := rfl
theorem join_nil {a l : List UInt8} (h : bare l = []) : join a l = a := by unfold join; rw [if_pos h]
theorem join_first {l : List UInt8} (h : bare l ≠ []) : join [] l = bare l := by unfold join; rw [if_neg h, if_pos rfl]
theorem join_more {a l : List UInt8} (h : bare l ≠ []) (ha : a ≠ []) : join a l = a ++ 32 :: bare l := by unfold join; rw [if_neg h, if_neg ha]
theorem chomp_take (l : List UInt8) : chomp l = l.take (chomp l).length := by
  rcases List.eq_nil_or_concat l with rfl | ⟨m, x, rfl⟩
  · rfl
  · rw [List.concat_eq_append, chomp_snoc]
    split
    · simp
    · rw [List.take_of_length_le (Nat.le_refl _)]
theorem chomp_len (l : List UInt8) : (chomp l).length ≤ l.length := by unfold chomp; split <;> simp
theorem bare_len (l : List UInt8) : (bare l).length ≤ l.length := Nat.le_trans (trim_len _) (chomp_len _)
theorem join_len (a l : List UInt8) : (join a l).length ≤ a.length + l.length + 1 := by
  have := bare_len l
  unfold join
  split
  · omega
  · split
    · omega
    · simp; omega

end Go.Proofs.YtjbbapodcngnaaaDoor.Hdr
