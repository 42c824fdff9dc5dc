/- A header that bytes begin with, as the program reads it. No program in sight. -/
import Derived.Test.YtjbbapodcngnaaaDoorHdrC
namespace Go.Proofs.YtjbbapodcngnaaaDoor.Hdr

structure PF where
  k : List UInt8
  v : List UInt8
  raw : List UInt8

theorem kv_nil : kv [] = ([], []) := by
  have h : line1 [] = ([], []) := rfl
  unfold kv
  rw [h]
  rfl
theorem kv_lt {c : List UInt8} (h : (kv c).1 ≠ []) : (kv c).2.length < c.length := by
  have hc : c ≠ [] := by
    rintro rfl
    rw [kv_nil] at h
    exact h rfl
  have h1 := line1_lt hc
  have h2 := conts_len (line1 c).2
  unfold kv
  split
  · exact h1
  · simp only []; omega

/-- The fields up to the empty line, and what stands behind them; none if the header is refused. -/
def rh (c : List UInt8) : Option (List PF × List UInt8) :=
  if h : (kv c).1 = [] then some ([], (kv c).2) else
  match (kv c).1.dropWhile (· != 58) with
  | [] => none
  | _ :: b =>
    if (trim ((kv c).1.takeWhile (· != 58))).all keyb then
      (rh (kv c).2).map fun r => (if trim ((kv c).1.takeWhile (· != 58)) = [] then r.1 else ⟨canon (canon (trim ((kv c).1.takeWhile (· != 58)))), joins [] b, (kv c).1⟩ :: r.1, r.2)
    else none
termination_by c.length
decreasing_by exact kv_lt h

theorem rh_end {c : List UInt8} (h : (kv c).1 = []) : rh c = some ([], (kv c).2) := by rw [rh, dif_pos h]
theorem rh_no {c : List UInt8} (h : (kv c).1 ≠ []) (h2 : (kv c).1.dropWhile (· != 58) = []) : rh c = none := by
  rw [rh, dif_neg h]
  split
  · rfl
  · rename_i h3; rw [h2] at h3; cases h3
theorem rh_bad {c b : List UInt8} {x : UInt8} (h : (kv c).1 ≠ []) (h2 : (kv c).1.dropWhile (· != 58) = x :: b) (h3 : (trim ((kv c).1.takeWhile (· != 58))).all keyb = false) : rh c = none := by
  rw [rh, dif_neg h]
  split
  · rfl
  · rw [if_neg (by rw [h3]; decide)]
theorem rh_skip {c b : List UInt8} {x : UInt8} (h : (kv c).1 ≠ []) (h2 : (kv c).1.dropWhile (· != 58) = x :: b) (h4 : trim ((kv c).1.takeWhile (· != 58)) = []) : rh c = rh (kv c).2 := by
  rw [rh, dif_neg h]
  split
  · rename_i h3; rw [h2] at h3; cases h3
  · rw [if_pos (by rw [h4]; rfl)]
    rw [h4]
    simp
theorem rh_more {c b : List UInt8} {x : UInt8} (h : (kv c).1 ≠ []) (h2 : (kv c).1.dropWhile (· != 58) = x :: b) (h3 : (trim ((kv c).1.takeWhile (· != 58))).all keyb = true) (h4 : trim ((kv c).1.takeWhile (· != 58)) ≠ []) :
    rh c = (rh (kv c).2).map fun r => (⟨canon (canon (trim ((kv c).1.takeWhile (· != 58)))), joins [] b, (kv c).1⟩ :: r.1, r.2) := by
  rw [rh, dif_neg h]
  split
  · rename_i h3; rw [h2] at h3; cases h3
  · rename_i b' h5
    rw [h2] at h5
    injection h5 with _ h5
    subst h5
    rw [if_pos h3]
    congr 1
    funext r
    rw [if_neg h4]

/-- The whole. -/
def rhd (c : List UInt8) : Option (List PF × List UInt8) := if spHead c then none else rh c

theorem colon_split (l : List UInt8) : l = l.takeWhile (· != 58) ++ l.dropWhile (· != 58) := (List.takeWhile_append_dropWhile (p := (· != 58)) (l := l)).symm
theorem colon_no (l : List UInt8) : (58 : UInt8) ∉ l.takeWhile (· != 58) := by
  induction l with
  | nil => simp
  | cons x l ih =>
    rw [List.takeWhile_cons]
    split
    · rename_i h
      simp only [List.mem_cons, not_or]
      exact ⟨fun e => by subst e; simp at h, ih⟩
    · simp
theorem colon_head {l b : List UInt8} {x : UInt8} (h : l.dropWhile (· != 58) = x :: b) : x = 58 := by
  induction l with
  | nil => simp at h
  | cons y l ih =>
    rw [List.dropWhile_cons] at h
    split at h
    · exact ih h
    · rename_i hy
      simp only [List.cons.injEq] at h
      rw [← h.1]
      simpa using hy
end Go.Proofs.YtjbbapodcngnaaaDoor.Hdr
