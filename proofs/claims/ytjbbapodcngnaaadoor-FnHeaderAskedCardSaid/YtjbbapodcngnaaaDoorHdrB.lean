/- Blanks, lines of a value; bytes of tokens, keys in canonical form; a header that bytes begin with, as the program reads it. No program in sight. -/
import Derived.Test.YtjbbapodcngnaaaDoorHdr
namespace Go.Proofs.YtjbbapodcngnaaaDoor.Hdr

/-! ### Blanks at both ends -/
def trimL (l : List UInt8) : List UInt8 := l.dropWhile sp
def trimR (l : List UInt8) : List UInt8 := (l.reverse.dropWhile sp).reverse
def trim (l : List UInt8) : List UInt8 := trimR (trimL l)

theorem trimL_at {l : List UInt8} {i : Nat} (hi : i < l.length) (h : trimL (l.drop i) = trimL l) : (sp l[i] = true → trimL (l.drop (i + 1)) = trimL l) ∧ (sp l[i] = false → l.drop i = trimL l) := by
  unfold trimL at *
  rw [List.drop_eq_getElem_cons hi] at h
  constructor
  · intro hs
    rw [List.dropWhile_cons, if_pos hs] at h
    exact h
  · intro hs
    rw [List.dropWhile_cons, if_neg (by rw [hs]; decide)] at h
    rw [List.drop_eq_getElem_cons hi]
    exact h
theorem trimL_end {l : List UInt8} {i : Nat} (hi : l.length ≤ i) (h : trimL (l.drop i) = trimL l) : l.drop i = trimL l := by
  rw [← h, List.drop_eq_nil_of_le hi]
  rfl
theorem trimR_nil : trimR [] = [] := rfl
theorem trimR_snoc (l : List UInt8) (x : UInt8) : trimR (l ++ [x]) = if sp x then trimR l else l ++ [x] := by
  unfold trimR
  rw [List.reverse_append, List.reverse_cons, List.reverse_nil, List.nil_append, List.singleton_append, List.dropWhile_cons]
  split
  · rfl
  · rw [List.reverse_cons, List.reverse_reverse]
/-- The end draws near. -/
theorem trimR_at {l : List UInt8} {i n : Nat} (hi : i < n) (hn : n ≤ l.length) (h : trimR ((l.take n).drop i) = trimR (l.drop i)) :
    (sp (l[n - 1]'(by omega)) = true → trimR ((l.take (n - 1)).drop i) = trimR (l.drop i)) ∧ (sp (l[n - 1]'(by omega)) = false → (l.take n).drop i = trimR (l.drop i)) := by
  have e : (l.take n).drop i = (l.take (n - 1)).drop i ++ [l[n - 1]'(by omega)] := by
    obtain ⟨m, rfl⟩ : ∃ m, n = m + 1 := ⟨n - 1, by omega⟩
    simp only [Nat.add_sub_cancel]
    rw [List.take_succ_eq_append_getElem (by omega), List.drop_append_of_le_length (by simp; omega)]
  rw [e, trimR_snoc] at h
  constructor
  · intro hs
    rw [if_pos hs] at h
    exact h
  · intro hs
    rw [if_neg (by rw [hs]; decide)] at h
    rw [e]
    exact h
theorem trimL_len (l : List UInt8) : (trimL l).length ≤ l.length := by
  unfold trimL
  exact List.Sublist.length_le (List.dropWhile_sublist _)
theorem trimR_len (l : List UInt8) : (trimR l).length ≤ l.length := by
  unfold trimR
  rw [List.length_reverse]
  exact Nat.le_trans (List.Sublist.length_le (List.dropWhile_sublist _)) (by simp)
theorem trim_len (l : List UInt8) : (trim l).length ≤ l.length := Nat.le_trans (trimR_len _) (trimL_len _)

/-! ### Lines of a value -/
/-- Without the return at its end, and without blanks at both ends. -/
def bare (l : List UInt8) : List UInt8 := trim (chomp l)
/-- A line joins what stands. -/
def join (a l : List UInt8) : List UInt8 := if bare l = [] then a else if a = [] then bare l else a ++ 32 :: bare l
/-- All lines of v join what stands. -/
def joins (a : List UInt8) (v : List UInt8) : List UInt8 :=
  match _h : behind v with
  | [] => join a v
  | _ :: r => joins (join a (upto v)) r
termination_by v.length
decreasing_by
  have := congrArg List.length (split v)
  rw [_h] at this
  simp at this
  omega
theorem joins_end {a v : List UInt8} (h : behind v = []) : joins a v = join a v := by
  rw [joins]; split
  · rfl
  · rename_i h2; rw [h] at h2; cases h2
theorem joins_nl {a v r : List UInt8} {x : UInt8} (h : behind v = x :: r) : joins a v = joins (join a (upto v)) r := by
  rw [joins]; split
  · rename_i h2; rw [h] at h2; cases h2
  · rename_i h2; rw [h] at h2; cases h2; rfl
theorem chomp_snoc (m : List UInt8) (x : UInt8) : chomp (m ++ [x]) = if x = 13 then m else m ++ [x] := by
  unfold chomp
  simp
theorem chomp_last (l : List UInt8) : (chomp l).length = if l.getLast? = some 13 then l.length - 1 else l.length := by
  unfold chomp
  split
  · simp
  · rfl
theorem chomp_nil : chomp [] = [] := rfl
theorem trim_nil : trim [] = [] := rfl
theorem join_nil {a l : List UInt8} (h : bare l = []) : join a l = a := by unfold join; rw [if_pos h]
theorem join_first {l : List UInt8} (h : bare l ≠ []) : join [] l = bare l := by unfold join; rw [if_neg h, if_pos rfl]
theorem join_more {a l : List UInt8} (h : bare l ≠ []) (ha : a ≠ []) : join a l = a ++ 32 :: bare l := by unfold join; rw [if_neg h, if_neg ha]
theorem chomp_take (l : List UInt8) : chomp l = l.take (chomp l).length := by
  rcases List.eq_nil_or_concat l with rfl | ⟨m, x, rfl⟩
  · rfl
  · rw [List.concat_eq_append, chomp_snoc]
    split
    · simp
    · rw [List.take_of_length_le (Nat.le_refl _)]
theorem chomp_len (l : List UInt8) : (chomp l).length ≤ l.length := by unfold chomp; split <;> simp
theorem bare_len (l : List UInt8) : (bare l).length ≤ l.length := Nat.le_trans (trim_len _) (chomp_len _)
theorem join_len (a l : List UInt8) : (join a l).length ≤ a.length + l.length + 1 := by
  have := bare_len l
  unfold join
  split
  · omega
  · split
    · omega
    · simp; omega

end Go.Proofs.YtjbbapodcngnaaaDoor.Hdr

namespace Go.Proofs.YtjbbapodcngnaaaDoor.Hdr

/-- Signs that a token may have beside letters and digits. -/
def signN (n : Nat) : Prop := n = 33 ∨ n = 35 ∨ n = 36 ∨ n = 37 ∨ n = 38 ∨ n = 39 ∨ n = 42 ∨ n = 43 ∨ n = 45 ∨ n = 46 ∨ n = 94 ∨ n = 95 ∨ n = 96 ∨ n = 124 ∨ n = 126
instance (n : Nat) : Decidable (signN n) := by unfold signN; infer_instance
def tokN (n : Nat) : Prop := signN n ∨ (48 ≤ n ∧ n ≤ 57) ∨ (97 ≤ n ∧ n ≤ 122) ∨ (65 ≤ n ∧ n ≤ 90)
instance (n : Nat) : Decidable (tokN n) := by unfold tokN; infer_instance
def tok (c : UInt8) : Bool := decide (tokN c.toNat)
def keyN (n : Nat) : Prop := 33 ≤ n ∧ n ≤ 126 ∧ n ≠ 58
instance (n : Nat) : Decidable (keyN n) := by unfold keyN; infer_instance
/-- A byte that may stand in a key. -/
def keyb (c : UInt8) : Bool := decide (keyN c.toNat)

/-- A byte, in the case that it stands in. -/
def cased (up : Bool) (c : UInt8) : UInt8 :=
  if up = true ∧ 97 ≤ c.toNat ∧ c.toNat ≤ 122 then c - 97 + 65
  else if up = false ∧ 65 ≤ c.toNat ∧ c.toNat ≤ 90 then c - 65 + 97
  else c
def canonGo : Bool → List UInt8 → List UInt8
  | _, [] => []
  | up, c :: l => cased up c :: canonGo (c == 45) l
def canon (l : List UInt8) : List UInt8 := if l.all tok then canonGo true l else l
theorem canonGo_len (up : Bool) (l : List UInt8) : (canonGo up l).length = l.length := by
  induction l generalizing up with
  | nil => rfl
  | cons c l ih => simp [canonGo, ih]
theorem canon_len (l : List UInt8) : (canon l).length = l.length := by
  unfold canon; split
  · exact canonGo_len _ _
  · rfl
end Go.Proofs.YtjbbapodcngnaaaDoor.Hdr

namespace Go.Proofs.YtjbbapodcngnaaaDoor.Hdr

structure PF where
  k : List UInt8
  v : List UInt8
  raw : List UInt8

theorem kv_nil : kv [] = ([], []) := by
  have h : line1 [] = ([], []) := rfl
  unfold kv
  rw [h]
  rfl
theorem kv_lt {c : List UInt8} (h : (kv c).1 ≠ []) : (kv c).2.length < c.length := by
  have hc : c ≠ [] := by
    rintro rfl
    rw [kv_nil] at h
    exact h rfl
  have h1 := line1_lt hc
  have h2 := conts_len (line1 c).2
  unfold kv
  split
  · exact h1
  · simp only []; omega

/-- The fields up to the empty line, and what stands behind them; none if the header is refused. -/
def rh (c : List UInt8) : Option (List PF × List UInt8) :=
  if _h : (kv c).1 = [] then some ([], (kv c).2) else
  match (kv c).1.dropWhile (· != 58) with
  | [] => none
  | _ :: b =>
    if (trim ((kv c).1.takeWhile (· != 58))).all keyb then
      (rh (kv c).2).map fun r => (if trim ((kv c).1.takeWhile (· != 58)) = [] then r.1 else ⟨canon (canon (trim ((kv c).1.takeWhile (· != 58)))), joins [] b, (kv c).1⟩ :: r.1, r.2)
    else none
termination_by c.length
decreasing_by exact kv_lt _h

theorem rh_end {c : List UInt8} (h : (kv c).1 = []) : rh c = some ([], (kv c).2) := by rw [rh, dif_pos h]
theorem rh_no {c : List UInt8} (h : (kv c).1 ≠ []) (h2 : (kv c).1.dropWhile (· != 58) = []) : rh c = none := by
  rw [rh, dif_neg h]
  split
  · rfl
  · rename_i h3; rw [h2] at h3; cases h3
theorem rh_bad {c b : List UInt8} {x : UInt8} (h : (kv c).1 ≠ []) (_h2 : (kv c).1.dropWhile (· != 58) = x :: b) (h3 : (trim ((kv c).1.takeWhile (· != 58))).all keyb = false) : rh c = none := by
  rw [rh, dif_neg h]
  split
  · rfl
  · rw [if_neg (by rw [h3]; decide)]
theorem rh_skip {c b : List UInt8} {x : UInt8} (h : (kv c).1 ≠ []) (h2 : (kv c).1.dropWhile (· != 58) = x :: b) (h4 : trim ((kv c).1.takeWhile (· != 58)) = []) : rh c = rh (kv c).2 := by
  rw [rh, dif_neg h]
  split
  · rename_i h3; rw [h2] at h3; cases h3
  · rw [if_pos (by rw [h4]; rfl)]
    rw [h4]
    simp
theorem rh_more {c b : List UInt8} {x : UInt8} (h : (kv c).1 ≠ []) (h2 : (kv c).1.dropWhile (· != 58) = x :: b) (h3 : (trim ((kv c).1.takeWhile (· != 58))).all keyb = true) (h4 : trim ((kv c).1.takeWhile (· != 58)) ≠ []) :
    rh c = (rh (kv c).2).map fun r => (⟨canon (canon (trim ((kv c).1.takeWhile (· != 58)))), joins [] b, (kv c).1⟩ :: r.1, r.2) := by
  rw [rh, dif_neg h]
  split
  · rename_i h3; rw [h2] at h3; cases h3
  · rename_i b' h5
    rw [h2] at h5
    injection h5 with _ h5
    subst h5
    rw [if_pos h3]
    congr 1
    funext r
    rw [if_neg h4]

/-- The whole. -/
def rhd (c : List UInt8) : Option (List PF × List UInt8) := if spHead c then none else rh c

theorem colon_split (l : List UInt8) : l = l.takeWhile (· != 58) ++ l.dropWhile (· != 58) := (List.takeWhile_append_dropWhile (p := (· != 58)) (l := l)).symm
theorem colon_no (l : List UInt8) : (58 : UInt8) ∉ l.takeWhile (· != 58) := by
  induction l with
  | nil => simp
  | cons x l ih =>
    rw [List.takeWhile_cons]
    split
    · rename_i h
      simp only [List.mem_cons, not_or]
      exact ⟨fun e => by subst e; simp at h, ih⟩
    · simp
theorem colon_head {l b : List UInt8} {x : UInt8} (h : l.dropWhile (· != 58) = x :: b) : x = 58 := by
  induction l with
  | nil => simp at h
  | cons y l ih =>
    rw [List.dropWhile_cons] at h
    split at h
    · exact ih h
    · rename_i hy
      simp only [List.cons.injEq] at h
      rw [← h.1]
      simpa using hy
end Go.Proofs.YtjbbapodcngnaaaDoor.Hdr
