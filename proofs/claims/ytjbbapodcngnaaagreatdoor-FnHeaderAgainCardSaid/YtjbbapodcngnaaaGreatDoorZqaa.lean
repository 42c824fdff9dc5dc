/- Headers as lists of bytes: lines, fields. No program in sight. Blanks, lines of a value; bytes of tokens, keys in canonical form; a header that bytes begin with, as the program reads it. No program in sight. The lines of a field, as the specification takes them; its scan. No program in sight. The specification's scan and the program's parse agree. No program in sight. Folded fields, as lists of bytes. No program in sight. Words of our own: what a call keeps of memory ('Keeps'), a block that is known whole ('Blk'), bytes in a block ('BytesAt'). Nothing of the program is named here.  Regions that draw their order: some operations that only look (in a class of worlds), then one effect that waits for all of them, and behind it moves alone. One walk of the text's order serves every order.       Bytes of a call's own: a slice that is made, appended to, and read. Nothing of the program is named but the number of the type of bytes.   strings.Builder: copyCheck, WriteByte, Write. trim. -/
import Derived.WalkKit
import Derived.WalkLawsBesides
import Derived.WalkSpells
import Derived.Deep.QuietTactic
import Derived.BigQuiet
import Derived.Lib.Hide
import Derived.StillTailTactics
import Derived.Test.YtjbbapodcngnaaaGreatDoorProg
import Derived.Deep.DeepCutAuto
import Derived.Deep.CutBlock
import Derived.Lib.BytesEntry
import Derived.LaidEql
import Derived.Laws.AppendOwnNone
import Derived.Test.YtjbbapodcngnaaaGreatDoorShelf
namespace Go.Proofs.YtjbbapodcngnaaaGreatDoor.Hdr

/-- A line without the return at its end. -/
def chomp (l : List UInt8) : List UInt8 := if l.getLast? = some 13 then l.dropLast else l

/-- What stands ahead of the first line feed. -/
def upto (c : List UInt8) : List UInt8 := c.takeWhile (· != 10)
def behind (c : List UInt8) : List UInt8 := c.dropWhile (· != 10)

/-- The first line, as it is read, and what stands behind it. -/
def line1 (c : List UInt8) : List UInt8 × List UInt8 :=
  match behind c with
  | [] => (upto c, [])
  | _ :: r => (chomp (upto c), r)

theorem split (c : List UInt8) : c = upto c ++ behind c := (List.takeWhile_append_dropWhile (p := (· != 10)) (l := c)).symm
theorem upto_no (c : List UInt8) : (10 : UInt8) ∉ upto c := by
  induction c with
  | nil => simp [upto]
  | cons x c ih =>
    unfold upto at *
    rw [List.takeWhile_cons]
    split
    · rename_i h
      simp only [List.mem_cons, not_or]
      exact ⟨fun e => by subst e; simp at h, ih⟩
    · simp
theorem behind_head {c r : List UInt8} {x : UInt8} (h : behind c = x :: r) : x = 10 := by
  induction c with
  | nil => simp [behind] at h
  | cons y c ih =>
    unfold behind at *
    rw [List.dropWhile_cons] at h
    split at h
    · exact ih h
    · rename_i hy
      simp only [List.cons.injEq] at h
      rw [← h.1]
      simpa using hy
theorem line1_nl {c r : List UInt8} {x : UInt8} (h : behind c = x :: r) : line1 c = (chomp (upto c), r) := by unfold line1; rw [h]
theorem line1_end {c : List UInt8} (h : behind c = []) : line1 c = (c, []) := by
  have h2 := split c
  rw [h, List.append_nil] at h2
  unfold line1; rw [h, ← h2]

/-- No line of it is as long as a buffer. -/
def Short (c : List UInt8) : Prop := ∀ b, b <:+ c → (upto b).length < 4095
theorem Short.self {c : List UInt8} (h : Short c) : (upto c).length < 4095 := h c (List.suffix_refl c)
theorem Short.tail {c d : List UInt8} (h : Short c) (hd : d <:+ c) : Short d := fun b hb => h b (hb.trans hd)
theorem line1_suffix (c : List UInt8) : (line1 c).2 <:+ c := by
  unfold line1
  cases h : behind c with
  | nil => exact List.nil_suffix
  | cons x r => exact ⟨upto c ++ [x], by rw [List.append_assoc, List.singleton_append, ← h, ← split]⟩
theorem Short.line {c : List UInt8} (h : Short c) : Short (line1 c).2 := h.tail (line1_suffix c)
theorem line1_lt {c : List UInt8} (h : c ≠ []) : (line1 c).2.length < c.length := by
  unfold line1
  cases hb : behind c with
  | nil => simp; exact List.length_pos_iff.2 h
  | cons x r =>
    have := congrArg List.length (split c)
    rw [hb] at this
    simp at this ⊢
    omega

/-- A blank or a tab. -/
def sp (c : UInt8) : Bool := c == 32 || c == 9

def spHead : List UInt8 → Bool
  | [] => false
  | x :: _ => sp x
theorem spHead_ne {c : List UInt8} (h : spHead c = true) : c ≠ [] := by rintro rfl; cases h

/-- The lines that go on with a field, each with CR LF, and what stands behind them. -/
def conts (c : List UInt8) : List UInt8 × List UInt8 :=
  if h : spHead c = true then
    let r := conts (line1 c).2
    ((line1 c).1 ++ [13, 10] ++ r.1, r.2)
  else ([], c)
termination_by c.length
decreasing_by exact line1_lt (spHead_ne h)

theorem conts_yes {c : List UInt8} (h : spHead c = true) : conts c = ((line1 c).1 ++ [13, 10] ++ (conts (line1 c).2).1, (conts (line1 c).2).2) := by rw [conts, dif_pos h]
theorem conts_no {c : List UInt8} (h : spHead c = false) : conts c = ([], c) := by rw [conts, dif_neg (by rw [h]; decide)]

/-- A field's lines, each with CR LF; nothing where the first line is empty; and what stands behind. -/
def kv (c : List UInt8) : List UInt8 × List UInt8 :=
  if (line1 c).1 = [] then ([], (line1 c).2) else ((line1 c).1 ++ [13, 10] ++ (conts (line1 c).2).1, (conts (line1 c).2).2)

theorem line1_len (c : List UInt8) : (line1 c).1.length + (line1 c).2.length ≤ c.length := by
  have := congrArg List.length (split c)
  unfold line1
  cases hb : behind c with
  | nil => rw [hb] at this; simp at this ⊢; omega
  | cons x r =>
    rw [hb] at this
    simp only [chomp]
    simp at this
    split <;> simp <;> omega

theorem conts_len (c : List UInt8) : (conts c).1.length ≤ 3 * c.length ∧ (conts c).2.length ≤ c.length := by
  induction hn : c.length using Nat.strongRecOn generalizing c with
  | _ n ih =>
    subst hn
    by_cases h : spHead c = true
    · rw [conts_yes h]
      have h1 := line1_lt (spHead_ne h)
      have h2 := line1_len c
      have h3 := ih _ h1 (line1 c).2 rfl
      simp
      omega
    · rw [conts_no (by simpa using h)]
      simp
theorem kv_len (c : List UInt8) : (kv c).1.length ≤ 3 * c.length + 2 ∧ (kv c).2.length ≤ c.length := by
  unfold kv
  have h1 := line1_len c
  have h2 := conts_len (line1 c).2
  split
  · simp; omega
  · simp; omega

theorem conts_suffix (c : List UInt8) : (conts c).2 <:+ c := by
  induction hn : c.length using Nat.strongRecOn generalizing c with
  | _ n ih =>
    subst hn
    by_cases h : spHead c = true
    · rw [conts_yes h]
      exact (ih _ (line1_lt (spHead_ne h)) (line1 c).2 rfl).trans (line1_suffix c)
    · rw [conts_no (by simpa using h)]
      exact List.suffix_refl c
theorem kv_suffix (c : List UInt8) : (kv c).2 <:+ c := by
  unfold kv
  split
  · exact line1_suffix c
  · exact (conts_suffix _).trans (line1_suffix c)

end Go.Proofs.YtjbbapodcngnaaaGreatDoor.Hdr
namespace Go.Proofs.YtjbbapodcngnaaaGreatDoor.Hdr

/-! ### Blanks at both ends -/
def trimL (l : List UInt8) : List UInt8 := l.dropWhile sp
def trimR (l : List UInt8) : List UInt8 := (l.reverse.dropWhile sp).reverse
def trim (l : List UInt8) : List UInt8 := trimR (trimL l)

theorem trimL_at {l : List UInt8} {i : Nat} (hi : i < l.length) (h : trimL (l.drop i) = trimL l) : (sp l[i] = true → trimL (l.drop (i + 1)) = trimL l) ∧ (sp l[i] = false → l.drop i = trimL l) := by
  unfold trimL at *
  rw [List.drop_eq_getElem_cons hi] at h
  constructor
  · intro hs
    rw [List.dropWhile_cons, if_pos hs] at h
    exact h
  · intro hs
    rw [List.dropWhile_cons, if_neg (by rw [hs]; decide)] at h
    rw [List.drop_eq_getElem_cons hi]
    exact h
theorem trimL_end {l : List UInt8} {i : Nat} (hi : l.length ≤ i) (h : trimL (l.drop i) = trimL l) : l.drop i = trimL l := by
  rw [← h, List.drop_eq_nil_of_le hi]
  rfl
theorem trimR_nil : trimR [] = [] := rfl
theorem trimR_snoc (l : List UInt8) (x : UInt8) : trimR (l ++ [x]) = if sp x then trimR l else l ++ [x] := by
  unfold trimR
  rw [List.reverse_append, List.reverse_cons, List.reverse_nil, List.nil_append, List.singleton_append, List.dropWhile_cons]
  split
  · rfl
  · rw [List.reverse_cons, List.reverse_reverse]
/-- The end draws near. -/
theorem trimR_at {l : List UInt8} {i n : Nat} (hi : i < n) (hn : n ≤ l.length) (h : trimR ((l.take n).drop i) = trimR (l.drop i)) :
    (sp (l[n - 1]'(by omega)) = true → trimR ((l.take (n - 1)).drop i) = trimR (l.drop i)) ∧ (sp (l[n - 1]'(by omega)) = false → (l.take n).drop i = trimR (l.drop i)) := by
  have e : (l.take n).drop i = (l.take (n - 1)).drop i ++ [l[n - 1]'(by omega)] := by
    obtain ⟨m, rfl⟩ : ∃ m, n = m + 1 := ⟨n - 1, by omega⟩
    simp only [Nat.add_sub_cancel]
    rw [List.take_succ_eq_append_getElem (by omega), List.drop_append_of_le_length (by simp; omega)]
  rw [e, trimR_snoc] at h
  constructor
  · intro hs
    rw [if_pos hs] at h
    exact h
  · intro hs
    rw [if_neg (by rw [hs]; decide)] at h
    rw [e]
    exact h
theorem trimL_len (l : List UInt8) : (trimL l).length ≤ l.length := by
  unfold trimL
  exact List.Sublist.length_le (List.dropWhile_sublist _)
theorem trimR_len (l : List UInt8) : (trimR l).length ≤ l.length := by
  unfold trimR
  rw [List.length_reverse]
  exact Nat.le_trans (List.Sublist.length_le (List.dropWhile_sublist _)) (by simp)
theorem trim_len (l : List UInt8) : (trim l).length ≤ l.length := Nat.le_trans (trimR_len _) (trimL_len _)

/-! ### Lines of a value -/
/-- Without the return at its end, and without blanks at both ends. -/
def bare (l : List UInt8) : List UInt8 := trim (chomp l)
/-- A line joins what stands. -/
def join (a l : List UInt8) : List UInt8 := if bare l = [] then a else if a = [] then bare l else a ++ 32 :: bare l
/-- All lines of v join what stands. -/
def joins (a : List UInt8) (v : List UInt8) : List UInt8 :=
  match _h : behind v with
  | [] => join a v
  | _ :: r => joins (join a (upto v)) r
termination_by v.length
decreasing_by
  have := congrArg List.length (split v)
  rw [_h] at this
  simp at this
  omega
theorem joins_end {a v : List UInt8} (h : behind v = []) : joins a v = join a v := by
  rw [joins]; split
  · rfl
  · rename_i h2; rw [h] at h2; cases h2
theorem joins_nl {a v r : List UInt8} {x : UInt8} (h : behind v = x :: r) : joins a v = joins (join a (upto v)) r := by
  rw [joins]; split
  · rename_i h2; rw [h] at h2; cases h2
  · rename_i h2; rw [h] at h2; cases h2; rfl
theorem chomp_snoc (m : List UInt8) (x : UInt8) : chomp (m ++ [x]) = if x = 13 then m else m ++ [x] := by
  unfold chomp
  simp
theorem chomp_last (l : List UInt8) : (chomp l).length = if l.getLast? = some 13 then l.length - 1 else l.length := by
  unfold chomp
  split
  · simp
  · rfl
theorem chomp_nil : chomp [] = [] := rfl
theorem trim_nil : trim [] = [] := rfl
theorem join_nil {a l : List UInt8} (h : bare l = []) : join a l = a := by unfold join; rw [if_pos h]
theorem join_first {l : List UInt8} (h : bare l ≠ []) : join [] l = bare l := by unfold join; rw [if_neg h, if_pos rfl]
theorem join_more {a l : List UInt8} (h : bare l ≠ []) (ha : a ≠ []) : join a l = a ++ 32 :: bare l := by unfold join; rw [if_neg h, if_neg ha]
theorem chomp_take (l : List UInt8) : chomp l = l.take (chomp l).length := by
  rcases List.eq_nil_or_concat l with rfl | ⟨m, x, rfl⟩
  · rfl
  · rw [List.concat_eq_append, chomp_snoc]
    split
    · simp
    · rw [List.take_of_length_le (Nat.le_refl _)]
theorem chomp_len (l : List UInt8) : (chomp l).length ≤ l.length := by unfold chomp; split <;> simp
theorem bare_len (l : List UInt8) : (bare l).length ≤ l.length := Nat.le_trans (trim_len _) (chomp_len _)
theorem join_len (a l : List UInt8) : (join a l).length ≤ a.length + l.length + 1 := by
  have := bare_len l
  unfold join
  split
  · omega
  · split
    · omega
    · simp; omega

end Go.Proofs.YtjbbapodcngnaaaGreatDoor.Hdr

namespace Go.Proofs.YtjbbapodcngnaaaGreatDoor.Hdr

/-- Signs that a token may have beside letters and digits. -/
def signN (n : Nat) : Prop := n = 33 ∨ n = 35 ∨ n = 36 ∨ n = 37 ∨ n = 38 ∨ n = 39 ∨ n = 42 ∨ n = 43 ∨ n = 45 ∨ n = 46 ∨ n = 94 ∨ n = 95 ∨ n = 96 ∨ n = 124 ∨ n = 126
instance (n : Nat) : Decidable (signN n) := by unfold signN; infer_instance
def tokN (n : Nat) : Prop := signN n ∨ (48 ≤ n ∧ n ≤ 57) ∨ (97 ≤ n ∧ n ≤ 122) ∨ (65 ≤ n ∧ n ≤ 90)
instance (n : Nat) : Decidable (tokN n) := by unfold tokN; infer_instance
def tok (c : UInt8) : Bool := decide (tokN c.toNat)
def keyN (n : Nat) : Prop := 33 ≤ n ∧ n ≤ 126 ∧ n ≠ 58
instance (n : Nat) : Decidable (keyN n) := by unfold keyN; infer_instance
/-- A byte that may stand in a key. -/
def keyb (c : UInt8) : Bool := decide (keyN c.toNat)

/-- A byte, in the case that it stands in. -/
def cased (up : Bool) (c : UInt8) : UInt8 :=
  if up = true ∧ 97 ≤ c.toNat ∧ c.toNat ≤ 122 then c - 97 + 65
  else if up = false ∧ 65 ≤ c.toNat ∧ c.toNat ≤ 90 then c - 65 + 97
  else c
def canonGo : Bool → List UInt8 → List UInt8
  | _, [] => []
  | up, c :: l => cased up c :: canonGo (c == 45) l
def canon (l : List UInt8) : List UInt8 := if l.all tok then canonGo true l else l
theorem canonGo_len (up : Bool) (l : List UInt8) : (canonGo up l).length = l.length := by
  induction l generalizing up with
  | nil => rfl
  | cons c l ih => simp [canonGo, ih]
theorem canon_len (l : List UInt8) : (canon l).length = l.length := by
  unfold canon; split
  · exact canonGo_len _ _
  · rfl
end Go.Proofs.YtjbbapodcngnaaaGreatDoor.Hdr

namespace Go.Proofs.YtjbbapodcngnaaaGreatDoor.Hdr

structure PF where
  k : List UInt8
  v : List UInt8
  raw : List UInt8

theorem kv_nil : kv [] = ([], []) := by
  have h : line1 [] = ([], []) := rfl
  unfold kv
  rw [h]
  rfl
theorem kv_lt {c : List UInt8} (h : (kv c).1 ≠ []) : (kv c).2.length < c.length := by
  have hc : c ≠ [] := by
    rintro rfl
    rw [kv_nil] at h
    exact h rfl
  have h1 := line1_lt hc
  have h2 := conts_len (line1 c).2
  unfold kv
  split
  · exact h1
  · simp only []; omega

/-- The fields up to the empty line, and what stands behind them; none if the header is refused. -/
def rh (c : List UInt8) : Option (List PF × List UInt8) :=
  if _h : (kv c).1 = [] then some ([], (kv c).2) else
  match (kv c).1.dropWhile (· != 58) with
  | [] => none
  | _ :: b =>
    if (trim ((kv c).1.takeWhile (· != 58))).all keyb then
      (rh (kv c).2).map fun r => (if trim ((kv c).1.takeWhile (· != 58)) = [] then r.1 else ⟨canon (canon (trim ((kv c).1.takeWhile (· != 58)))), joins [] b, (kv c).1⟩ :: r.1, r.2)
    else none
termination_by c.length
decreasing_by exact kv_lt _h

theorem rh_end {c : List UInt8} (h : (kv c).1 = []) : rh c = some ([], (kv c).2) := by rw [rh, dif_pos h]
theorem rh_no {c : List UInt8} (h : (kv c).1 ≠ []) (h2 : (kv c).1.dropWhile (· != 58) = []) : rh c = none := by
  rw [rh, dif_neg h]
  split
  · rfl
  · rename_i h3; rw [h2] at h3; cases h3
theorem rh_bad {c b : List UInt8} {x : UInt8} (h : (kv c).1 ≠ []) (_h2 : (kv c).1.dropWhile (· != 58) = x :: b) (h3 : (trim ((kv c).1.takeWhile (· != 58))).all keyb = false) : rh c = none := by
  rw [rh, dif_neg h]
  split
  · rfl
  · rw [if_neg (by rw [h3]; decide)]
theorem rh_skip {c b : List UInt8} {x : UInt8} (h : (kv c).1 ≠ []) (h2 : (kv c).1.dropWhile (· != 58) = x :: b) (h4 : trim ((kv c).1.takeWhile (· != 58)) = []) : rh c = rh (kv c).2 := by
  rw [rh, dif_neg h]
  split
  · rename_i h3; rw [h2] at h3; cases h3
  · rw [if_pos (by rw [h4]; rfl)]
    rw [h4]
    simp
theorem rh_more {c b : List UInt8} {x : UInt8} (h : (kv c).1 ≠ []) (h2 : (kv c).1.dropWhile (· != 58) = x :: b) (h3 : (trim ((kv c).1.takeWhile (· != 58))).all keyb = true) (h4 : trim ((kv c).1.takeWhile (· != 58)) ≠ []) :
    rh c = (rh (kv c).2).map fun r => (⟨canon (canon (trim ((kv c).1.takeWhile (· != 58)))), joins [] b, (kv c).1⟩ :: r.1, r.2) := by
  rw [rh, dif_neg h]
  split
  · rename_i h3; rw [h2] at h3; cases h3
  · rename_i b' h5
    rw [h2] at h5
    injection h5 with _ h5
    subst h5
    rw [if_pos h3]
    congr 1
    funext r
    rw [if_neg h4]

/-- The whole. -/
def rhd (c : List UInt8) : Option (List PF × List UInt8) := if spHead c then none else rh c

theorem colon_split (l : List UInt8) : l = l.takeWhile (· != 58) ++ l.dropWhile (· != 58) := (List.takeWhile_append_dropWhile (p := (· != 58)) (l := l)).symm
theorem colon_no (l : List UInt8) : (58 : UInt8) ∉ l.takeWhile (· != 58) := by
  induction l with
  | nil => simp
  | cons x l ih =>
    rw [List.takeWhile_cons]
    split
    · rename_i h
      simp only [List.mem_cons, not_or]
      exact ⟨fun e => by subst e; simp at h, ih⟩
    · simp
theorem colon_head {l b : List UInt8} {x : UInt8} (h : l.dropWhile (· != 58) = x :: b) : x = 58 := by
  induction l with
  | nil => simp at h
  | cons y l ih =>
    rw [List.dropWhile_cons] at h
    split at h
    · exact ih h
    · rename_i hy
      simp only [List.cons.injEq] at h
      rw [← h.1]
      simpa using hy
end Go.Proofs.YtjbbapodcngnaaaGreatDoor.Hdr
namespace Go.Proofs.YtjbbapodcngnaaaGreatDoor.Hdr

/-- What stands ahead of the colon. -/
def tillC (l : List UInt8) : List UInt8 := l.takeWhile (· != 58)
theorem tillC_len (l : List UInt8) : (tillC l).length ≤ l.length := List.Sublist.length_le (List.takeWhile_sublist _)
theorem tillC_take (l : List UInt8) : l.take (tillC l).length = tillC l := (List.prefix_iff_eq_take.1 (List.takeWhile_prefix _)).symm
theorem tillC_at {l : List UInt8} {j : Nat} (hj : j < l.length) (h : (58 : UInt8) ∉ l.take j) : (l[j] ≠ 58 → (58 : UInt8) ∉ l.take (j + 1)) ∧ (l[j] = 58 → (tillC l).length = j) := by
  constructor
  · intro hne
    rw [List.take_succ_eq_append_getElem hj]
    simp only [List.mem_append, List.mem_singleton, not_or]
    exact ⟨h, fun e => hne e.symm⟩
  · intro he
    have h1 : l = l.take j ++ 58 :: l.drop (j + 1) := by
      conv => lhs; rw [← List.take_append_drop j l, List.drop_eq_getElem_cons hj, he]
    have h2 : tillC l = l.take j := by
      unfold tillC
      conv => lhs; rw [h1]
      rw [List.takeWhile_append_of_pos (by
        intro x hx
        simp only [bne_iff_ne, ne_eq]
        rintro rfl
        exact h hx)]
      simp
    rw [h2, List.length_take]
    omega
theorem tillC_none {l : List UInt8} (h : (58 : UInt8) ∉ l) : tillC l = l := by
  induction l with
  | nil => rfl
  | cons x l ih =>
    simp only [List.mem_cons, not_or] at h
    unfold tillC at *
    rw [List.takeWhile_cons, if_pos (by simpa using fun e => h.1 e.symm), ih h.2]

/-- What fieldOf9 says of the lines: the bytes, the value. -/
def raws (ls : List (List UInt8)) : List UInt8 := ls.flatMap (· ++ [13, 10])
def vals1 (v s : List UInt8) : List UInt8 := if trim s = [] then v else if v = [] then trim s else v ++ 32 :: trim s
def vals (v : List UInt8) (ls : List (List UInt8)) : List UInt8 := ls.foldl vals1 v

theorem raws_append (a b : List (List UInt8)) : raws (a ++ b) = raws a ++ raws b := by simp [raws]
theorem raws_take (ls : List (List UInt8)) (j : Nat) (hj : j < ls.length) : raws (ls.take (j + 1)) = raws (ls.take j) ++ (ls[j] ++ [13, 10]) := by
  rw [List.take_succ_eq_append_getElem hj, raws_append]
  simp [raws]
theorem raws_le (ls : List (List UInt8)) (j : Nat) : (raws (ls.take j)).length ≤ (raws ls).length := by
  conv => rhs; rw [← List.take_append_drop j ls, raws_append, List.length_append]
  omega

theorem vals1_len (v s : List UInt8) : (vals1 v s).length ≤ v.length + (s.length + 2) := by
  have := trim_len s
  unfold vals1
  split
  · omega
  · split
    · omega
    · simp; omega
theorem vals_len (ls : List (List UInt8)) : ∀ v : List UInt8, (vals v ls).length ≤ v.length + (raws ls).length := by
  induction ls with
  | nil => intro v; simp [vals, raws]
  | cons s ls ih =>
    intro v
    have h1 := ih (vals1 v s)
    have h2 := vals1_len v s
    have h3 : (raws (s :: ls)).length = s.length + 2 + (raws ls).length := by simp [raws]; omega
    have h4 : vals v (s :: ls) = vals (vals1 v s) ls := rfl
    rw [h4, h3]
    omega

/-- What the lines so far come to. -/
structure HS where
  ls : List (List UInt8)
  bad : Bool
  fs : List PF
def okOf (l0 : List UInt8) : Bool := !decide ((tillC l0).length = l0.length) && (trim (tillC l0)).all keyb
def pfOf (l0 : List UInt8) (ls : List (List UInt8)) : PF := ⟨canon (trim (tillC l0)), vals [] (l0.drop ((tillC l0).length + 1) :: ls), raws (l0 :: ls)⟩
def put9 (s : HS) : HS :=
  match s.ls with
  | [] => s
  | l0 :: ls => ⟨[], s.bad || !okOf l0, if okOf l0 = true ∧ trim (tillC l0) ≠ [] then s.fs ++ [pfOf l0 ls] else s.fs⟩


/-- A line joins the lines so far. -/
def add9 (s : HS) (l : List UInt8) : HS :=
  if spHead l then ⟨s.ls ++ [l], s.bad, s.fs⟩ else ⟨(put9 s).ls ++ [l], (put9 s).bad, (put9 s).fs⟩

/-- The scan behind some lines; nothing where it is not sure. -/
def scan9 (s : HS) (c : List UInt8) : Option (HS × List UInt8) :=
  if _h : c = [] then some (s, []) else
  if (13 : UInt8) ∈ (line1 c).1 then none else
  if (line1 c).1 = [] then some (s, (line1 c).2) else
  scan9 (add9 s (line1 c).1) (line1 c).2
termination_by c.length
decreasing_by exact line1_lt _h

theorem scan9_nil (s : HS) : scan9 s [] = some (s, []) := by rw [scan9, dif_pos rfl]
theorem scan9_ret {s : HS} {c : List UInt8} (h : c ≠ []) (h2 : (13 : UInt8) ∈ (line1 c).1) : scan9 s c = none := by rw [scan9, dif_neg h, if_pos h2]
theorem scan9_end {s : HS} {c : List UInt8} (h : c ≠ []) (h2 : (line1 c).1 = []) : scan9 s c = some (s, (line1 c).2) := by rw [scan9, dif_neg h, if_neg (by rw [h2]; simp), if_pos h2]
theorem scan9_more {s : HS} {c : List UInt8} (h : c ≠ []) (h2 : (13 : UInt8) ∉ (line1 c).1) (h3 : (line1 c).1 ≠ []) : scan9 s c = scan9 (add9 s (line1 c).1) (line1 c).2 := by rw [scan9, dif_neg h, if_neg h2, if_neg h3]

/-- What the specification's reading answers. -/
structure H9 where
  fs : List PF
  taken : Nat
  ok : Bool
  sure : Bool
def h9 (c : List UInt8) : H9 :=
  if spHead c then ⟨[], 0, false, true⟩ else
  match scan9 ⟨[], false, []⟩ c with
  | none => ⟨[], 0, false, false⟩
  | some (s, r) => ⟨(put9 s).fs, c.length - r.length, !(put9 s).bad, true⟩
end Go.Proofs.YtjbbapodcngnaaaGreatDoor.Hdr
namespace Go.Proofs.YtjbbapodcngnaaaGreatDoor.Hdr

theorem put9_nil {s : HS} (h : s.ls = []) : put9 s = s := by unfold put9; rw [h]
theorem put9_ls (s : HS) : (put9 s).ls = [] := by
  unfold put9
  split
  · assumption
  · rfl
theorem put9_twice (s : HS) : put9 (put9 s) = put9 s := put9_nil (put9_ls s)

/-! ### The first line -/
theorem upto_cons {x : UInt8} {c : List UInt8} (h : x ≠ 10) : upto (x :: c) = x :: upto c := by
  unfold upto; rw [List.takeWhile_cons, if_pos (by simpa using h)]
theorem behind_cons {x : UInt8} {c : List UInt8} (h : x ≠ 10) : behind (x :: c) = behind c := by
  unfold behind; rw [List.dropWhile_cons, if_pos (by simpa using h)]
theorem upto_nl (c : List UInt8) : upto (10 :: c) = [] := by unfold upto; rw [List.takeWhile_cons, if_neg (by simp)]
theorem behind_nl (c : List UInt8) : behind (10 :: c) = 10 :: c := by unfold behind; rw [List.dropWhile_cons, if_neg (by simp)]
theorem chomp_mem {l : List UInt8} {x : UInt8} (h : x ∈ chomp l) : x ∈ l := by rw [chomp_take] at h; exact List.mem_of_mem_take h
theorem chomp_head (x : UInt8) (u : List UInt8) (h : chomp (x :: u) ≠ []) : spHead (chomp (x :: u)) = sp x := by
  have h2 := chomp_take (x :: u)
  cases hn : (chomp (x :: u)).length with
  | zero => exact absurd (List.length_eq_zero_iff.1 hn) h
  | succ n =>
    rw [hn] at h2
    rw [h2]
    rfl
theorem line1_head {c : List UInt8} (h : (line1 c).1 ≠ []) : spHead (line1 c).1 = spHead c := by
  cases c with
  | nil => rfl
  | cons x c =>
    by_cases hx : x = 10
    · subst hx
      exfalso
      apply h
      rw [line1_nl (behind_nl c), upto_nl]
      rfl
    · cases hb : behind (x :: c) with
      | nil => rw [line1_end hb]
      | cons y r =>
        rw [line1_nl hb, upto_cons hx] at h ⊢
        exact chomp_head x _ h
theorem line1_no (c : List UInt8) : (10 : UInt8) ∉ (line1 c).1 := by
  cases hb : behind c with
  | nil =>
    rw [line1_end hb]
    have h1 := upto_no c
    have h2 := split c
    rw [hb, List.append_nil] at h2
    rw [← h2] at h1
    exact h1
  | cons x r =>
    rw [line1_nl hb]
    exact fun h => upto_no c (chomp_mem h)
theorem line1_sp {c : List UInt8} (h : spHead c = true) : (line1 c).1 ≠ [] := by
  cases c with
  | nil => cases h
  | cons x c =>
    have hx : x ≠ 10 := by
      rintro rfl
      exact absurd h (by show ¬ sp 10 = true; decide)
    have hx2 : x ≠ 13 := by
      rintro rfl
      exact absurd h (by show ¬ sp 13 = true; decide)
    cases hb : behind (x :: c) with
    | nil => rw [line1_end hb]; simp
    | cons y r =>
      rw [line1_nl hb, upto_cons hx]
      intro hc
      change chomp (x :: upto c) = [] at hc
      unfold chomp at hc
      split at hc
      · rename_i hl
        cases hu : upto c with
        | nil => rw [hu] at hl; simp at hl; exact hx2 hl
        | cons z u => rw [hu] at hc; simp at hc
      · cases hc

/-! ### The lines that go on -/
def contsL (c : List UInt8) : List (List UInt8) :=
  if _h : spHead c = true then (line1 c).1 :: contsL (line1 c).2 else []
termination_by c.length
decreasing_by exact line1_lt (spHead_ne _h)
theorem contsL_yes {c : List UInt8} (h : spHead c = true) : contsL c = (line1 c).1 :: contsL (line1 c).2 := by rw [contsL, dif_pos h]
theorem contsL_no {c : List UInt8} (h : spHead c = false) : contsL c = [] := by rw [contsL, dif_neg (by rw [h]; decide)]
theorem raws_cons (l : List UInt8) (ls : List (List UInt8)) : raws (l :: ls) = l ++ 13 :: 10 :: raws ls := by simp [raws]

theorem contsL_all (c : List UInt8) : (conts c).1 = raws (contsL c) ∧ (∀ l ∈ contsL c, (10 : UInt8) ∉ l) ∧ spHead (conts c).2 = false := by
  induction hn : c.length using Nat.strongRecOn generalizing c with
  | _ n ih =>
    subst hn
    cases h : spHead c with
    | true =>
      obtain ⟨h1, h2, h3⟩ := ih _ (line1_lt (spHead_ne h)) (line1 c).2 rfl
      rw [conts_yes h, contsL_yes h]
      refine ⟨?_, ?_, h3⟩
      · show (line1 c).1 ++ [13, 10] ++ (conts (line1 c).2).1 = _
        rw [h1, raws_cons]
        simp
      · intro l hl
        rcases List.mem_cons.1 hl with rfl | hl
        · exact line1_no c
        · exact h2 l hl
    | false =>
      rw [conts_no h, contsL_no h]
      exact ⟨rfl, fun l hl => (by cases hl), h⟩

theorem scan9_conts (c : List UInt8) : ∀ s : HS, scan9 s c = none ∨ scan9 s c = scan9 ⟨s.ls ++ contsL c, s.bad, s.fs⟩ (conts c).2 := by
  induction hn : c.length using Nat.strongRecOn generalizing c with
  | _ n ih =>
    subst hn
    intro s
    cases h : spHead c with
    | true =>
      have hl := line1_sp h
      by_cases h13 : (13 : UInt8) ∈ (line1 c).1
      · exact .inl (scan9_ret (spHead_ne h) h13)
      · rw [scan9_more (spHead_ne h) h13 hl]
        have ha : add9 s (line1 c).1 = ⟨s.ls ++ [(line1 c).1], s.bad, s.fs⟩ := by
          unfold add9
          rw [line1_head hl, h, if_pos rfl]
        rw [ha]
        rcases ih _ (line1_lt (spHead_ne h)) (line1 c).2 rfl ⟨s.ls ++ [(line1 c).1], s.bad, s.fs⟩ with h1 | h1
        · exact .inl h1
        · right
          rw [h1, conts_yes h, contsL_yes h]
          simp
    | false =>
      right
      rw [conts_no h, contsL_no h, List.append_nil]

/-! ### A field at a time -/
/-- The scan with the last field put. -/
def fin (s : HS) (c : List UInt8) : Option (HS × List UInt8) := (scan9 s c).map fun r => (put9 r.1, r.2)

theorem fin_put (s : HS) {c : List UInt8} (h : spHead c = false) : fin s c = fin (put9 s) c := by
  unfold fin
  by_cases hc : c = []
  · subst hc
    rw [scan9_nil, scan9_nil]
    simp [put9_twice]
  by_cases h13 : (13 : UInt8) ∈ (line1 c).1
  · rw [scan9_ret hc h13, scan9_ret hc h13]
  by_cases hl : (line1 c).1 = []
  · rw [scan9_end hc hl, scan9_end hc hl]
    simp [put9_twice]
  · rw [scan9_more hc h13 hl, scan9_more hc h13 hl]
    have : add9 s (line1 c).1 = add9 (put9 s) (line1 c).1 := by
      unfold add9
      rw [line1_head hl, h, put9_twice]
      simp
    rw [this]

theorem fin_step (b : Bool) (f : List PF) {c : List UInt8} (hsp : spHead c = false) :
    ((kv c).1 = [] ∧ fin ⟨[], b, f⟩ c = some (⟨[], b, f⟩, (kv c).2)) ∨ fin ⟨[], b, f⟩ c = none ∨
    ∃ l0 ls, (10 : UInt8) ∉ l0 ∧ (∀ l ∈ ls, (10 : UInt8) ∉ l) ∧ (kv c).1 = raws (l0 :: ls) ∧ fin ⟨[], b, f⟩ c = fin (put9 ⟨l0 :: ls, b, f⟩) (kv c).2 ∧ spHead (kv c).2 = false ∧ (kv c).2.length < c.length := by
  by_cases hc : c = []
  · subst hc
    left
    rw [kv_nil]
    exact ⟨rfl, by unfold fin; rw [scan9_nil]; rfl⟩
  by_cases h13 : (13 : UInt8) ∈ (line1 c).1
  · right; left
    unfold fin
    rw [scan9_ret hc h13]
    rfl
  by_cases hl : (line1 c).1 = []
  · left
    unfold fin kv
    rw [scan9_end hc hl, if_pos hl]
    exact ⟨rfl, rfl⟩
  · right
    have ha : add9 ⟨[], b, f⟩ (line1 c).1 = ⟨[(line1 c).1], b, f⟩ := by
      unfold add9
      rw [line1_head hl, hsp]
      rfl
    have hf : fin ⟨[], b, f⟩ c = fin ⟨[(line1 c).1], b, f⟩ (line1 c).2 := by
      unfold fin
      rw [scan9_more hc h13 hl, ha]
    obtain ⟨c1, c2, c3⟩ := contsL_all (line1 c).2
    have hk : kv c = ((line1 c).1 ++ [13, 10] ++ (conts (line1 c).2).1, (conts (line1 c).2).2) := by unfold kv; rw [if_neg hl]
    rcases scan9_conts (line1 c).2 ⟨[(line1 c).1], b, f⟩ with h1 | h1
    · left
      rw [hf]
      unfold fin
      rw [h1]
      rfl
    · right
      refine ⟨(line1 c).1, contsL (line1 c).2, line1_no c, c2, ?_, ?_, ?_, kv_lt ?_⟩
      · rw [hk, raws_cons]
        show (line1 c).1 ++ [13, 10] ++ (conts (line1 c).2).1 = _
        rw [c1]
        simp
      · rw [hf, hk]
        show _ = fin (put9 ⟨(line1 c).1 :: contsL (line1 c).2, b, f⟩) (conts (line1 c).2).2
        rw [← fin_put _ c3]
        unfold fin
        rw [h1]
        rfl
      · rw [hk]; exact c3
      · rw [hk]; simp

/-! ### What a field says -/
theorem mem_dropWhile {p : UInt8 → Bool} {x : UInt8} {l : List UInt8} (hx : x ∈ l) (hs : p x = false) : x ∈ l.dropWhile p := by
  induction l with
  | nil => cases hx
  | cons y l ih =>
    rw [List.dropWhile_cons]
    split
    · rename_i hy
      rcases List.mem_cons.1 hx with rfl | h
      · rw [hs] at hy; cases hy
      · exact ih h
    · exact hx
theorem mem_trim {x : UInt8} {l : List UInt8} (hx : x ∈ l) (hs : sp x = false) : x ∈ trim l := by
  unfold trim trimR trimL
  rw [List.mem_reverse]
  exact mem_dropWhile (List.mem_reverse.2 (mem_dropWhile hx hs)) hs

theorem nl_upto {m : List UInt8} (h : (10 : UInt8) ∉ m) (r : List UInt8) : upto (m ++ 10 :: r) = m ∧ behind (m ++ 10 :: r) = 10 :: r := by
  have hp : ∀ x ∈ m, (x != 10) = true := fun x hx => by
    simp only [bne_iff_ne, ne_eq]
    rintro rfl
    exact h hx
  constructor
  · have h2 := upto_nl r
    unfold upto at *
    rw [List.takeWhile_append_of_pos hp, h2, List.append_nil]
  · have h2 := behind_nl r
    unfold behind at *
    rw [List.dropWhile_append_of_pos hp, h2]

theorem joins_raws : ∀ (ls : List (List UInt8)) (a : List UInt8), (∀ l ∈ ls, (10 : UInt8) ∉ l) → joins a (raws ls) = vals a ls
  | [], a, _ => by
    rw [show raws [] = [] from rfl, joins_end rfl, join_nil rfl]
    rfl
  | l :: ls, a, h => by
    have hl : (10 : UInt8) ∉ l ++ [13] := by
      simp only [List.mem_append, List.mem_singleton, not_or]
      exact ⟨h l (List.mem_cons_self ..), by decide⟩
    have e : raws (l :: ls) = (l ++ [13]) ++ 10 :: raws ls := by rw [raws_cons]; simp
    obtain ⟨h1, h2⟩ := nl_upto hl (raws ls)
    have hb : bare (l ++ [13]) = trim l := by unfold bare; rw [chomp_snoc, if_pos rfl]
    have hj : join a (l ++ [13]) = vals1 a l := by unfold join vals1; rw [hb]
    rw [e, joins_nl h2, h1, hj, joins_raws ls _ (fun x hx => h x (List.mem_cons_of_mem _ hx))]
    rfl

/-! ### Keys in canonical form stay -/
theorem cased_nat (up : Bool) (c : UInt8) : (cased up c).toNat = if up = true ∧ 97 ≤ c.toNat ∧ c.toNat ≤ 122 then c.toNat - 32 else if up = false ∧ 65 ≤ c.toNat ∧ c.toNat ≤ 90 then c.toNat + 32 else c.toNat := by
  have := c.toNat_lt
  unfold cased
  split
  · rw [UInt8.toNat_add, UInt8.toNat_sub]
    simp only [UInt8.reduceToNat]
    omega
  · split
    · rw [UInt8.toNat_add, UInt8.toNat_sub]
      simp only [UInt8.reduceToNat]
      omega
    · rfl
theorem cased_cases (up : Bool) (c : UInt8) : (up = true ∧ 97 ≤ c.toNat ∧ c.toNat ≤ 122 ∧ (cased up c).toNat = c.toNat - 32) ∨ (up = false ∧ 65 ≤ c.toNat ∧ c.toNat ≤ 90 ∧ (cased up c).toNat = c.toNat + 32) ∨
    ((up = true → ¬ (97 ≤ c.toNat ∧ c.toNat ≤ 122)) ∧ (up = false → ¬ (65 ≤ c.toNat ∧ c.toNat ≤ 90)) ∧ (cased up c).toNat = c.toNat) := by
  rw [cased_nat]
  by_cases h1 : up = true ∧ 97 ≤ c.toNat ∧ c.toNat ≤ 122
  · rw [if_pos h1]
    exact .inl ⟨h1.1, h1.2.1, h1.2.2, rfl⟩
  · rw [if_neg h1]
    by_cases h2 : up = false ∧ 65 ≤ c.toNat ∧ c.toNat ≤ 90
    · rw [if_pos h2]
      exact .inr (.inl ⟨h2.1, h2.2.1, h2.2.2, rfl⟩)
    · rw [if_neg h2]
      exact .inr (.inr ⟨fun h h3 => h1 ⟨h, h3⟩, fun h h3 => h2 ⟨h, h3⟩, rfl⟩)
theorem cased_cased (up : Bool) (c : UInt8) : cased up (cased up c) = cased up c := by
  apply UInt8.toNat.inj
  have h1 := cased_cases up c
  have h2 := cased_cases up (cased up c)
  cases up
  · simp only [Bool.false_eq_true, false_and, false_or, false_implies, true_and, forall_const] at h1 h2
    omega
  · simp only [Bool.true_eq_false, false_and, false_or, false_implies, true_and, forall_const] at h1 h2
    omega
theorem eq45 (c : UInt8) : (c == 45) = decide (c.toNat = 45) := by
  rw [Bool.eq_iff_iff]
  simp only [beq_iff_eq, decide_eq_true_eq]
  exact ⟨fun h => by rw [h]; rfl, fun h => UInt8.toNat.inj h⟩
theorem cased_dash (up : Bool) (c : UInt8) : (cased up c == 45) = (c == 45) := by
  rw [eq45, eq45, Bool.eq_iff_iff]
  simp only [decide_eq_true_eq]
  have h1 := cased_cases up c
  omega
theorem tok_cased (up : Bool) (c : UInt8) : tok (cased up c) = tok c := by
  unfold tok
  rw [Bool.eq_iff_iff]
  simp only [decide_eq_true_eq]
  have h1 := cased_cases up c
  generalize (cased up c).toNat = m at *
  generalize c.toNat = n at *
  unfold tokN signN
  rcases h1 with h | h | h
  · omega
  · omega
  · rw [h.2.2]
theorem canonGo_twice : ∀ (l : List UInt8) (up : Bool), canonGo up (canonGo up l) = canonGo up l
  | [], _ => rfl
  | c :: l, up => by
    show cased up (cased up c) :: canonGo (cased up c == 45) (canonGo (c == 45) l) = cased up c :: canonGo (c == 45) l
    rw [cased_cased, cased_dash, canonGo_twice l]
theorem canonGo_tok : ∀ (l : List UInt8) (up : Bool), (canonGo up l).all tok = l.all tok
  | [], _ => rfl
  | c :: l, up => by
    show (tok (cased up c) && (canonGo (c == 45) l).all tok) = (tok c && l.all tok)
    rw [tok_cased, canonGo_tok l]
theorem canon_canon (l : List UInt8) : canon (canon l) = canon l := by
  by_cases h : l.all tok = true
  · have e : canon l = canonGo true l := by unfold canon; rw [if_pos h]
    rw [e]
    unfold canon
    rw [canonGo_tok, if_pos h, canonGo_twice]
  · have e : canon l = l := by unfold canon; rw [if_neg h]
    rw [e, e]

/-! ### A field, in both -/
theorem drop_ahead {a d l : List UInt8} (h : l = a ++ 58 :: d) : l.drop (a.length + 1) = d := by
  subst h
  rw [show a.length + 1 = (a ++ [58]).length by simp, show a ++ 58 :: d = (a ++ [58]) ++ d by simp, List.drop_left]

theorem field_rh (l0 : List UInt8) (ls : List (List UInt8)) (c : List UInt8) (hkv : (kv c).1 = raws (l0 :: ls)) (h0 : (10 : UInt8) ∉ l0) (hls : ∀ l ∈ ls, (10 : UInt8) ∉ l) :
    (okOf l0 = false → rh c = none) ∧ (okOf l0 = true → trim (tillC l0) = [] → rh c = rh (kv c).2) ∧
    (okOf l0 = true → trim (tillC l0) ≠ [] → rh c = (rh (kv c).2).map fun r => (pfOf l0 ls :: r.1, r.2)) := by
  have hne : (kv c).1 ≠ [] := by rw [hkv, raws_cons]; simp
  have hno := colon_no l0
  by_cases hcol : (58 : UInt8) ∈ l0
  · obtain ⟨d, hd⟩ : ∃ d, l0 = tillC l0 ++ 58 :: d := by
      have h1 := colon_split l0
      cases hd : l0.dropWhile (· != 58) with
      | nil =>
        rw [hd, List.append_nil] at h1
        rw [← h1] at hno
        exact absurd hcol hno
      | cons x d =>
        have := colon_head hd
        subst this
        rw [hd] at h1
        exact ⟨d, h1⟩
    have hdrop := drop_ahead hd
    have hp : ∀ x ∈ tillC l0, (x != 58) = true := fun x hx => by
      simp only [bne_iff_ne, ne_eq]
      rintro rfl
      exact hno hx
    have hk : (kv c).1 = tillC l0 ++ 58 :: raws (d :: ls) := by
      rw [hkv, raws_cons, raws_cons]
      conv => lhs; rw [hd]
      simp
    have ht : (kv c).1.takeWhile (· != 58) = tillC l0 := by
      rw [hk, List.takeWhile_append_of_pos hp, List.takeWhile_cons, if_neg (by simp), List.append_nil]
    have hdw : (kv c).1.dropWhile (· != 58) = 58 :: raws (d :: ls) := by
      rw [hk, List.dropWhile_append_of_pos hp, List.dropWhile_cons, if_neg (by simp)]
    have hal : (tillC l0).length ≠ l0.length := by
      have := congrArg List.length hd
      simp at this
      omega
    have hok : okOf l0 = (trim (tillC l0)).all keyb := by unfold okOf; rw [decide_eq_false hal]; rfl
    have hdl : ∀ l ∈ d :: ls, (10 : UInt8) ∉ l := by
      intro l hl
      rcases List.mem_cons.1 hl with rfl | hl
      · intro h
        apply h0
        rw [hd]
        simp [h]
      · exact hls l hl
    refine ⟨fun h => ?_, fun _ h => ?_, fun h1 h2 => ?_⟩
    · exact rh_bad hne hdw (by rw [ht, ← hok, h])
    · exact rh_skip hne hdw (by rw [ht, h])
    · rw [rh_more hne hdw (by rw [ht, ← hok, h1]) (by rw [ht]; exact h2), ht, joins_raws _ _ hdl, canon_canon, hkv]
      unfold pfOf
      rw [hdrop]
  · have ha := tillC_none hcol
    have hok : okOf l0 = false := by unfold okOf; rw [ha, decide_eq_true rfl]; rfl
    refine ⟨fun _ => ?_, fun h => (by rw [hok] at h; cases h), fun h => (by rw [hok] at h; cases h)⟩
    cases hdw : (kv c).1.dropWhile (· != 58) with
    | nil => exact rh_no hne hdw
    | cons x b =>
      refine rh_bad hne hdw ?_
      have hp : ∀ x ∈ l0, (x != 58) = true := fun x hx => by
        simp only [bne_iff_ne, ne_eq]
        rintro rfl
        exact hcol hx
      have hm : (13 : UInt8) ∈ (kv c).1.takeWhile (· != 58) := by
        rw [hkv, raws_cons, List.takeWhile_append_of_pos hp, List.takeWhile_cons, if_pos (by decide)]
        simp
      have hm2 := mem_trim hm (by decide)
      cases hq : (trim ((kv c).1.takeWhile (· != 58))).all keyb with
      | false => rfl
      | true =>
        rw [List.all_eq_true] at hq
        exact absurd (hq _ hm2) (by decide)

/-! ### The whole -/
theorem fin_bad (c : List UInt8) : spHead c = false → ∀ f s' r, fin ⟨[], true, f⟩ c = some (s', r) → s'.bad = true := by
  induction hn : c.length using Nat.strongRecOn generalizing c with
  | _ n ih =>
    subst hn
    intro hsp f s' r h
    rcases fin_step true f hsp with ⟨_, h2⟩ | h2 | ⟨l0, ls, _, _, _, h5, h6, h7⟩
    · rw [h2] at h
      cases h
      rfl
    · rw [h2] at h; cases h
    · rw [h5] at h
      exact ih _ h7 _ rfl h6 _ _ _ h

theorem fin_rh (c : List UInt8) : spHead c = false → ∀ b f s' r, fin ⟨[], b, f⟩ c = some (s', r) → (rh c = none → s'.bad = true) ∧ (∀ ps r', rh c = some (ps, r') → r' = r ∧ s'.fs = f ++ ps ∧ s'.bad = b) := by
  induction hn : c.length using Nat.strongRecOn generalizing c with
  | _ n ih =>
    subst hn
    intro hsp b f s' r h
    rcases fin_step b f hsp with ⟨h1, h2⟩ | h2 | ⟨l0, ls, h1, h2, h3, h5, h6, h7⟩
    · rw [h2] at h
      cases h
      rw [rh_end h1]
      refine ⟨fun h => (by cases h), fun ps r' h => ?_⟩
      cases h
      exact ⟨rfl, by simp, rfl⟩
    · rw [h2] at h; cases h
    · rw [h5] at h
      obtain ⟨f1, f2, f3⟩ := field_rh l0 ls c h3 h1 h2
      have hput : put9 ⟨l0 :: ls, b, f⟩ = ⟨[], b || !okOf l0, if okOf l0 = true ∧ trim (tillC l0) ≠ [] then f ++ [pfOf l0 ls] else f⟩ := rfl
      rw [hput] at h
      cases hok : okOf l0 with
      | false =>
        rw [hok] at h
        have hb := fin_bad _ h6 _ _ _ (by simpa using h)
        rw [f1 hok]
        exact ⟨fun _ => hb, fun ps r' h => (by cases h)⟩
      | true =>
        rw [hok] at h
        by_cases ht : trim (tillC l0) = []
        · simp only [ht, ne_eq, not_true_eq_false, and_false, if_false, Bool.not_true, Bool.or_false] at h
          rw [f2 hok ht]
          exact ih _ h7 _ rfl h6 b f s' r h
        · simp only [ht, ne_eq, not_false_eq_true, and_true, if_true, Bool.not_true, Bool.or_false] at h
          obtain ⟨g1, g2⟩ := ih _ h7 _ rfl h6 b _ s' r h
          rw [f3 hok ht]
          refine ⟨fun hq => g1 ?_, fun ps r' hq => ?_⟩
          · cases hr : rh (kv c).2 with
            | none => rfl
            | some x => rw [hr] at hq; cases hq
          · cases hr : rh (kv c).2 with
            | none => rw [hr] at hq; cases hq
            | some x =>
              obtain ⟨ps2, r2⟩ := x
              rw [hr] at hq
              simp only [Option.map_some, Option.some.injEq, Prod.mk.injEq] at hq
              obtain ⟨rfl, rfl⟩ := hq
              obtain ⟨k1, k2, k3⟩ := g2 _ _ hr
              exact ⟨k1, by rw [k2]; simp, k3⟩

/-- Where the specification is sure, the program answers the same. -/
theorem h9_rhd (c : List UInt8) (h : (h9 c).sure = true) : (rhd c = none → (h9 c).ok = false) ∧ (∀ ps r, rhd c = some (ps, r) → (h9 c).ok = true ∧ (h9 c).fs = ps ∧ (h9 c).taken = c.length - r.length) := by
  unfold rhd
  cases hsp : spHead c with
  | true =>
    rw [if_pos rfl]
    unfold h9
    rw [hsp, if_pos rfl]
    exact ⟨fun _ => rfl, fun ps r h => (by cases h)⟩
  | false =>
    rw [if_neg (by decide)]
    unfold h9 at h ⊢
    rw [hsp, if_neg (by decide)] at h
    rw [hsp, if_neg (by decide)]
    cases hs : scan9 ⟨[], false, []⟩ c with
    | none => rw [hs] at h; cases h
    | some x =>
      obtain ⟨s, r⟩ := x
      have hf : fin ⟨[], false, []⟩ c = some (put9 s, r) := by unfold fin; rw [hs]; rfl
      obtain ⟨g1, g2⟩ := fin_rh c hsp _ _ _ _ hf
      refine ⟨fun h => ?_, fun ps r' h => ?_⟩
      · show (!(put9 s).bad) = false
        rw [g1 h]; rfl
      · obtain ⟨rfl, k2, k3⟩ := g2 ps r' h
        refine ⟨?_, ?_, rfl⟩
        · show (!(put9 s).bad) = true
          rw [k3]; rfl
        · show (put9 s).fs = ps
          rw [k2]; rfl

theorem rh_len (c : List UInt8) : ∀ ps r, rh c = some (ps, r) → ps.length + r.length ≤ c.length := by
  induction hn : c.length using Nat.strongRecOn generalizing c with
  | _ n ih =>
    subst hn
    intro ps r h
    by_cases hk : (kv c).1 = []
    · rw [rh_end hk] at h
      cases h
      have := (kv_len c).2
      simpa using this
    · have hlt := kv_lt hk
      cases hd : (kv c).1.dropWhile (· != 58) with
      | nil => rw [rh_no hk hd] at h; cases h
      | cons x b =>
        cases ha : (trim ((kv c).1.takeWhile (· != 58))).all keyb with
        | false => rw [rh_bad hk hd ha] at h; cases h
        | true =>
          by_cases ht : trim ((kv c).1.takeWhile (· != 58)) = []
          · rw [rh_skip hk hd ht] at h
            have := ih _ hlt _ rfl ps r h
            omega
          · rw [rh_more hk hd ha ht] at h
            cases hr : rh (kv c).2 with
            | none => rw [hr] at h; cases h
            | some y =>
              obtain ⟨ps2, r2⟩ := y
              rw [hr] at h
              simp only [Option.map_some, Option.some.injEq, Prod.mk.injEq] at h
              obtain ⟨rfl, rfl⟩ := h
              have := ih _ hlt _ rfl ps2 r2 hr
              simp only [List.length_cons]
              omega
theorem rhd_len {c : List UInt8} {ps : List PF} {r : List UInt8} (h : rhd c = some (ps, r)) : ps.length + r.length ≤ c.length := by
  unfold rhd at h
  split at h
  · cases h
  · exact rh_len c ps r h
theorem short_of_len {c : List UInt8} (h : c.length ≤ 4000) : Short c := by
  intro b hb
  have h1 := List.IsSuffix.length_le hb
  have h2 := congrArg List.length (split b)
  simp at h2
  omega

/-- 'A: b', and the empty line. -/
theorem rhd_ab : ∃ ps, rhd [65, 58, 32, 98, 13, 10, 13, 10] = some (ps, []) := by
  have k1 : kv [65, 58, 32, 98, 13, 10, 13, 10] = ([65, 58, 32, 98, 13, 10], [13, 10]) := by
    have h : line1 [65, 58, 32, 98, 13, 10, 13, 10] = ([65, 58, 32, 98], [13, 10]) := by decide
    unfold kv
    rw [h]
    simp only
    rw [conts_no (by decide)]
    rfl
  have k2 : kv [13, 10] = ([], []) := by
    have h : line1 [13, 10] = ([], []) := by decide
    unfold kv
    rw [h]
    rfl
  unfold rhd
  rw [if_neg (by decide), rh_more (x := 58) (b := [32, 98, 13, 10]) (by rw [k1]; decide) (by rw [k1]; decide) (by rw [k1]; decide) (by rw [k1]; decide), k1]
  simp only
  rw [rh_end (by rw [k2]), k2]
  exact ⟨_, rfl⟩
end Go.Proofs.YtjbbapodcngnaaaGreatDoor.Hdr
namespace Go.Proofs.YtjbbapodcngnaaaGreatDoor.Hdr

/-- The last blank ahead of place n. -/
def lastBl (v : List UInt8) : Nat → Option Nat
  | 0 => none
  | n + 1 => if sp (v.getD n 0) then some n else lastBl v n
theorem lastBl_some {v : List UInt8} : ∀ {n k : Nat}, lastBl v n = some k → k < n ∧ sp (v.getD k 0) = true
  | n + 1, k, h => by
    unfold lastBl at h
    split at h
    · rename_i hs
      cases h
      exact ⟨by omega, hs⟩
    · have := lastBl_some h
      exact ⟨by omega, this.2⟩
theorem lastBl_none {v : List UInt8} : ∀ {n : Nat}, lastBl v n = none → ∀ j, j < n → sp (v.getD j 0) = false
  | n + 1, h, j, hj => by
    unfold lastBl at h
    split at h
    · cases h
    · rename_i hs
      by_cases hjn : j = n
      · subst hjn; simpa using hs
      · exact lastBl_none h j (by omega)
theorem lastBl_above {v : List UInt8} : ∀ {n k : Nat}, lastBl v n = some k → ∀ j, k < j → j < n → sp (v.getD j 0) = false
  | n + 1, k, h, j, hkj, hj => by
    unfold lastBl at h
    split at h
    · cases h; omega
    · rename_i hs
      by_cases hjn : j = n
      · subst hjn; simpa using hs
      · exact lastBl_above h j hkj (by omega)

/-- The line that a value begins with in a room, and the rest. -/
def brk (v : List UInt8) (room : Nat) : Option (List UInt8 × List UInt8) :=
  if v.length ≤ room then some (v, []) else
  match lastBl v (room + 1) with
  | some (k + 1) => some (v.take (k + 1), v.drop (k + 1))
  | _ => none
/-- Where a value is cut that has no blank to break ahead of. -/
def cutN (v : List UInt8) (room : Nat) : Nat := if spHead v then room else room - 1
/-- A piece of a folded value, with its line end, and the rest. -/
def piece (ahead : Nat) (v : List UInt8) : List UInt8 × List UInt8 :=
  match brk v (76 - ahead) with
  | some (a, b) => (a ++ [13, 10], b)
  | none =>
    match brk v (998 - ahead) with
    | some (a, b) => (a ++ [13, 10], b)
    | none => (v.take (cutN v (998 - ahead)) ++ [13, 10, 32], v.drop (cutN v (998 - ahead)))

theorem brk_lt {v a b : List UInt8} {room : Nat} (hv : v ≠ []) (h : brk v room = some (a, b)) : b.length < v.length := by
  have := List.length_pos_iff.2 hv
  unfold brk at h
  split at h
  · cases h; simpa using this
  · split at h
    · cases h
      simp
      omega
    · cases h
theorem brk_none {v : List UInt8} {room : Nat} (h : brk v room = none) : room < v.length := by
  unfold brk at h
  split at h
  · cases h
  · omega
theorem piece_lt {ahead : Nat} {v : List UInt8} (hv : v ≠ []) (ha : ahead ≤ 990) : (piece ahead v).2.length < v.length := by
  unfold piece
  cases h1 : brk v (76 - ahead) with
  | some x => exact brk_lt hv h1
  | none =>
    cases h2 : brk v (998 - ahead) with
    | some x => exact brk_lt hv h2
    | none =>
      have := brk_none h2
      simp only [List.length_drop]
      unfold cutN
      split <;> omega

/-- A value, folded. -/
def foldGo (ahead : Nat) (v : List UInt8) : List UInt8 :=
  if _h : v ≠ [] ∧ ahead ≤ 990 then (piece ahead v).1 ++ foldGo 0 (piece ahead v).2 else []
termination_by v.length
decreasing_by exact piece_lt _h.1 _h.2
theorem foldGo_nil (ahead : Nat) : foldGo ahead [] = [] := by rw [foldGo, dif_neg (by simp)]
theorem foldGo_cons {ahead : Nat} {v : List UInt8} (hv : v ≠ []) (ha : ahead ≤ 990) : foldGo ahead v = (piece ahead v).1 ++ foldGo 0 (piece ahead v).2 := by rw [foldGo, dif_pos ⟨hv, ha⟩]

/-- A field as it is written. -/
def fold (k v : List UInt8) : List UInt8 := k ++ [58, 32] ++ (if v = [] then [13, 10] else foldGo (k.length + 2) v)

theorem piece_len (ahead : Nat) (v : List UInt8) : (piece ahead v).1.length + (piece ahead v).2.length ≤ v.length + 3 := by
  have hb : ∀ room a b, brk v room = some (a, b) → a.length + b.length ≤ v.length := fun room a b h => by
    unfold brk at h
    split at h
    · cases h; simp
    · split at h
      · cases h; simp; omega
      · cases h
  unfold piece
  cases h1 : brk v (76 - ahead) with
  | some x =>
    have := hb _ _ _ h1
    simp
    omega
  | none =>
    cases h2 : brk v (998 - ahead) with
    | some x =>
      have := hb _ _ _ h2
      simp
      omega
    | none => simp; omega
theorem foldGo_len (v : List UInt8) : ∀ ahead, (foldGo ahead v).length ≤ 4 * v.length := by
  induction hn : v.length using Nat.strongRecOn generalizing v with
  | _ n ih =>
    subst hn
    intro ahead
    by_cases h : v ≠ [] ∧ ahead ≤ 990
    · rw [foldGo_cons h.1 h.2]
      have h1 := piece_lt h.1 h.2
      have h2 := piece_len ahead v
      have h3 := ih _ h1 _ rfl 0
      simp
      omega
    · rw [foldGo, dif_neg h]
      simp
theorem fold_len (k v : List UInt8) : (fold k v).length ≤ k.length + 4 * v.length + 4 := by
  have := foldGo_len v (k.length + 2)
  unfold fold
  split <;> simp <;> omega

theorem piece_no {x : UInt8} {ahead : Nat} {v : List UInt8} (h : x ∉ v) : x ∉ (piece ahead v).2 := by
  have hb : ∀ room a b, brk v room = some (a, b) → x ∉ b := fun room a b hh => by
    unfold brk at hh
    split at hh
    · cases hh; simp
    · split at hh
      · cases hh
        exact fun hx => h (List.mem_of_mem_drop hx)
      · cases hh
  unfold piece
  cases h1 : brk v (76 - ahead) with
  | some y => exact hb _ _ _ h1
  | none =>
    cases h2 : brk v (998 - ahead) with
    | some y => exact hb _ _ _ h2
    | none => exact fun hx => h (List.mem_of_mem_drop hx)
end Go.Proofs.YtjbbapodcngnaaaGreatDoor.Hdr
namespace Go.Proofs.YtjbbapodcngnaaaGreatDoor
open Go.RowKit

/-- Behind w' all blocks of w stand as they stood, but for those in S; the streams are as they were. -/
structure Keeps (S : Nat → Prop) (w w' : World) : Prop where
  os : w'.os = w.os
  tape : w'.tape = w.tape
  output : w'.output = w.output
  size : w.heap.size ≤ w'.heap.size
  block : ∀ k, k < w.heap.size → ¬ S k → w'.heap[k]? = w.heap[k]?

/-- No block. -/
def No : Nat → Prop := fun _ => False
/-- These blocks. -/
def In (l : List Nat) : Nat → Prop := fun k => k ∈ l

theorem Keeps.refl (S : Nat → Prop) (w : World) : Keeps S w w := ⟨rfl, rfl, rfl, Nat.le_refl _, fun _ _ _ => rfl⟩
theorem Keeps.trans {S T : Nat → Prop} {a b c : World} (h : Keeps S a b) (k : Keeps T b c) (hT : ∀ i, i < a.heap.size → T i → S i) : Keeps S a c :=
  ⟨k.os.trans h.os, k.tape.trans h.tape, k.output.trans h.output, Nat.le_trans h.size k.size,
    fun i hi hS => (k.block i (Nat.lt_of_lt_of_le hi h.size) (fun ht => hS (hT i hi ht))).trans (h.block i hi hS)⟩
theorem Keeps.trans' {S : Nat → Prop} {a b c : World} (h : Keeps S a b) (k : Keeps S b c) : Keeps S a c := h.trans k (fun _ _ h => h)
theorem Keeps.mono {S T : Nat → Prop} {a b : World} (h : Keeps S a b) (hT : ∀ i, i < a.heap.size → S i → T i) : Keeps T a b :=
  ⟨h.os, h.tape, h.output, h.size, fun i hi ht => h.block i hi (fun hs => ht (hT i hi hs))⟩
theorem Keeps.of_no {T : Nat → Prop} {a b : World} (h : Keeps No a b) : Keeps T a b := h.mono (fun _ _ h => h.elim)
theorem Keeps.trans_no {S : Nat → Prop} {a b c : World} (h : Keeps S a b) (k : Keeps No b c) : Keeps S a c := h.trans k (fun _ _ h => h.elim)
theorem Keeps.drew {S : Nat → Prop} {a b : World} (h : Keeps S a b) : Keeps S a b.drew := ⟨h.os, h.tape, h.output, h.size, h.block⟩
theorem Keeps.drewN {S : Nat → Prop} {a b : World} (h : Keeps S a b) (n : Nat) : Keeps S a (b.drewN n) := ⟨h.os, h.tape, h.output, h.size, h.block⟩
theorem Keeps.drewN_left {S : Nat → Prop} {a b : World} {n : Nat} (h : Keeps S (a.drewN n) b) : Keeps S a b := ⟨h.os, h.tape, h.output, h.size, h.block⟩
theorem Keeps.alloc {S : Nat → Prop} {a b : World} (h : Keeps S a b) (o : Obj) : Keeps S a (b.alloc o) :=
  ⟨h.os, h.tape, h.output, by have := h.size; simp; omega, fun i hi hS => (Below.heap_alloc b o i (Nat.lt_of_lt_of_le hi h.size)).trans (h.block i hi hS)⟩
theorem Keeps.setCell {S : Nat → Prop} {a b : World} (h : Keeps S a b) {p : Addr} (hp : S p.block ∨ a.heap.size ≤ p.block) (u : Value) : Keeps S a (b.setCell p u) :=
  ⟨h.os, h.tape, h.output, by have := h.size; simpa using this, fun i hi hS => (Below.heap_setCell b p u i (fun e => by subst e; rcases hp with h | h; exact hS h; omega)).trans (h.block i hi hS)⟩
theorem Keeps.setRow {S : Nat → Prop} {a b : World} (h : Keeps S a b) {g : Nat} (hp : S g ∨ a.heap.size ≤ g) (cs : Array Value) : Keeps S a (b.setRow g cs) :=
  ⟨h.os, h.tape, h.output, by have := h.size; simpa using this, fun i hi hS => (setRow_other b g i cs (fun e => by subst e; rcases hp with h | h; exact hS h; omega)).trans (h.block i hi hS)⟩
theorem Keeps.grown {S : Nat → Prop} {a b c : World} {row : Option Nat} (h : Keeps S a b) (hg : b.grownBy c row) (hr : ∀ k, row = some k → S k ∨ a.heap.size ≤ k) : Keeps S a c :=
  ⟨hg.os.trans h.os, hg.tape.trans h.tape, hg.output.trans h.output, Nat.le_trans h.size hg.size,
    fun i hi hS => (hg.block i (Nat.lt_of_lt_of_le hi h.size) (fun e => by rcases hr i e.symm with h | h; exact hS h; omega)).trans (h.block i hi hS)⟩
theorem Keeps.row_one (w : World) (g : Nat) (cs : Array Value) : Keeps (In [g]) w (w.setRow g cs) := (Keeps.refl _ w).setRow (.inl (List.mem_singleton.2 rfl)) cs
theorem Keeps.cell_one (w : World) (p : Addr) (v : Value) : Keeps (In [p.block]) w (w.setCell p v) := (Keeps.refl _ w).setCell (.inl (List.mem_singleton.2 rfl)) v
theorem Keeps.of_below {S : Nat → Prop} {a b : World} (h : Below a.heap.size a b) : Keeps S a b := ⟨h.os, h.tape, h.output, h.size, fun k hk _ => h.block k hk⟩
theorem Keeps.below {a b : World} (h : Keeps No a b) : Below a.heap.size a b := ⟨h.os, h.tape, h.output, h.size, fun k hk => h.block k hk (fun h => h)⟩
theorem Keeps.cell {S : Nat → Prop} {a b : World} (h : Keeps S a b) {p : Addr} {v : Value} (hc : a.cell? p = some v) (hS : ¬ S p.block) : b.cell? p = some v :=
  (World.cell?_of_block (h.block p.block (World.block_lt_of_cell? a p hc) hS)).trans hc

/-- Block b holds these cells, of this type, and nothing of it is frozen. -/
def Blk (w : World) (b : Nat) (cs : List Value) (t : TypeId) : Prop := w.heap[b]? = some (.cells cs.toArray t (0, 0))

theorem Blk.lt {w : World} {b : Nat} {cs : List Value} {t : TypeId} (h : Blk w b cs t) : b < w.heap.size := (Array.getElem?_eq_some_iff.1 h).1
theorem Blk.cell {w : World} {b : Nat} {cs : List Value} {t : TypeId} (h : Blk w b cs t) (i : Nat) : w.cell? ⟨b, i, none⟩ = cs[i]? := by
  unfold Blk at h; simp [World.cell?, h]
theorem Blk.frozen {w : World} {b : Nat} {cs : List Value} {t : TypeId} (h : Blk w b cs t) (i : Nat) : w.frozen? ⟨b, i, none⟩ = false := by
  unfold Blk at h; simp [World.frozen?, h]
theorem Blk.keep {S : Nat → Prop} {w w' : World} {b : Nat} {cs : List Value} {t : TypeId} (h : Blk w b cs t) (k : Keeps S w w') (hS : ¬ S b) : Blk w' b cs t :=
  (k.block b h.lt hS).trans h
theorem Blk.keep_no {w w' : World} {b : Nat} {cs : List Value} {t : TypeId} (h : Blk w b cs t) (k : Keeps No w w') : Blk w' b cs t := h.keep k (fun h => h)
theorem Blk.alloc {w : World} {b : Nat} {cs : List Value} {t : TypeId} (h : Blk w b cs t) (o : Obj) : Blk (w.alloc o) b cs t := (Below.heap_alloc w o b h.lt).trans h
theorem Blk.drew {w : World} {b : Nat} {cs : List Value} {t : TypeId} (h : Blk w b cs t) : Blk w.drew b cs t := h
theorem Blk.drewN {w : World} {b : Nat} {cs : List Value} {t : TypeId} (h : Blk w b cs t) (n : Nat) : Blk (w.drewN n) b cs t := h
theorem Blk.set {w : World} {b : Nat} {cs : List Value} {t : TypeId} (h : Blk w b cs t) (i : Nat) (v : Value) : Blk (w.setCell ⟨b, i, none⟩ v) b (cs.set i v) t := by
  unfold Blk at *
  simp only [World.setCell, Array.getElem?_modify, if_true, h, Option.map_some]
  simp
theorem Blk.set_same {w : World} {b : Nat} {cs : List Value} {t : TypeId} (h : Blk w b cs t) {i : Nat} {v : Value} (hv : cs[i]? = some v) : Blk (w.setCell ⟨b, i, none⟩ v) b cs t := by
  have h2 := h.set i v
  have e : cs.set i v = cs := by
    apply List.ext_getElem?
    intro j
    rw [List.getElem?_set]
    by_cases hj : i = j
    · subst hj
      rw [if_pos rfl]
      rw [hv]
      have := (List.getElem?_eq_some_iff.1 hv).1
      simp [this]
    · rw [if_neg hj]
  rwa [e] at h2
theorem Blk.set_other {w : World} {b : Nat} {cs : List Value} {t : TypeId} (h : Blk w b cs t) {p : Addr} (hp : p.block ≠ b) (v : Value) : Blk (w.setCell p v) b cs t :=
  (Below.heap_setCell w p v b (Ne.symm hp)).trans h
theorem Blk.row {w : World} {b : Nat} {cs : List Value} {t : TypeId} (h : Blk w b cs t) (cs' : List Value) : Blk (w.setRow b cs'.toArray) b cs' t := setRow_heap w b _ _ t _ h
theorem Blk.row_other {w : World} {b : Nat} {cs : List Value} {t : TypeId} (h : Blk w b cs t) {g : Nat} (hg : g ≠ b) (cs' : Array Value) : Blk (w.setRow g cs') b cs t :=
  (setRow_other w g b cs' (Ne.symm hg)).trans h
theorem Blk.new (w : World) (cs : List Value) (t : TypeId) : Blk (w.alloc (.cells cs.toArray t)) w.heap.size cs t := heap_alloc_new w _
theorem Blk.to {w : World} {b : Nat} {cs cs' : List Value} {t : TypeId} (h : Blk w b cs t) (e : cs = cs') : Blk w b cs' t := e ▸ h
theorem Blk.ne {w : World} {b b' : Nat} {cs cs' : List Value} {t t' : TypeId} (h : Blk w b cs t) (h' : Blk w b' cs' t') (hne : t ≠ t') : b ≠ b' := by
  rintro rfl
  unfold Blk at h h'
  rw [h] at h'
  injection h' with h'
  injection h' with h1 h2
  exact hne h2

theorem nil_or_snoc {α : Type} (l : List α) : l = [] ∨ ∃ m x, l = m ++ [x] := by
  rcases List.eq_nil_or_concat l with h | ⟨m, x, h⟩
  · exact .inl h
  · exact .inr ⟨m, x, by rw [h, List.concat_eq_append]⟩

/-- A byte as a cell. -/
def byt (c : UInt8) : Value := .int .u8 c.toNat
/-- The cells of some bytes. -/
def u8s (l : List UInt8) : List Value := l.map byt
@[simp] theorem u8s_length (l : List UInt8) : (u8s l).length = l.length := by simp [u8s]
@[simp] theorem u8s_append (l m : List UInt8) : u8s (l ++ m) = u8s l ++ u8s m := by simp [u8s]
@[simp] theorem u8s_nil : u8s [] = [] := rfl
theorem u8s_get (l : List UInt8) (i : Nat) : (u8s l)[i]? = l[i]?.map byt := by simp [u8s]
theorem u8s_take (l : List UInt8) (i : Nat) : u8s (l.take i) = (u8s l).take i := by simp [u8s, List.map_take]
theorem u8s_drop (l : List UInt8) (i : Nat) : u8s (l.drop i) = (u8s l).drop i := by simp [u8s, List.map_drop]
theorem u8s_one (l : List UInt8) : ∀ v ∈ u8s l, v.oneCell' = true := by
  intro v hv
  simp only [u8s, List.mem_map] at hv
  obtain ⟨c, _, rfl⟩ := hv
  rfl

theorem extract_end (s : ByteArray) (i : Nat) : (s.extract i s.size).data.toList = s.data.toList.drop i := by
  have h : s.data.toList.length = s.size := rfl
  rw [ByteArray.data_extract, Array.toList_extract, List.extract_eq_take_drop, List.take_of_length_le]
  rw [List.length_drop, h]
  exact Nat.le_refl _
theorem extract_mid (s : ByteArray) (i j : Nat) : (s.extract i j).data.toList = (s.data.toList.drop i).take (j - i) := by
  rw [ByteArray.data_extract, Array.toList_extract, List.extract_eq_take_drop]
theorem str_size (s : ByteArray) : s.data.toList.length = s.size := rfl

/-- From place o of block b on stand these bytes. -/
def BytesAt (w : World) (b o : Nat) (l : List UInt8) : Prop := ∃ cs t f, w.heap[b]? = some (.cells cs t f) ∧ (cs.toList.drop o).take l.length = u8s l

theorem BytesAt.lt {w : World} {b o : Nat} {l : List UInt8} (h : BytesAt w b o l) : b < w.heap.size := by
  obtain ⟨cs, t, f, h, _⟩ := h
  exact (Array.getElem?_eq_some_iff.1 h).1
theorem BytesAt.keep {S : Nat → Prop} {w w' : World} {b o : Nat} {l : List UInt8} (h : BytesAt w b o l) (k : Keeps S w w') (hS : ¬ S b) : BytesAt w' b o l := by
  have hlt := h.lt
  obtain ⟨cs, t, f, h, h2⟩ := h
  exact ⟨cs, t, f, (k.block b hlt hS).trans h, h2⟩
theorem BytesAt.cell {w : World} {b o : Nat} {l : List UInt8} (h : BytesAt w b o l) {i : Nat} (hi : i < l.length) : w.cell? ⟨b, o + i, none⟩ = some (byt l[i]) := by
  obtain ⟨cs, t, f, h, h2⟩ := h
  have h3 : ((cs.toList.drop o).take l.length)[i]? = some (byt l[i]) := by rw [h2, u8s_get]; simp [hi]
  rw [List.getElem?_take, if_pos hi, List.getElem?_drop] at h3
  simp only [World.cell?, h]
  simpa using h3
theorem BytesAt.cells {w : World} {b o : Nat} {l : List UInt8} (h : BytesAt w b o l) : ∀ j u, (u8s l)[j]? = some u → w.cell? ((⟨b, o, none⟩ : Addr).add j) = some u := by
  intro j u hu
  have hadd : (⟨b, o, none⟩ : Addr).add j = ⟨b, o + j, none⟩ := by unfold Addr.add; split <;> simp_all
  rw [hadd]
  rw [u8s_get] at hu
  have hj : j < l.length := by
    rcases Nat.lt_or_ge j l.length with h | h
    · exact h
    · simp [List.getElem?_eq_none h] at hu
  rw [h.cell hj]
  simp [hj] at hu
  rw [hu]
theorem BytesAt.of_blk {w : World} {b : Nat} {cs : List Value} {t : TypeId} (h : Blk w b cs t) {o : Nat} {l : List UInt8} (hl : (cs.drop o).take l.length = u8s l) : BytesAt w b o l :=
  ⟨cs.toArray, t, (0, 0), h, by simpa using hl⟩
theorem BytesAt.sub {w : World} {b o : Nat} {l : List UInt8} (h : BytesAt w b o l) (i n : Nat) : BytesAt w b (o + i) ((l.drop i).take n) := by
  obtain ⟨cs, t, f, h, h2⟩ := h
  refine ⟨cs, t, f, h, ?_⟩
  rw [u8s_take, u8s_drop, ← h2]
  simp only [List.length_take, List.length_drop, List.drop_take, List.drop_drop, List.take_take]
theorem BytesAt.nil {w : World} {b o : Nat} {l : List UInt8} (h : BytesAt w b o l) (o' : Nat) : BytesAt w b o' [] := by
  obtain ⟨cs, t, f, h, _⟩ := h
  exact ⟨cs, t, f, h, by simp⟩


/-! ### Draws alone -/
/-- w' is w behind some draws. -/
def Drawn (w w' : World) : Prop := ∃ n, w' = w.drewN n
theorem Drawn.refl (w : World) : Drawn w w := ⟨0, rfl⟩
theorem Drawn.drew {w w' : World} (h : Drawn w w') : Drawn w w'.drew := by obtain ⟨n, rfl⟩ := h; exact ⟨n + 1, rfl⟩
theorem Drawn.drewN {w w' : World} (h : Drawn w w') (m : Nat) : Drawn w (w'.drewN m) := by obtain ⟨n, rfl⟩ := h; exact ⟨n + m, World.drewN_drewN _ _ _⟩
theorem Drawn.keeps {w w' : World} (h : Drawn w w') (S : Nat → Prop) : Keeps S w w' := by obtain ⟨n, rfl⟩ := h; exact (Keeps.refl S w).drewN n

/-! ### Calls that only draw, behind draws -/
theorem q_add {P : Program} {f : FuncId} {args : Array Value} {w : World} {a n : Nat} {v : Value} (h : Calls P f args (w.drewN (a + n)) fun e w' => e = .returned v ∧ ∃ m, w' = (w.drewN (a + n)).drewN m) :
    Calls P f args (w.drewN (a + n)) fun e w'' => e = .returned v ∧ ∃ m, w'' = w.drewN (a + m) :=
  h.mono fun _ _ ⟨he, m, hm⟩ => ⟨he, n + m, by rw [hm, World.drewN_drewN, Nat.add_assoc]⟩
theorem q_add_same {P : Program} {f : FuncId} {args : Array Value} {w : World} {a n : Nat} {v : Value} (h : Calls P f args (w.drewN (a + n)) fun e w' => e = .returned v ∧ w' = w.drewN (a + n)) :
    Calls P f args (w.drewN (a + n)) fun e w'' => e = .returned v ∧ ∃ m, w'' = w.drewN (a + m) :=
  h.mono fun _ _ ⟨he, hm⟩ => ⟨he, n, hm⟩

/-! ### Cuts of slices -/
/-- Where a slice begins behind a cut: 's[l:]' at l = cap stays where it was. -/
@[irreducible] def cutAt (o l cap size : Nat) : Nat := if cap = l then o else o + l * size
theorem cutAt_lt {o l cap size : Nat} (h : l < cap) : cutAt o l cap size = o + l * size := by unfold cutAt; exact if_neg (by omega)

section
variable {P : Program} (w : World) (t : TypeId) (b o len cap : Nat) (ht : P.underlying t = some (.slice (P.elem t)))
theorem sliced_at (l h s : Nat) : sliced (some ⟨b, o, none⟩) l h cap s = .slice (some ⟨b, cutAt o l cap s, none⟩) (h - l) (cap - l) := by
  unfold sliced cutAt
  by_cases hc : cap = l
  · simp [hc]
  · simp [hc, Addr.add]
include ht
@[go_sem high] theorem run_cut_lh (kl kh : IntKind) (l h : Int) (h0 : 0 ≤ l) (h1 : l ≤ h) (h2 : h ≤ cap) :
    (Instr.slice t (.slice (some ⟨b, o, none⟩) len cap) (some (.int kl l)) (some (.int kh h)) none).run P w =
      ((sizeOf (P.elem t)).run P w).andThen fun s w => .ok (.slice (some ⟨b, cutAt o l.toNat cap s, none⟩) (h.toNat - l.toNat) (cap - l.toNat)) w := by
  rw [run_slice_lh w t _ len cap ht kl kh l h h0 h1 h2]
  simp only [sliced_at b o cap]
@[go_sem high] theorem run_cut_l (kl : IntKind) (l : Int) (h0 : 0 ≤ l) (h1 : l ≤ len) :
    (Instr.slice t (.slice (some ⟨b, o, none⟩) len cap) (some (.int kl l)) none none).run P w =
      ((sizeOf (P.elem t)).run P w).andThen fun s w => .ok (.slice (some ⟨b, cutAt o l.toNat cap s, none⟩) (len - l.toNat) (cap - l.toNat)) w := by
  rw [run_slice_l w t _ len cap ht kl l h0 h1]
  simp only [sliced_at b o cap]
@[go_sem high] theorem run_cut_h (kh : IntKind) (h : Int) (h0 : 0 ≤ h) (h2 : h ≤ cap) :
    (Instr.slice t (.slice (some ⟨b, o, none⟩) len cap) none (some (.int kh h)) none).run P w =
      ((sizeOf (P.elem t)).run P w).andThen fun _ w => .ok (.slice (some ⟨b, o, none⟩) h.toNat cap) w := by
  rw [run_slice_h w t _ len cap ht kh h h0 h2]
  simp only [sliced_at b o cap]
  simp [cutAt]
end
theorem BytesAt.cut {w : World} {b o : Nat} {l : List UInt8} (h : BytesAt w b o l) (i n : Nat) {cap : Nat} (hc : l.length ≤ cap) : BytesAt w b (cutAt o i cap 1) ((l.drop i).take n) := by
  unfold cutAt
  split
  · rw [List.drop_eq_nil_of_le (by omega), List.take_nil]; exact h.nil _
  · rw [Nat.mul_one]; exact h.sub i n
theorem BytesAt.cut_l {w : World} {b o : Nat} {l : List UInt8} (h : BytesAt w b o l) (i : Nat) {cap : Nat} (hc : l.length ≤ cap) : BytesAt w b (cutAt o i cap 1) (l.drop i) := by
  have := h.cut i l.length hc
  rwa [List.take_of_length_le (by simp)] at this

/-- A region that draws its order: n reads (they leave the world alone), then one effect that waits for all of them, and what follows it. -/
theorem region_tail {P : Program} {id : Nat} {Q : Exit → Act → World → Prop} {a : Act} {w : World} {l : List Oper} (n : Nat) (hm : P.follows .mixedOrders = true) (hB : Region.lexTailB .any l.toArray n = true)
    (h : wpStill P l.toArray w.drew (fun a' => wpList P l.toArray Q (l.drop n) a' w.drew) (l.take n) a) : (Code.region id l.toArray true).wp P Q a w :=
  wp_region_still_tail n hm hB h

/-! ### copy of a string into a block -/
section
variable {P : Program} {w : World}
theorem run_copy_str (dT sT ty elem : TypeId) (g o dLen dCap : Nat) (s : ByteArray) (cs : List Value) (t : TypeId) (n : Nat) (hn : n = min s.size dLen)
    (hu : P.underlying dT = some (.slice elem)) (hs : (P.info? elem).map (·.size) = some 1) (hg : Blk w g cs t) (hfit : o + n ≤ cs.length) :
    (Builtin.copy_ #[dT, sT] ty #[.slice (some ⟨g, o, none⟩) dLen dCap, .string s]).run P w =
      .ok (goInt n) (w.setRow g (cs.take o ++ u8s (s.data.toList.take n) ++ cs.drop (o + n)).toArray) := by
  have hlen : (u8s (s.data.toList.take n)).length = n := by
    rw [u8s_length, List.length_take]
    have : s.data.toList.length = s.size := rfl
    omega
  have hst := run_storeCells_at P g o t (u8s (s.data.toList.take n)) 0 cs.toArray w hg (by rw [hlen]; simpa using hfit) (u8s_one _)
  rw [hlen] at hst
  simp only [Nat.add_zero] at hst
  have e2 : List.take n (List.map (fun b : UInt8 => Value.int IntKind.u8 (b.toNat : Int)) s.data.toList) = u8s (List.take n s.data.toList) := by rw [← List.map_take]; rfl
  have e1 : s.size.min dLen = n := hn.symm
  cases hq : P.info? elem with
  | none => simp [hq] at hs
  | some i =>
    simp [Builtin.copy_, run_underlying hu, Builtin.lenOf, Builtin.firstCells, sizeOf, typeInfo, hq]
    rw [e1, e2, hst]
    simp

theorem wpList_copy_str {ops : Array Oper} {rest : List Oper} {o : Oper} {a : Act} {Q : Exit → Act → World → Prop} (hgd : o.guard = none) (d s : Operand) (dT sT : TypeId)
    (ho : o.op = .call { callee := .builtin .copy, args := #[d, s], argTypes := #[dT, sT] }) (elem : TypeId) (hu : P.underlying dT = some (.slice elem)) (hsz : (P.info? elem).map (·.size) = some 1)
    (g off dLen dCap : Nat) (t : ByteArray) (hd : a.eval d = .slice (some ⟨g, off, none⟩) dLen dCap) (hs : a.eval s = .string t) (cs : List Value) (ty : TypeId) (n : Nat) (hn : n = min t.size dLen) (hg : Blk w g cs ty) (hfit : off + n ≤ cs.length)
    (h : ∀ W, Hid (Blk W g (cs.take off ++ u8s (t.data.toList.take n) ++ cs.drop (off + n)) ty) → Keeps (In [g]) w W → wpList P ops Q rest (a.put o.dst (goInt n)) W) : wpList P ops Q (o :: rest) a w := by
  refine wpList_plain hgd fun K hK => ?_
  have hrun := run_copy_str (P := P) (w := w) dT sT o.type elem g off dLen dCap t cs ty n hn hu hsz hg hfit
  unfold Oper.wp
  simp only [execOp, ho, resolve, invoke, builtin, Sem.run_bind, Sem.run_pure, Result.andThen_ok, List.map_toArray, List.map_cons, List.map_nil, hd, hs, hrun]
  exact hK _ _ (h _ (hg.row _) (Keeps.row_one _ _ _))

/-- The same between slices: the source's cells are known. (They may be the block's own.) -/
theorem wpList_copy_cells {ops : Array Oper} {rest : List Oper} {o : Oper} {a : Act} {Q : Exit → Act → World → Prop} (hgd : o.guard = none) (d s : Operand) (dT sT : TypeId)
    (ho : o.op = .call { callee := .builtin .copy, args := #[d, s], argTypes := #[dT, sT] }) (elem : TypeId) (hu : P.underlying dT = some (.slice elem)) (hsz : (P.info? elem).map (·.size) = some 1)
    (g off dLen dCap : Nat) (sp : Option Addr) (sLen sCap : Nat) (hd : a.eval d = .slice (some ⟨g, off, none⟩) dLen dCap) (hs : a.eval s = .slice sp sLen sCap) (cs : List Value) (ty : TypeId) (hg : Blk w g cs ty)
    (new : List Value) (hn : new.length = min sLen dLen) (hsrc : ∃ ad, sp = some ad ∧ ∀ j v, new[j]? = some v → w.cell? (ad.add j) = some v) (hfit : off + new.length ≤ cs.length) (h1 : ∀ v ∈ new, v.oneCell' = true)
    (h : ∀ W, Hid (Blk W g (cs.take off ++ new ++ cs.drop (off + new.length)) ty) → Keeps (In [g]) w W → wpList P ops Q rest (a.put o.dst (goInt new.length)) W) : wpList P ops Q (o :: rest) a w := by
  obtain ⟨ad, rfl, hsrc⟩ := hsrc
  refine wpList_plain hgd fun K hK => ?_
  have hrun := run_copy_row (P := P) w dT sT o.type elem g off dLen dCap ad sLen sCap cs.toArray ty new hu hsz hg hn hsrc (by simpa using hfit) h1
  unfold Oper.wp
  simp only [execOp, ho, resolve, invoke, builtin, Sem.run_bind, Sem.run_pure, Result.andThen_ok, List.map_toArray, List.map_cons, List.map_nil, hd, hs, hrun]
  exact hK _ _ (h _ (hg.row _) (Keeps.row_one _ _ _))
end

/-- The world at hand under a name. -/
theorem wp_as {P : Program} {c : Code} {Q : Exit → Act → World → Prop} {a : Act} {w : World} (h : ∀ W, W = w → c.wp P Q a W) : c.wp P Q a w := h w rfl
theorem calls_as {P : Program} {f : FuncId} {args : Array Value} {R : Ending → World → Prop} {w : World} (h : ∀ W, W = w → Calls P f args W R) : Calls P f args w R := h w rfl
theorem wpList_as {P : Program} {ops : Array Oper} {Q : Exit → Act → World → Prop} {l : List Oper} {a : Act} {w : World} (h : ∀ W, W = w → wpList P ops Q l a W) : wpList P ops Q l a w := h w rfl

end Go.Proofs.YtjbbapodcngnaaaGreatDoor
namespace Go.Proofs.YtjbbapodcngnaaaGreatDoor
open Go.RowKit

/-- io.EOF: nothing is left. -/
theorem sread_eof (s i b o len cap : Nat) (src : ByteArray) (ea : Addr) (w : World)
    (h0 : w.cell? ⟨s, 0, none⟩ = some (.string src)) (h1 : w.cell? ⟨s, 1, none⟩ = some (.int .i64 i)) (he : w.cell? ⟨0, 0, none⟩ = some (.iface 203 (.pointer (some ea))))
    (hi : src.size ≤ i) :
    Calls Tryz.prog 246 #[.pointer (some ⟨s, 0, none⟩), .slice (some ⟨b, o, none⟩) len cap] w fun e w' =>
      e = .returned (.tuple #[.int .i64 0, (.iface 203 (.pointer (some ea)))]) ∧ Drawn w w' := by
  go_enter Tryz.func246, Tryz.ntmps246
  go_wp2
  go_quiet (fail)
  go_wp2
  go_quiet (fail)
  go_wp2
  go_ret2
  exact ⟨rfl, by repeat (first | exact Drawn.refl _ | apply Drawn.drewN)⟩

set_option maxRecDepth 100000 in
theorem sread_some (s i b o len cap n : Nat) (p : Int) (src : ByteArray) (cs : List Value) (w : World)
    (hs : Blk w s [.string src, .int .i64 i, .int .i64 p] 194) (hb : Blk w b cs 5)
    (hin : i < src.size) (hsz : src.size ≤ 1000000000) (hn : n = min (src.size - i) len) (hfit : o + n ≤ cs.length) :
    Calls Tryz.prog 246 #[.pointer (some ⟨s, 0, none⟩), .slice (some ⟨b, o, none⟩) len cap] w fun e w' =>
      e = .returned (.tuple #[.int .i64 n, .nilIface]) ∧ Keeps (In [s, b]) w w' ∧
        Blk w' s [.string src, .int .i64 (i + n : Nat), .int .i64 (-1)] 194 ∧
        Blk w' b (cs.take o ++ u8s ((src.data.toList.drop i).take n) ++ cs.drop (o + n)) 5 := by
  have h0 := hs.cell 0
  have h1 := hs.cell 1
  have h2 := hs.cell 2
  have f2 := hs.frozen 2
  simp only [List.getElem?_cons_zero, List.getElem?_cons_succ] at h0 h1 h2
  have hle : i ≤ src.size := by omega
  have hsb : s ≠ b := hs.ne hb (by decide)
  have HN := Lib.hid hn
  have hn1 : n ≤ src.size - i := by omega
  clear hn
  go_enter Tryz.func246, Tryz.ntmps246
  go_wp2
  go_quiet (fail)
  go_wp2
  refine wp_as fun W1 hW1 => ?_
  obtain ⟨B1, B2, K1⟩ : Blk W1 s [.string src, .int .i64 i, .int .i64 (-1)] 194 ∧ Blk W1 b cs 5 ∧ Keeps (In [s, b]) w W1 := by
    subst hW1
    exact ⟨(hs.drewN nq).set 2 _, (hb.drewN nq).set_other hsb _, ((Keeps.refl _ _).drewN _).setCell (.inl (by simp [In])) _⟩
  clear hW1 h0 h1 h2 f2
  have h0 := B1.cell 0
  have h1 := B1.cell 1
  simp only [List.getElem?_cons_zero, List.getElem?_cons_succ] at h0 h1
  refine region_tail 10 (by kernel_rfl) (by kernel_rfl) ?_
  simp only [List.take_succ_cons, List.take_zero, List.drop_succ_cons, List.drop_zero]
  repeat still_step
  refine wpStill_nil ?_
  refine wpList_copy_str rfl (.tmp 20) (.tmp 29) 85 9 rfl 5 Tryz.underlying85 (by kernel_rfl) b o len cap _ rfl rfl cs 5 n ?hn B2.drew hfit ?_
  case hn => rw [HN.out]; simp
  intro W2 B3 K2
  have B4 : Blk W2 s _ _ := B1.drew.keep K2 (fun h => by simp only [In, List.mem_cons, List.not_mem_nil, or_false] at h; omega)
  have K3 : Keeps (In [s, b]) w W2 := K1.drew.trans K2 (fun _ _ h => by simp only [In, List.mem_cons, List.not_mem_nil, or_false] at h ⊢; omega)
  clear h0 h1 B1 B2 K1 K2
  have h1 := B4.cell 1
  have f1 := B4.frozen 1
  simp only [List.getElem?_cons_zero, List.getElem?_cons_succ] at h1
  go_wp2
  go_ret2
  refine ⟨rfl, K3.setCell (.inl (by simp [In])) _, ?_, ?_⟩
  · rw [Int.natCast_add]; exact B4.set 1 _
  · rw [extract_end] at B3
    exact B3.out.set_other hsb _
end Go.Proofs.YtjbbapodcngnaaaGreatDoor
namespace Go.Proofs.YtjbbapodcngnaaaGreatDoor
open Go.RowKit

section
variable {P : Program} {ops : Array Oper} {md : Region.Mode} {C : World → Prop} {w : World}

/-- Every operation behind n waits for one from n on that stands ahead of it. -/
def afterB (md : Region.Mode) (ops : Array Oper) (n : Nat) : Bool :=
  (List.range ops.size).all fun t => decide (t ≤ n) || (List.range t).any fun j => decide (n ≤ j) && Region.waitsFor md ops t j

theorem tail_waits' {n : Nat} {listed : Array Bool} (hs : Region.sinkB md ops n = true) (hc : afterB md ops n = true) (hn : n < ops.size) (inv : HeadInv md ops n listed) :
    ∀ (d i : Nat), n - i = d → i < n → listed.getD i true = false → ∀ t, n ≤ t → t ∉ Region.ready md ops listed := by
  intro d
  induction d using Nat.strongRecOn with
  | _ d ih =>
    intro i hd hi hun t ht hr
    obtain ⟨_, ot, hot, hall⟩ := mem_ready.1 hr
    have htlt : t < ops.size := (Array.getElem?_eq_some_iff.1 hot).1
    by_cases htn : t = n
    · subst htn
      have h1 := List.all_eq_true.1 hs i (List.mem_range.2 hi)
      obtain ⟨j, hj, hj2⟩ := List.any_eq_true.1 h1
      simp only [Bool.and_eq_true, decide_eq_true_eq] at hj2
      obtain ⟨oj, hoj, e, he, hb, hon⟩ := Region.waitsFor_spec hj2.2
      have hjle : j ≤ t := by have := List.mem_range.1 hj; omega
      by_cases hjt : j = t
      · subst hjt
        have : oj = ot := Option.some.inj (hoj.symm.trans hot)
        subst this
        have h2 := hall e he hb
        rw [hon, getD_both hun] at h2
        cases h2
      · cases hl : listed.getD j false with
        | true =>
          have h2 := inv.closed j oj hoj hl e he hb
          rw [hon, getD_both hun] at h2
          cases h2
        | false =>
          have hjs : j < listed.size := by rw [inv.size]; omega
          exact ih (t - j) (by omega) j rfl (by omega) (getD_in hjs hl) t (Nat.le_refl _) hr
    · have h1 := List.all_eq_true.1 hc t (List.mem_range.2 htlt)
      simp only [Bool.or_eq_true, decide_eq_true_eq] at h1
      rcases h1 with h1 | h1
      · omega
      · obtain ⟨j, hj, hj2⟩ := List.any_eq_true.1 h1
        simp only [Bool.and_eq_true, decide_eq_true_eq] at hj2
        have hjt := List.mem_range.1 hj
        obtain ⟨o', ho', e, he, hb, hon⟩ := Region.waitsFor_spec hj2.2
        have : o' = ot := Option.some.inj (ho'.symm.trans hot)
        subst this
        have h2 := hall e he hb
        rw [hon, getD_both (inv.tail j hj2.1 (by omega))] at h2
        cases h2

def wpAnyC (P : Program) (md : Region.Mode) (ops : Array Oper) (C : World → Prop) (n : Nat) (L : Array Bool → Act → Prop) : Nat → Array Bool → Act → Prop
  | 0, listed, a => L listed a
  | f + 1, listed, a =>
    Region.ready md ops listed ≠ [] ∧ ∀ i ∈ Region.ready md ops listed, i < n ∧ qOp P ops C i (wpAnyC P md ops C n L f (listed.setIfInBounds i true)) a

theorem wpAny_of_headC {n g : Nat} {L : Array Bool → Act → Prop} {Q' : Exit → Act → World → Prop} (hL : ∀ listed a w, C w → L listed a → wpAny P md ops Q' g listed a w) :
    ∀ (f : Nat) (listed : Array Bool) (a : Act) (w : World), C w → wpAnyC P md ops C n L f listed a → wpAny P md ops Q' (f + g) listed a w
  | 0, listed, a, w, hw, h => by rw [Nat.zero_add]; exact hL _ _ _ hw h
  | f + 1, listed, a, w, hw, h => by
    rw [show f + 1 + g = (f + g) + 1 by omega]
    exact ⟨fun h0 => absurd h0 h.1, fun i hi => wpOp_of_qOp hw (fun a' w' hw' h' => wpAny_of_headC hL f _ a' w' hw' h') (h.2 i hi).2⟩

theorem wpAnyC_first {n i : Nat} {oi : Oper} {v : Value} {L : Array Bool → Act → Prop} (hi : ops[i]? = some oi) (hsel : ∀ (j : Nat) (o : Oper) cs b, ops[j]? = some o → o.op ≠ .select cs b)
    (hs : Region.sinkB md ops n = true) (hc : afterB md ops n = true) (hn : n < ops.size) (hin : i < n)
    (hdone : ∀ listed a, L listed a → ∀ j ∈ Region.ready md ops listed, n ≤ j) :
    ∀ (f : Nat) (listed : Array Bool) (a : Act), HeadInv md ops n listed →
      (∀ j oj, ops[j]? = some oj → j ≠ i → listed.getD j true = false → (∀ e ∈ oj.after, Region.binds md e = true → e.on ≠ i) → oi.apart ops oj = true) →
      i ∈ Region.ready md ops listed → YieldsIn P ops C oi v a →
      wpAnyC P md ops C n L f (listed.setIfInBounds i true) (a.put oi.dst v) → wpAnyC P md ops C n L (f + 1) listed a := by
  intro f
  induction f with
  | zero =>
    intro listed a inv _ hr hy H
    have hun := (mem_ready.1 hr).1
    refine ⟨fun h => (by rw [h] at hr; cases hr), fun j hj => ?_⟩
    have hjn : j < n := by
      rcases Nat.lt_or_ge j n with h | h
      · exact h
      · exact absurd hj (tail_waits' hs hc hn inv _ i rfl hin hun j h)
    refine ⟨hjn, ?_⟩
    by_cases hji : j = i
    · subst hji; exact hy.qOp hi H
    · have := hdone _ _ H j (ready_mono hj hji)
      omega
  | succ f ih =>
    intro listed a inv hfree hr hy H
    have hun := (mem_ready.1 hr).1
    refine ⟨fun h => (by rw [h] at hr; cases hr), fun j hj => ?_⟩
    have hjn : j < n := by
      rcases Nat.lt_or_ge j n with h | h
      · exact h
      · exact absurd hj (tail_waits' hs hc hn inv _ i rfl hin hun j h)
    refine ⟨hjn, ?_⟩
    by_cases hji : j = i
    · subst hji; exact hy.qOp hi H
    · have h1 := (H.2 j (ready_mono hj hji)).2
      obtain ⟨hjun, oj, hoj, hall⟩ := mem_ready.1 hj
      have hnot : ∀ e ∈ oj.after, Region.binds md e = true → e.on ≠ i := fun e he hb heq => by
        have h1 := hall e he hb
        rw [heq, getD_both hun] at h1
        cases h1
      have h2 := qOp_put hoj (hfree j oj hoj hji hjun hnot) (fun cs b => hsel i oi cs b hi) (fun cs b => hsel j oj cs b hoj) hy h1
      have hfree' : ∀ k ok, ops[k]? = some ok → k ≠ i → (listed.setIfInBounds j true).getD k true = false →
          (∀ e ∈ ok.after, Region.binds md e = true → e.on ≠ i) → oi.apart ops ok = true := fun k ok hk hki hun hno => by
        refine hfree k ok hk hki ?_ hno
        by_cases hjk : j = k
        · subst hjk; exact hjun
        · rw [getD_set_ne true hjk] at hun; exact hun
      refine qOp_mono (fun a' h3 => ih (listed.setIfInBounds j true) a' (inv.set hj hjn) hfree' (ready_mono hr (Ne.symm hji)) h3.1 ?_) h2
      rw [Array.setIfInBounds_comm _ _ hji]
      exact h3.2

/-- What may stand behind the effect: moves, assignments, parts of a tuple. -/
def pureOp (o : Oper) : Bool :=
  match o.op with
  | .move _ | .assign _ | .extract _ _ => o.guard.isNone
  | _ => false

theorem run_pure_op {o : Oper} (a : Act) (h : pureOp o = true) : (∃ v, execOp a.eval o = Sem.pure (.value v)) ∨ ∃ s, execOp a.eval o = Sem.halt (.stuck s) := by
  unfold pureOp at h
  split at h
  · rename_i x hx; exact .inl ⟨_, by simp only [execOp, hx]; rfl⟩
  · rename_i x hx; exact .inl ⟨_, by simp only [execOp, hx]; rfl⟩
  · rename_i x i hx
    simp only [execOp, hx]
    cases hv : a.eval x
    case tuple vs =>
      cases hq : vs[i]? with
      | none => exact .inr ⟨_, by simp only [Instr.extract, hq]; rfl⟩
      | some v => exact .inl ⟨v, by simp only [Instr.extract, hq]; rfl⟩
    all_goals exact .inr ⟨_, rfl⟩
  · cases h

theorem not_asks_pure {o : Oper} {a : Act} (h : pureOp o = true) : ¬ o.asks P a w := by
  intro hk
  have hm := hk.1
  rcases run_pure_op a h with ⟨v, e⟩ | ⟨s, e⟩ <;> rw [e] at hm <;> simp [Sem.runT] at hm

theorem still_of_pure {o : Oper} {a : Act} {K : Act → World → Prop} {Q : Exit → Act → World → Prop} (h : pureOp o = true) (hw : o.wp P a w K Q) : o.still P a w (fun a' => K a' w) := by
  unfold Oper.wp at hw
  unfold Oper.still
  rcases run_pure_op a h with ⟨v, e⟩ | ⟨s, e⟩ <;> rw [e] at hw ⊢
  · exact ⟨rfl, hw⟩
  · exact hw.elim

theorem wpStill_of_pure {Q : Exit → Act → World → Prop} : ∀ (l : List Oper) (a : Act), l.all pureOp = true → wpList P ops Q l a w → wpStill P ops w (fun a' => Q .normal a' w) l a
  | [], a, _, h => h
  | o :: l, a, hp, h => by
    simp only [List.all_cons, Bool.and_eq_true] at hp
    unfold wpList at h
    unfold wpStill
    split
    · rename_i hw
      rw [if_pos hw] at h
      rcases h with h | h
      · exact Oper.still_mono (fun a' h' => wpStill_of_pure l a' hp.2 h') (still_of_pure hp.1 h)
      · exact absurd h.1 (not_asks_pure hp.1)
    · rename_i hw
      rw [if_neg hw] at h
      exact wpStill_of_pure l _ hp.2 h

/-- The heads in the text's order, then n alone, then the rest in the text's order. -/
def lexHeadM (md : Region.Mode) (ops : Array Oper) (g : Nat) : Nat → Nat → Array Bool → Bool
  | 0, k, listed => decide (Region.ready md ops listed = [k]) && Region.lexFrom md ops g (k + 1) (listed.setIfInBounds k true)
  | f + 1, k, listed => (Region.ready md ops listed).contains k && Region.free md ops listed k && lexHeadM md ops g f (k + 1) (listed.setIfInBounds k true)

def lexMidB (md : Region.Mode) (ops : Array Oper) (n : Nat) : Bool :=
  Region.noSelect ops && decide (n < ops.size) && Region.sinkB md ops n && afterB md ops n && (ops.toList.drop (n + 1)).all pureOp && lexHeadM md ops (ops.size - n - 1) n 0 (Array.replicate ops.size false)

/-- What stands when the heads are through. -/
def MidAt (md : Region.Mode) (ops : Array Oper) (n g : Nat) (listed : Array Bool) : Prop :=
  Region.ready md ops listed = [n] ∧ Region.lexFrom md ops g (n + 1) (listed.setIfInBounds n true) = true

theorem wpAnyC_lex {n g : Nat} {Lq : Act → Prop} (hsel : Region.noSelect ops = true) (hs : Region.sinkB md ops n = true) (hc : afterB md ops n = true) (hn : n < ops.size) :
    ∀ (l : List Oper) (k : Nat) (listed : Array Bool) (a : Act), (∀ j, j < l.length → l[j]? = ops[k + j]?) → k + l.length = n → HeadInv md ops n listed →
    lexHeadM md ops g l.length k listed = true → wpQuiet P ops C Lq l a →
    wpAnyC P md ops C n (fun listed' a' => MidAt md ops n g listed' ∧ Lq a') l.length listed a
  | [], k, listed, a, _, hk, _, hB, h => by
    have : k = n := by simpa using hk
    subst this
    simp only [List.length_nil, lexHeadM, Bool.and_eq_true, decide_eq_true_eq] at hB
    exact ⟨hB, h⟩
  | o :: l, k, listed, a, hl, hk, inv, hB, h => by
    have h0 : ops[k]? = some o := by simpa using (hl 0 (by simp)).symm
    simp only [List.length_cons, lexHeadM, Bool.and_eq_true] at hB
    obtain ⟨⟨hr, hf⟩, hB'⟩ := hB
    have hkn : k < n := by simp only [List.length_cons] at hk; omega
    have hr' : k ∈ Region.ready md ops listed := by simpa using hr
    have hst : qOp P ops C k (wpQuiet P ops C Lq l) a := by unfold qOp; simp only [h0]; exact h
    obtain ⟨v, hy, hK⟩ := yieldsIn_of_qOp h0 hst
    exact wpAnyC_first h0 (Region.noSelect_spec hsel) hs hc hn hkn (fun listed' a' hL j hj => by rw [hL.1.1] at hj; simp at hj; omega) l.length listed a inv (Region.free_spec h0 hf) hr' hy
      (wpAnyC_lex hsel hs hc hn l (k + 1) _ _ (fun j hj => by have := hl (j + 1) (by simp; omega); simpa [Nat.add_assoc, Nat.add_comm 1 j] using this) (by simp only [List.length_cons] at hk; omega) (inv.set hr' hkn) hB' hK)

theorem wpAny_mid {n g : Nat} {Q' : Exit → Act → World → Prop} (hsel : Region.noSelect ops = true) (l : List Oper) (hg : l.length = g) (hl : ∀ j, l[j]? = ops[n + 1 + j]?) {o : Oper} (ho : ops[n]? = some o) (hp : l.all pureOp = true)
    (listed : Array Bool) (a : Act) (h1 : MidAt md ops n g listed) (h : wpList P ops Q' (o :: l) a w) : wpAny P md ops Q' (g + 1) listed a w := by
  obtain ⟨hr, hlex⟩ := h1
  refine ⟨fun h0 => (by rw [hr] at h0; cases h0), fun i hi => ?_⟩
  rw [hr] at hi
  obtain rfl : i = n := by simpa using hi
  have hw : wpOp P ops Q' i (wpList P ops Q' l) a w := by unfold wpOp; simp only [ho]; exact h
  refine wpOp_mono (fun a' w' h' => ?_) hw
  have h2 := wpAnyS_lex (md := md) hsel l (i + 1) (listed.setIfInBounds i true) a' hl (by rw [hg]; exact hlex) (wpStill_of_pure l a' hp h')
  have h3 := wpAny_of_still (Q' := Q') (fun _ h => h) _ _ _ h2
  rwa [hg] at h3

/-- A region that draws: n operations that look, in a class of worlds, one effect, moves behind it. -/
theorem region_class {id : Nat} {Q : Exit → Act → World → Prop} {a : Act} {l : List Oper} (n : Nat) (C : World → Prop) (hm : P.follows .mixedOrders = true) (hB : lexMidB .any l.toArray n = true) (hC : C w.drew)
    (h : wpQuiet P l.toArray C (fun a' => ∀ w', C w' → wpList P l.toArray Q (l.drop n) a' w') (l.take n) a) : (Code.region id l.toArray true).wp P Q a w := by
  simp only [lexMidB, Bool.and_eq_true, decide_eq_true_eq] at hB
  obtain ⟨⟨⟨⟨⟨hsel, hn⟩, hs⟩, hc⟩, hp⟩, hlex⟩ := hB
  have hn' : n < l.length := by simpa using hn
  have htl : (l.take n).length = n := by simp; omega
  have inv0 : HeadInv .any l.toArray n (Array.replicate l.toArray.size false) :=
    ⟨by simp, fun j oj _ hl => (by rw [getD_replicate_false] at hl; cases hl), fun t _ ht => getD_in (by simpa using ht) (getD_replicate_false _ _)⟩
  have H := wpAnyC_lex (md := .any) (g := l.toArray.size - n - 1) hsel hs hc hn (l.take n) 0 _ a (fun j hj => by
    have hj' : j < n := by rw [htl] at hj; exact hj
    simp [hj']) (by simpa using htl) inv0 (by rw [htl]; exact hlex) h
  refine wp_region_any hm ?_
  have hdrop : l.drop n = l[n] :: l.drop (n + 1) := List.drop_eq_getElem_cons hn'
  have := wpAny_of_headC (Q' := Q) (g := l.toArray.size - n - 1 + 1) (fun listed a' w' hw' hL => by
    have hw := hL.2 w' hw'
    rw [hdrop] at hw
    exact wpAny_mid (md := .any) hsel (l.drop (n + 1)) (by simp; omega) (fun j => by simp [List.getElem?_drop]) (by simp [hn']) hp listed a' hL.1 hw) _ _ _ _ hC H
  rw [htl, show n + (l.toArray.size - n - 1 + 1) = l.toArray.size by simp; omega] at this
  exact this

/-- The same where the looks leave the world as it is but for draws. -/
theorem region_mid {id : Nat} {Q : Exit → Act → World → Prop} {a : Act} {l : List Oper} (n : Nat) (hm : P.follows .mixedOrders = true) (hB : lexMidB .any l.toArray n = true)
    (h : wpQuiet P l.toArray (fun w' => ∃ n, w' = w.drewN n) (fun a' => ∀ w', (∃ n, w' = w.drewN n) → wpList P l.toArray Q (l.drop n) a' w') (l.take n) a) : (Code.region id l.toArray true).wp P Q a w :=
  region_class n _ hm hB ⟨1, rfl⟩ h
end

end Go.Proofs.YtjbbapodcngnaaaGreatDoor
namespace Go.Proofs.YtjbbapodcngnaaaGreatDoor
open Go.RowKit

/-- The cells of a bufio.Reader at block b over the strings.Reader at block s, its buffer at block g. -/
def brc (g s r q : Nat) (err : Value) (lb lr : Int) : List Value :=
  [.slice (some ⟨g, 0, none⟩) 4096 4096, .iface 148 (.pointer (some ⟨s, 0, none⟩)), .int .i64 r, .int .i64 q, err, .int .i64 lb, .int .i64 lr]

/-- The cells of a strings.Reader. -/
def src3 (src : ByteArray) (i : Nat) (p : Int) : List Value := [.string src, .int .i64 i, .int .i64 p]

/-- What fill leaves: the bytes that were there ('rem', q1 of them) at the buffer's begin, and n more behind them. -/
def FillPost (b g s q1 i : Nat) (src : ByteArray) (err : Value) (ea : Addr) (lb lr : Int) (rem : List UInt8) (w w' : World) : Prop :=
  ∃ (data : List UInt8) (n : Nat) (err' : Value) (p : Int), data.length = 4096 ∧ q1 + n ≤ 4096 ∧ i + n ≤ src.size ∧ (i < src.size → 0 < n ∧ err' = err) ∧ (src.size ≤ i → n = 0 ∧ err' = (.iface 203 (.pointer (some ea)))) ∧
    Blk w' b (brc g s 0 (q1 + n) err' lb lr) 201 ∧ Blk w' g (u8s data) 5 ∧ Blk w' s (src3 src (i + n) p) 194 ∧ data.take (q1 + n) = rem ++ (src.data.toList.drop i).take n ∧
    Keeps (In [b, g, s]) w w'

theorem method_sr (s : Nat) (w : World) : (method 477 148 (.pointer (some ⟨s, 0, none⟩)) "Read").run Tryz.prog w = .ok (246, .pointer (some ⟨s, 0, none⟩)) w := by kernel_rfl

set_option maxRecDepth 100000 in
set_option maxHeartbeats 1000000 in
theorem fill_any (b g s r q i : Nat) (src : ByteArray) (err : Value) (ea : Addr) (lb lr p : Int) (data : List UInt8) (w : World) (hd : data.length = 4096) (hrq : r ≤ q) (hq : q ≤ 4096) (hf : q - r < 4096)
    (his : i ≤ src.size) (hsz : src.size ≤ 1000000000)
    (hb : Blk w b (brc g s r q err lb lr) 201) (hg : Blk w g (u8s data) 5) (hs : Blk w s (src3 src i p) 194) (heof : w.cell? ⟨0, 0, none⟩ = some (.iface 203 (.pointer (some ea)))) (hB : 10 ≤ b) (hG : 10 ≤ g) (_hS : 10 ≤ s) :
    Calls Tryz.prog 139 #[.pointer (some ⟨b, 0, none⟩)] w fun e w' => e = .returned (.tuple #[]) ∧ FillPost b g s (q - r) i src err ea lb lr ((data.drop r).take (q - r)) w w' := by
  have h0 := hb.cell 0
  have h2 := hb.cell 2
  have h3 := hb.cell 3
  simp only [brc, List.getElem?_cons_zero, List.getElem?_cons_succ] at h0 h2 h3
  have f2 := hb.frozen 2
  have f3 := hb.frozen 3
  have hbg : b ≠ g := hb.ne hg (by decide)
  have hsg : s ≠ g := hs.ne hg (by decide)
  have hbs : b ≠ s := hb.ne hs (by decide)
  have hq' : (q : Int) ≤ 4096 := by omega
  have HD := Lib.hid hd
  have HE := Lib.hid heof
  clear hd heof
  go_enter Tryz.func139, Tryz.ntmps139
  go_upto_if 9 with (fail)
  go_cut [] (fun wx => ∃ data1 : List UInt8, data1.length = 4096 ∧ Blk wx b (brc g s 0 (q - r) err lb lr) 201 ∧ Blk wx g (u8s data1) 5 ∧ data1.take (q - r) = (data.drop r).take (q - r) ∧ Keeps (In [b, g]) w wx)
  case first =>
    by_cases hr : r = 0
    · subst hr
      go_wp2
      go_meet
      exact ⟨data, HD.out, hb, hg, by simp, Keeps.refl _ _⟩
    · have hr' : decide (0 < r) = true := by simp; omega
      go_wp2
      refine region_tail 17 (by kernel_rfl) (by kernel_rfl) ?_
      simp only [List.take_succ_cons, List.take_zero, List.drop_succ_cons, List.drop_zero]
      repeat still_step
      refine wpStill_nil ?_
      refine wpList_copy_cells rfl (.tmp 13) (.tmp 26) 85 85 rfl 5 Tryz.underlying85 (by kernel_rfl) g 0 4096 4096 _ (q - r) (4096 - r) rfl rfl (u8s data) 5 hg.drew (u8s ((data.drop r).take (q - r))) ?hn ?hsrc ?hfit (u8s_one _) ?_
      case hn => have := HD.out; simp; omega
      case hfit => have := HD.out; simp; omega
      case hsrc =>
        have hb2 : BytesAt w g 0 data := BytesAt.of_blk hg (by simp [List.take_of_length_le])
        exact ⟨_, rfl, (hb2.cut r (q - r) (by have := HD.out; omega)).cells⟩
      intro W1 B1 K1
      have B2 := hb.drew.keep K1 (fun h => by simp only [In, List.mem_cons, List.not_mem_nil, or_false] at h; omega)
      clear h0 h2 h3 f2 f3
      have h2 := B2.cell 2
      have h3 := B2.cell 3
      simp only [brc, List.getElem?_cons_zero, List.getElem?_cons_succ] at h2 h3
      have f2 := B2.frozen 2
      have f3 := B2.frozen 3
      go_wp2
      refine region_tail 11 (by kernel_rfl) (by kernel_rfl) ?_
      simp only [List.take_succ_cons, List.take_zero, List.drop_succ_cons, List.drop_zero]
      repeat still_step
      refine wpStill_nil ?_
      go_wp2
      go_meet
      have hd := HD.out
      refine ⟨(data.drop r).take (q - r) ++ data.drop (q - r), by simp; omega, ?_, ?_, ?_, ?_⟩
      · exact ((B2.set 3 _).set 2 _).to (by simp [brc]; omega)
      · exact ((B1.out.set_other hbg _).set_other hbg _).to (by have hX : ((data.drop r).take (q - r)).length = q - r := (by simp; omega); rw [u8s_length, hX]; simp [u8s_drop])
      · rw [List.take_append_of_le_length (by simp; omega), List.take_of_length_le (by simp; omega)]
      · exact ((((Keeps.refl _ w).drew.trans K1 (fun _ _ h => by simp only [In, List.mem_cons, List.not_mem_nil, or_false] at h ⊢; omega)).setCell (.inl (by simp [In])) _).setCell (.inl (by simp [In])) _).drew
  case rest =>
    obtain ⟨data1, hd1, B1, B2, hr1, K1⟩ := hcut
    clear h0 h2 h3 f2 f3 hq'
    have HD1 := Lib.hid hd1
    have HR := Lib.hid hr1
    clear hd1 hr1
    have h0 := B1.cell 0
    have h1 := B1.cell 1
    have h2 := B1.cell 2
    have h3 := B1.cell 3
    simp only [brc, List.getElem?_cons_zero, List.getElem?_cons_succ] at h0 h1 h2 h3
    have f3 := B1.frozen 3
    have f4 := B1.frozen 4
    have hqr : (((q - r : Nat) : Int)) ≤ 4096 := by omega
    go_wp2
    go_quiet (fail)
    go_wp2
    refine wp_loop_rounds 1 ?_
    rw [rounds_succ]
    go_wp2
    refine region_mid 15 (by kernel_rfl) (by kernel_rfl) ?_
    simp only [List.take_succ_cons, List.take_zero, List.drop_succ_cons, List.drop_zero]
    repeat (quiet_step (fail))
    refine wpQuiet_nil ?_
    intro wq hwq
    obtain ⟨nq, rfl⟩ := hwq
    have hm := method_sr s
    have hcut : cutAt 0 (q - r) 4096 1 = q - r := by rw [cutAt_lt (by omega)]; omega
    have HC := Lib.hid hcut
    clear hcut
    have hs1 := hs.keep K1 (fun h => by simp only [In, List.mem_cons, List.not_mem_nil, or_false] at h; omega)
    go_wp2_with (fail)
    rw [HC.out]
    clear h0 h1 h2 h3 f3 f4
    by_cases hi : i < src.size
    · refine (sread_some s i g (q - r) (4096 - (q - r)) (4096 - (q - r)) _ p src (u8s data1) _ (hs1.drewN _) (B2.drewN _) hi hsz rfl (by have := HD1.out; simp; omega)).mono ?_
      generalize hn : min (src.size - i) (4096 - (q - r)) = n
      have hn1 : 0 < n := by omega
      have hn2 : n ≤ src.size - i := by omega
      have hn3 : n ≤ 4096 - (q - r) := by omega
      have hn1' : decide (0 < (n : Int)) = true := by simpa using hn1
      have hn0' : decide ((n : Int) < 0) = false := by simp
      clear hn
      rintro e w2 ⟨rfl, K2, B3, B4⟩
      have K2 := K2.drewN_left
      have B5 := B1.keep K2 (fun h => by simp only [In, List.mem_cons, List.not_mem_nil, or_false] at h; omega)
      have h3 := B5.cell 3
      have f3 := B5.frozen 3
      simp only [brc, List.getElem?_cons_zero, List.getElem?_cons_succ] at h3
      go_wp2
      refine bodyPost_ret (results_none rfl _ _ _) rfl ?_
      have hd1 := HD1.out
      have hsl := str_size src
      refine ⟨rfl, data1.take (q - r) ++ (src.data.toList.drop i).take n ++ data1.drop (q - r + n), n, err, -1, by rw [List.length_append, List.length_append, List.length_take, List.length_take, List.length_drop, List.length_drop, hd1, hsl]; omega, by omega, by omega, fun _ => ⟨hn1, rfl⟩, fun h => by omega, ?_, ?_, ?_, ?_, ?_⟩
      · exact (B5.set 3 _).to (by simp [brc])
      · exact (B4.set_other hbg _).to (by simp [u8s_take, u8s_drop])
      · exact B3.set_other hbs _
      · have hA : (data1.take (q - r) ++ (src.data.toList.drop i).take n).length = q - r + n := by
          rw [List.length_append, List.length_take, List.length_take, List.length_drop, hd1, hsl]; omega
        rw [List.take_left' hA, HR.out]
      · exact (((K1.mono (fun _ _ h => by simp only [In, List.mem_cons, List.not_mem_nil, or_false] at h ⊢; omega)).trans K2 (fun _ _ h => by simp only [In, List.mem_cons, List.not_mem_nil, or_false] at h ⊢; omega)).setCell (.inl (by simp [In])) _)
    · have he1 := K1.cell HE.out (fun h => by simp only [In, List.mem_cons, List.not_mem_nil, or_false] at h; omega)
      refine (sread_eof s i g (q - r) (4096 - (q - r)) (4096 - (q - r)) src ea _ ((hs1.drewN _).cell 0) ((hs1.drewN _).cell 1) he1 (by omega)).mono ?_
      rintro e w2 ⟨rfl, nn, rfl⟩
      have h3 := B1.cell 3
      have h4 := B1.cell 4
      have f3 := B1.frozen 3
      have f4 := B1.frozen 4
      simp only [brc, List.getElem?_cons_zero, List.getElem?_cons_succ] at h3 h4
      go_wp2
      refine bodyPost_ret (results_none rfl _ _ _) rfl ?_
      refine ⟨rfl, data1, 0, _, p, HD1.out, by omega, by omega, fun h => absurd h hi, fun _ => ⟨rfl, rfl⟩, ?_, ?_, ?_, ?_, ?_⟩
      · exact ((B1.set 3 _).set 4 _).to (by simp [brc])
      · exact (B2.set_other hbg _).set_other hbg _
      · exact ((hs1.set_other hbs _).set_other hbs _)
      · simpa using HR.out
      · exact (((K1.mono (fun _ _ h => by simp only [In, List.mem_cons, List.not_mem_nil, or_false] at h ⊢; omega)).drewN _).setCell (.inl (by simp [In])) _).setCell (.inl (by simp [In])) _
end Go.Proofs.YtjbbapodcngnaaaGreatDoor
namespace Go.Proofs.YtjbbapodcngnaaaGreatDoor
open Go.RowKit

/-- A bufio.Reader at block b, laid open. -/
structure RdD (w : World) (b g s : Nat) (src : ByteArray) (r q i : Nat) (err : Value) (lb lr p : Int) (data : List UInt8) : Prop where
  hd : data.length = 4096
  hrq : r ≤ q
  hq : q ≤ 4096
  hi : i ≤ src.size
  B : Blk w b (brc g s r q err lb lr) 201
  G : Blk w g (u8s data) 5
  S : Blk w s (src3 src i p) 194

/-- What is still to be read. -/
def rest (src : ByteArray) (r q i : Nat) (data : List UInt8) : List UInt8 := (data.drop r).take (q - r) ++ src.data.toList.drop i

/-- The package variables that are read: below N. -/
structure Laid (N : Nat) (ea : Addr) (w : World) : Prop where
  hN : 10 ≤ N
  eof : w.cell? ⟨0, 0, none⟩ = some (.iface 203 (.pointer (some ea)))
  eb : ea.block < N
  ec : ∃ ca ta, w.heap[ea.block]? = some (.cells ca ta (0, 0))
  full : ∃ fa : Addr, w.cell? ⟨3, 0, none⟩ = some (.iface 203 (.pointer (some fa))) ∧ fa.block < N ∧ (∃ ca ta, w.heap[fa.block]? = some (.cells ca ta (0, 0))) ∧ ea ≠ fa

theorem lt_of_cells {w : World} {k : Nat} {ca : Array Value} {ta : TypeId} {f : Nat × Nat} (h : w.heap[k]? = some (.cells ca ta f)) : k < w.heap.size := (Array.getElem?_eq_some_iff.1 h).1

theorem Laid.keep {N : Nat} {ea : Addr} {w w' : World} {S : Nat → Prop} (h : Laid N ea w) (k : Keeps S w w') (hS : ∀ x, S x → N ≤ x) : Laid N ea w' := by
  have hN := h.hN
  obtain ⟨ca, ta, hc⟩ := h.ec
  have heb := h.eb
  obtain ⟨fa, h1, h2, ⟨cb, tb, h3⟩, h4⟩ := h.full
  refine ⟨hN, k.cell h.eof (fun hx => by have := hS _ hx; simp at this; omega), heb, ⟨ca, ta, ?_⟩, fa, k.cell h1 (fun hx => by have := hS _ hx; simp at this; omega), h2, ⟨cb, tb, ?_⟩, h4⟩
  · exact (k.block _ (lt_of_cells hc) (fun hx => by have := hS _ hx; omega)).trans hc
  · exact (k.block _ (lt_of_cells h3) (fun hx => by have := hS _ hx; omega)).trans h3
theorem Laid.keep_no {N : Nat} {ea : Addr} {w w' : World} (h : Laid N ea w) (k : Keeps No w w') : Laid N ea w' := h.keep k (fun _ h => h.elim)

/-- What lies around a reader. -/
structure Env (N b g s : Nat) (src : ByteArray) (ea : Addr) (w : World) : Prop where
  hsz : src.size ≤ 1000000000
  hB : N ≤ b
  hG : N ≤ g
  hS : N ≤ s
  laid : Laid N ea w

theorem Env.keep {N b g s : Nat} {src : ByteArray} {ea : Addr} {w w' : World} (h : Env N b g s src ea w) {l : List Nat} (k : Keeps (In l) w w') (hl : ∀ x ∈ l, N ≤ x) : Env N b g s src ea w' :=
  ⟨h.hsz, h.hB, h.hG, h.hS, h.laid.keep k (fun x hx => hl x hx)⟩
theorem Env.keep3 {N b g s : Nat} {src : ByteArray} {ea : Addr} {w w' : World} (h : Env N b g s src ea w) (k : Keeps (In [b, g, s]) w w') : Env N b g s src ea w' :=
  h.keep k (fun x hx => by have := h.hB; have := h.hG; have := h.hS; simp at hx; omega)
theorem Env.keep_no {N b g s : Nat} {src : ByteArray} {ea : Addr} {w w' : World} (h : Env N b g s src ea w) (k : Keeps No w w') : Env N b g s src ea w' := ⟨h.hsz, h.hB, h.hG, h.hS, h.laid.keep_no k⟩
theorem Env.drewN {N b g s : Nat} {src : ByteArray} {ea : Addr} {w : World} (h : Env N b g s src ea w) (n : Nat) : Env N b g s src ea (w.drewN n) := h.keep_no ((Keeps.refl _ _).drewN n)
theorem Env.gB {N b g s : Nat} {src : ByteArray} {ea : Addr} {w : World} (h : Env N b g s src ea w) : 10 ≤ b := Nat.le_trans h.laid.hN h.hB
theorem Env.gG {N b g s : Nat} {src : ByteArray} {ea : Addr} {w : World} (h : Env N b g s src ea w) : 10 ≤ g := Nat.le_trans h.laid.hN h.hG
theorem Env.gS {N b g s : Nat} {src : ByteArray} {ea : Addr} {w : World} (h : Env N b g s src ea w) : 10 ≤ s := Nat.le_trans h.laid.hN h.hS

section
variable {w : World} {b g s : Nat} {src : ByteArray} {r q i : Nat} {err : Value} {lb lr p : Int} {data : List UInt8}
theorem RdD.bg (h : RdD w b g s src r q i err lb lr p data) : b ≠ g := h.B.ne h.G (by decide)
theorem RdD.bs (h : RdD w b g s src r q i err lb lr p data) : b ≠ s := h.B.ne h.S (by decide)
theorem RdD.sg (h : RdD w b g s src r q i err lb lr p data) : s ≠ g := h.S.ne h.G (by decide)
theorem RdD.cells (h : RdD w b g s src r q i err lb lr p data) : w.cell? ⟨b, 0, none⟩ = some (.slice (some ⟨g, 0, none⟩) 4096 4096) ∧ w.cell? ⟨b, 2, none⟩ = some (.int .i64 r) ∧ w.cell? ⟨b, 3, none⟩ = some (.int .i64 q) ∧
    w.cell? ⟨b, 4, none⟩ = some err ∧ w.cell? ⟨b, 5, none⟩ = some (.int .i64 lb) ∧ w.cell? ⟨b, 6, none⟩ = some (.int .i64 lr) :=
  ⟨h.B.cell 0, h.B.cell 2, h.B.cell 3, h.B.cell 4, h.B.cell 5, h.B.cell 6⟩
theorem RdD.drewN (h : RdD w b g s src r q i err lb lr p data) (n : Nat) : RdD (w.drewN n) b g s src r q i err lb lr p data := ⟨h.hd, h.hrq, h.hq, h.hi, h.B, h.G, h.S⟩
/-- Other cells of the reader itself. -/
theorem RdD.to (h : RdD w b g s src r q i err lb lr p data) {w' : World} (k : Keeps (In [b]) w w') {r' q' : Nat} {err' : Value} {lb' lr' : Int} (hrq : r' ≤ q') (hq : q' ≤ 4096)
    (B : Blk w' b (brc g s r' q' err' lb' lr') 201) : RdD w' b g s src r' q' i err' lb' lr' p data :=
  have h1 := h.bg
  have h2 := h.bs
  ⟨h.hd, hrq, hq, h.hi, B, h.G.keep k (fun h => by simp only [In, List.mem_cons, List.not_mem_nil, or_false] at h; omega), h.S.keep k (fun h => by simp only [In, List.mem_cons, List.not_mem_nil, or_false] at h; omega)⟩
theorem RdD.at_ (h : RdD w b g s src r q i err lb lr p data) (j : Nat) (hj : j < 4096) : w.cell? ⟨g, j, none⟩ = some (byt (data[j]'(by rw [h.hd]; exact hj))) := by
  rw [h.G.cell j, u8s_get]
  simp [h.hd, hj]
end

theorem rest_end {src : ByteArray} {r q i : Nat} {data : List UInt8} (hi : src.size ≤ i) : rest src r q i data = (data.drop r).take (q - r) := by
  have h : src.data.toList.drop i = [] := List.drop_eq_nil_of_le (by rw [str_size]; exact hi)
  unfold rest
  rw [h, List.append_nil]

theorem rest_fill {src : ByteArray} {r q i n : Nat} {data data' : List UInt8} (h : data'.take (q - r + n) = (data.drop r).take (q - r) ++ (src.data.toList.drop i).take n) :
    rest src 0 (q - r + n) (i + n) data' = rest src r q i data := by
  unfold rest
  rw [List.drop_zero, Nat.sub_zero, h, List.append_assoc]
  congr 1
  rw [← List.drop_drop, List.take_append_drop]

theorem fill_rd (b g s r q i : Nat) (src : ByteArray) (err : Value) (ea : Addr) (lb lr p : Int) (data : List UInt8) (w : World) (h : RdD w b g s src r q i err lb lr p data) (hf : q - r < 4096) {N : Nat} (E : Env N b g s src ea w) :
    Calls Tryz.prog 139 #[.pointer (some ⟨b, 0, none⟩)] w fun e w' => e = .returned (.tuple #[]) ∧
      ∃ (data' : List UInt8) (n : Nat) (err' : Value) (p' : Int), RdD w' b g s src 0 (q - r + n) (i + n) err' lb lr p' data' ∧ (i < src.size → 0 < n ∧ err' = err) ∧ (src.size ≤ i → n = 0 ∧ err' = (.iface 203 (.pointer (some ea)))) ∧
        rest src 0 (q - r + n) (i + n) data' = rest src r q i data ∧ data'.take (q - r) = (data.drop r).take (q - r) ∧ Keeps (In [b, g, s]) w w' := by
  refine (fill_any b g s r q i src err ea lb lr p data w h.hd h.hrq h.hq hf h.hi E.hsz h.B h.G h.S E.laid.eof E.gB E.gG E.gS).mono ?_
  rintro e w' ⟨rfl, data', n, err', p', h1, h2, h3, h4, h5, B, G, S, ht, K⟩
  refine ⟨rfl, data', n, err', p', ⟨h1, Nat.zero_le _, h2, h3, B, G, S⟩, h4, h5, rest_fill ht, ?_, K⟩
  have h6 : (data'.take (q - r + n)).take (q - r) = data'.take (q - r) := by rw [List.take_take]; congr 1; omega
  have hl : ((data.drop r).take (q - r)).length = q - r := by have := h.hd; have := h.hq; simp; omega
  rw [← h6, ht, List.take_left' hl]

/-- readErr hands the error over, and forgets it. -/
theorem readErr_any (b : Nat) (cs : List Value) (err : Value) (w : World) (hb : Blk w b cs 201) (h4 : cs[4]? = some err) :
    Calls Tryz.prog 140 #[.pointer (some ⟨b, 0, none⟩)] w fun e w' => e = .returned err ∧ w.setCell ⟨b, 4, none⟩ .nilIface = w' := by
  have h := (hb.cell 4).trans h4
  have f := hb.frozen 4
  go_enter Tryz.func140, Tryz.ntmps140
  go_wp2
  go_ret
  exact ⟨rfl, rfl⟩

theorem w64_u8 (c : UInt8) : wrap64 (c.toNat : Int) = c.toNat := by have := c.toNat_lt; unfold wrap64; omega

theorem rest_cons {src : ByteArray} {r q i : Nat} {data : List UInt8} (hd : data.length = 4096) (hrq : r < q) (hq : q ≤ 4096) : rest src r q i data = data[r]'(by omega) :: rest src (r + 1) q i data := by
  unfold rest
  rw [List.drop_eq_getElem_cons (by omega), show q - r = (q - (r + 1)) + 1 by omega, List.take_succ_cons, List.cons_append]

set_option maxRecDepth 100000 in
set_option maxHeartbeats 400000 in
theorem readByte_some (b g s r q i : Nat) (src : ByteArray) (ea : Addr) (lb lr p : Int) (data : List UInt8) (w : World) (h : RdD w b g s src r q i .nilIface lb lr p data) {N : Nat} (E : Env N b g s src ea w) (c : UInt8) (c' : List UInt8) (hc : rest src r q i data = c :: c') :
    Calls Tryz.prog 186 #[.pointer (some ⟨b, 0, none⟩)] w fun e w' => e = .returned (.tuple #[.int .u8 c.toNat, .nilIface]) ∧
      ∃ (r' q' i' : Nat) (p' : Int) (data' : List UInt8), RdD w' b g s src (r' + 1) q' i' .nilIface c.toNat (-1) p' data' ∧ rest src (r' + 1) q' i' data' = c' ∧ data'[r']? = some c ∧ Keeps (In [b, g, s]) w w' := by
  obtain ⟨h0, h2, h3, h4, h5, h6⟩ := h.cells
  have fz := h.B.frozen
  have H := Lib.hid h
  have HE := Lib.hid E
  have HC := Lib.hid hc
  have hrq := h.hrq
  have hq := h.hq
  have hbg := h.bg
  clear h hc E
  go_enter Tryz.func186, Tryz.ntmps186
  go_upto_block 0 with (fail)
  go_cut [] (fun wx => ∃ (r' q' i' : Nat) (p' : Int) (data' : List UInt8), RdD wx b g s src r' q' i' .nilIface lb (-1) p' data' ∧ r' < q' ∧ rest src r' q' i' data' = c :: c' ∧ Keeps (In [b, g, s]) w wx)
  case first =>
    by_cases hlt : r < q
    · have e1 : ((r : Int) == (q : Int)) = false := by simp; omega
      have e2 : (r == q) = false := by simp; omega
      go_wp2
      refine wp_loop_rounds 1 ?_
      rw [rounds_succ]
      go_wp2
      go_quiet (fail)
      go_wp2
      go_meet
      exact ⟨r, q, i, p, data, H.out.to (by repeat (first | assumption | exact Keeps.refl _ _ | apply Keeps.drewN | apply Keeps.drew | apply Keeps.alloc | (refine Keeps.setCell ?_ (.inl (by simp [In])) _))) hrq hq (((H.out.B.set 6 _).drewN _).to rfl), hlt, HC.out, (by repeat (first | assumption | exact Keeps.refl _ _ | apply Keeps.drewN | apply Keeps.drew | apply Keeps.alloc | (refine Keeps.setCell ?_ (.inl (by simp [In])) _)))⟩
    · obtain rfl : r = q := by omega
      have hi : i < src.size := by
        rcases Nat.lt_or_ge i src.size with h | h
        · exact h
        · have h1 := HC.out
          have h2 : src.data.toList.drop i = [] := List.drop_eq_nil_of_le (by rw [str_size]; exact h)
          unfold rest at h1
          rw [h2] at h1
          simp at h1
      go_wp2
      refine wp_loop_rounds 2 ?_
      rw [rounds_succ]
      go_wp2
      go_quiet (fail)
      go_wp2_with (fail)
      refine calls_as fun W1 hW1 => ?_
      obtain ⟨R1, K1⟩ : RdD W1 b g s src r r i .nilIface lb (-1) p data ∧ Keeps (In [b]) w W1 := by
        subst hW1
        exact ⟨H.out.to (by repeat (first | assumption | exact Keeps.refl _ _ | apply Keeps.drewN | apply Keeps.drew | apply Keeps.alloc | (refine Keeps.setCell ?_ (.inl (by simp [In])) _))) hrq hq (((H.out.B.set 6 _).drewN _).to rfl), (by repeat (first | assumption | exact Keeps.refl _ _ | apply Keeps.drewN | apply Keeps.drew | apply Keeps.alloc | (refine Keeps.setCell ?_ (.inl (by simp [In])) _)))⟩
      clear hW1 h0 h2 h3 h4 h5 h6 fz
      refine (fill_rd b g s r r i src .nilIface ea lb (-1) p data W1 R1 (by omega) (HE.out.keep K1 (by simpa using HE.out.hB))).mono ?_
      rintro e W2 ⟨rfl, data', n, err', p', R2, hn, -, hr, -, K2⟩
      obtain ⟨hn, rfl⟩ := hn hi
      obtain ⟨h0, h2, h3, h4, h5, h6⟩ := R2.cells
      have HR := Lib.hid R2
      have HC2 := Lib.hid hr
      have e1 : ((0 : Int) == ((r - r + n : Nat) : Int)) = false := by simp; omega
      clear R2 hr
      go_wp2
      rw [rounds_succ]
      go_wp2
      go_quiet (fail)
      go_wp2
      go_meet
      exact ⟨0, _, _, p', data', HR.out.drewN _, by omega, HC2.out.trans HC.out, ((K1.mono (fun _ _ h => by simp only [In, List.mem_cons, List.not_mem_nil, or_false] at h ⊢; omega)).trans K2 (fun _ _ h => by simp only [In, List.mem_cons, List.not_mem_nil, or_false] at h ⊢; omega)).drewN _⟩
  case rest =>
    obtain ⟨r', q', i', p', data', R1, hlt, hr1, K1⟩ := hcut
    clear h0 h2 h3 h4 h5 h6 fz hrq hq
    obtain ⟨h0, h2, h3, h4, h5, h6⟩ := R1.cells
    have fz := R1.B.frozen
    have hq := R1.hq
    rw [rest_cons R1.hd hlt hq] at hr1
    have hr4 : r' < 4096 := by omega
    have hx := R1.at_ r' hr4
    injection hr1 with hr2 hr3
    rw [hr2] at hx
    unfold byt at hx
    have HR := Lib.hid R1
    have hx' : data'[r']? = some c := by rw [List.getElem?_eq_getElem (by rw [R1.hd]; exact hr4), hr2]
    have HX := Lib.hid hx'
    have HY := Lib.hid hr3
    have b1 : (r' : Int) < 4096 := by omega
    have hw := w64_u8 c
    clear hx' hr2 hr3
    clear R1
    go_wp2
    go_quiet (fail)
    go_wp2
    go_ret2
    refine ⟨rfl, r', q', i', p', data', HR.out.to (by repeat (first | assumption | exact Keeps.refl _ _ | apply Keeps.drewN | apply Keeps.drew | apply Keeps.alloc | (refine Keeps.setCell ?_ (.inl (by simp [In])) _))) hlt hq (((HR.out.B.set 2 _).set 5 _).to (by simp [brc])), HY.out, HX.out, (by repeat (first | assumption | exact Keeps.refl _ _ | apply Keeps.drewN | apply Keeps.drew | apply Keeps.alloc | (refine Keeps.setCell ?_ (.inl (by simp [In])) _)))⟩

set_option maxRecDepth 100000 in
set_option maxHeartbeats 400000 in
theorem readByte_none (b g s r q i : Nat) (src : ByteArray) (ea : Addr) (lb lr p : Int) (data : List UInt8) (w : World) (h : RdD w b g s src r q i .nilIface lb lr p data) {N : Nat} (E : Env N b g s src ea w) (hc : rest src r q i data = []) :
    Calls Tryz.prog 186 #[.pointer (some ⟨b, 0, none⟩)] w fun e w' => e = .returned (.tuple #[.int .u8 0, (.iface 203 (.pointer (some ea)))]) ∧
      ∃ (r' q' i' : Nat) (p' : Int) (data' : List UInt8), RdD w' b g s src r' q' i' .nilIface lb (-1) p' data' ∧ rest src r' q' i' data' = [] ∧ Keeps (In [b, g, s]) w w' := by
  obtain ⟨h0, h2, h3, h4, h5, h6⟩ := h.cells
  have fz := h.B.frozen
  have hd := h.hd
  have hrq := h.hrq
  have hq := h.hq
  have hbg := h.bg
  obtain ⟨hq0, hi0⟩ : r = q ∧ src.size ≤ i := by
    have h1 := congrArg List.length hc
    unfold rest at h1
    have h2 := str_size src
    simp at h1
    omega
  subst hq0
  have H := Lib.hid h
  have HE := Lib.hid E
  have HC := Lib.hid hc
  clear h hc E hd
  go_enter Tryz.func186, Tryz.ntmps186
  go_wp2
  refine wp_loop_rounds 2 ?_
  rw [rounds_succ]
  go_wp2
  go_quiet (fail)
  go_wp2_with (fail)
  refine calls_as fun W1 hW1 => ?_
  obtain ⟨R1, K1⟩ : RdD W1 b g s src r r i .nilIface lb (-1) p data ∧ Keeps (In [b]) w W1 := by
    subst hW1
    exact ⟨H.out.to (by repeat (first | assumption | exact Keeps.refl _ _ | apply Keeps.drewN | apply Keeps.drew | apply Keeps.alloc | (refine Keeps.setCell ?_ (.inl (by simp [In])) _))) hrq hq (((H.out.B.set 6 _).drewN _).to rfl), (by repeat (first | assumption | exact Keeps.refl _ _ | apply Keeps.drewN | apply Keeps.drew | apply Keeps.alloc | (refine Keeps.setCell ?_ (.inl (by simp [In])) _)))⟩
  clear hW1 h0 h2 h3 h4 h5 h6 fz
  refine (fill_rd b g s r r i src .nilIface ea lb (-1) p data W1 R1 (by omega) (HE.out.keep K1 (by simpa using HE.out.hB))).mono ?_
  rintro e W2 ⟨rfl, data', n, err', p', R2, -, hn, hr, -, K2⟩
  obtain ⟨rfl, rfl⟩ := hn hi0
  obtain ⟨h0, h2, h3, h4, h5, h6⟩ := R2.cells
  have fz := R2.B.frozen
  have HR := Lib.hid R2
  have HC2 := Lib.hid hr
  have e1 : ((0 : Int) == ((r - r + 0 : Nat) : Int)) = true := by simp
  clear R2 hr
  go_wp2
  rw [rounds_succ]
  go_wp2
  go_quiet (fail)
  go_wp2_with (go_at_call 140; refine (readErr_any b _ _ _ (HR.out.B.drewN _) rfl).mono ?_; rintro e w3 ⟨rfl, rfl⟩)
  go_ret2
  refine ⟨rfl, 0, r - r + 0, i + 0, p', data', HR.out.to (by repeat (first | assumption | exact Keeps.refl _ _ | apply Keeps.drewN | apply Keeps.drew | apply Keeps.alloc | (refine Keeps.setCell ?_ (.inl (by simp [In])) _))) (by omega) (by omega) (((HR.out.B.drewN _).set 4 _).to rfl), HC2.out.trans HC.out, ?_⟩
  exact (((K1.mono (fun _ _ h => by simp only [In, List.mem_cons, List.not_mem_nil, or_false] at h ⊢; omega)).trans K2 (fun _ _ h => by simp only [In, List.mem_cons, List.not_mem_nil, or_false] at h ⊢; omega)).drewN _).setCell (.inl (by simp [In])) _
end Go.Proofs.YtjbbapodcngnaaaGreatDoor
namespace Go.Proofs.YtjbbapodcngnaaaGreatDoor
open Go.RowKit Hdr

/-! ### bytes.IndexByte -/
theorem ixb_none {l : List UInt8} {c : UInt8} (h : c ∉ l) : Lib.indexByte l c = -1 := by
  induction l with
  | nil => rfl
  | cons x l ih =>
    simp only [List.mem_cons, not_or] at h
    have hx : (x == c) = false := by simpa using (fun e => h.1 e.symm)
    simp [Lib.indexByte, hx, ih h.2]
theorem ixb_some {l m : List UInt8} {c : UInt8} (h : c ∉ l) : Lib.indexByte (l ++ c :: m) c = l.length := by
  induction l with
  | nil => simp [Lib.indexByte]
  | cons x l ih =>
    simp only [List.mem_cons, not_or] at h
    have hx : (x == c) = false := by simpa using (fun e => h.1 e.symm)
    have h1 : ((l.length : Int) == -1) = false := by simp
    simp [Lib.indexByte, hx, ih h.2, h1]

theorem bytesOf_u8 (l : List UInt8) : Lib.bytesOf (l.map fun c => (c.toNat : Int)) = l := by
  simp only [Lib.bytesOf, List.map_map]
  rw [List.map_congr_left (g := id)]
  · simp
  · intro c _; simp

theorem getD_u8 (l : List UInt8) (i : Nat) (h : i < l.length) : (l.map fun c => (c.toNat : Int)).getD i 0 = (l[i].toNat : Int) := by
  simp [List.getD_eq_getElem?_getD, h]

set_option maxRecDepth 100000 in
theorem indexByte_any (b o cap : Nat) (l : List UInt8) (c : UInt8) (w : World) (h : BytesAt w b o l) :
    Calls Tryz.prog 98 #[.slice (some ⟨b, o, none⟩) l.length cap, .int .u8 c.toNat] w fun e w' => e = .returned (.int .i64 (Lib.indexByte l c)) ∧ w' = w := by
  have hr := Lib.run_indexByteSlice (P := Tryz.prog) w b o l.length cap (l.map fun c => (c.toNat : Int)) (by simp) (fun i hi => by rw [getD_u8 l i hi]; exact h.cell hi) c.toNat
  rw [bytesOf_u8] at hr
  simp only [Int.toNat_natCast, Nat.toUInt8_eq, UInt8.ofNat_toNat] at hr
  go_enter Tryz.func98, Tryz.ntmps98
  go_wp2
  rw [run_callFunc_extern Tryz.func134 (by kernel_rfl) (by kernel_rfl) (by kernel_rfl) (e := Extern.BytealgIndexByte.indexByte) (by kernel_rfl), hr]
  simp only [Result.andThen]
  rw [Oper.upon_value]
  go_wp2
  go_ret
  exact ⟨rfl, rfl⟩

/-! ### blanks -/
theorem isSpace_any (c : UInt8) (w : World) :
    Calls Tryz.prog 103 #[.int .u8 c.toNat] w fun e w' => e = .returned (.bool (sp c)) ∧ w' = w := by
  by_cases h1 : c = 32
  · subst h1
    have e : ((32 : UInt8).toNat : Int) = 32 := rfl
    rw [e]
    go_enter Tryz.func103, Tryz.ntmps103
    go_wp2
    go_ret
    exact ⟨rfl, rfl⟩
  · by_cases h2 : c = 9
    · subst h2
      have e : ((9 : UInt8).toNat : Int) = 9 := rfl
      rw [e]
      go_enter Tryz.func103, Tryz.ntmps103
      go_wp2
      go_ret
      exact ⟨rfl, rfl⟩
    · have g : sp c = false := by simp [sp, h1, h2]
      have h1' : c.toNat ≠ 32 := fun e => h1 (UInt8.toNat.inj e)
      have h2' : c.toNat ≠ 9 := fun e => h2 (UInt8.toNat.inj e)
      have e1 : ((c.toNat : Int) == 32) = false := by simp; omega
      have e2 : ((c.toNat : Int) == 9) = false := by simp; omega
      have G := Lib.hid g
      clear g
      go_enter Tryz.func103, Tryz.ntmps103
      go_wp2
      go_ret
      exact ⟨by rw [G.out]; rfl, rfl⟩

/-! ### UnreadByte, hasContinuationLine -/
set_option maxRecDepth 100000 in
theorem unreadByte_any (b g s r q i : Nat) (src : ByteArray) (lr p : Int) (data : List UInt8) (c : UInt8) (w : World) (h : RdD w b g s src (r + 1) q i .nilIface c.toNat lr p data) (hc : data[r]? = some c) :
    Calls Tryz.prog 187 #[.pointer (some ⟨b, 0, none⟩)] w fun e w' => e = .returned .nilIface ∧ RdD w' b g s src r q i .nilIface (-1) (-1) p data ∧ Keeps (In [b, g, s]) w w' := by
  obtain ⟨h0, h2, h3, h4, h5, h6⟩ := h.cells
  have fz := h.B.frozen
  have fg := h.G.frozen
  have hq := h.hq
  have hrq := h.hrq
  have hbg := h.bg
  have hr4 : r < 4096 := by omega
  have hx := h.at_ r hr4
  have hcc : data[r]'(by rw [h.hd]; exact hr4) = c := by
    rw [List.getElem?_eq_getElem (by rw [h.hd]; exact hr4)] at hc; exact Option.some.inj hc
  rw [hcc] at hx
  unfold byt at hx
  have H := Lib.hid h
  have HC := Lib.hid hc
  have b1 : (r : Int) < 4096 := by omega
  have b0 : (0 : Int) ≤ (c.toNat : Int) := by omega
  have e0 : decide ((c.toNat : Int) < 0) = false := by simp
  have e1 : (((r : Int) + 1) == 0) = false := by simp; omega
  have e2 : decide ((0 : Int) < (r : Int) + 1) = true := decide_eq_true (by omega)
  have e4 : (c.toNat : Int) < 256 := by have := c.toNat_lt; omega
  have e3 : ((r + 1 : Nat) : Int) = (r : Int) + 1 := by omega
  rw [e3] at h2
  clear h hcc hc e3
  go_enter Tryz.func187, Tryz.ntmps187
  go_wp2
  refine region_mid 14 (by kernel_rfl) (by kernel_rfl) ?_
  simp only [List.take_succ_cons, List.take_zero, List.drop_succ_cons, List.drop_zero]
  repeat (quiet_step (fail))
  refine wpQuiet_nil ?_
  intro wq hwq
  obtain ⟨nq, rfl⟩ := hwq
  go_wp2
  go_ret
  have hH := H.out
  refine ⟨rfl, ⟨hH.hd, by omega, hq, hH.hi, ?_, ?_, ?_⟩, (by repeat (first | assumption | exact Keeps.refl _ _ | apply Keeps.drewN | apply Keeps.drew | apply Keeps.alloc | (refine Keeps.setCell ?_ (.inl (by simp [In])) _)))⟩
  · exact ((((hH.B.set 2 _).drewN _).set_other (Ne.symm hbg) _).set 5 _).set 6 _
  · exact (((((hH.G.set_other hbg _).drewN nq).set_same (by rw [u8s_get, HC.out]; rfl)).set_other hbg _).set_other hbg _)
  · have h1 := hH.bs
    have h2 := hH.sg
    exact (((((hH.S.set_other h1 _).drewN _).set_other (Ne.symm h2) _).set_other h1 _).set_other h1 _)

/-- A bufio.Reader at block b; c is still to be read. -/
def Rd (w : World) (b g s : Nat) (src : ByteArray) (c : List UInt8) : Prop :=
  ∃ (r q i : Nat) (lb lr p : Int) (data : List UInt8), RdD w b g s src r q i .nilIface lb lr p data ∧ rest src r q i data = c

theorem Rd.drewN {w : World} {b g s : Nat} {src : ByteArray} {c : List UInt8} (h : Rd w b g s src c) (n : Nat) : Rd (w.drewN n) b g s src c := by
  obtain ⟨r, q, i, lb, lr, p, data, h, hr⟩ := h
  exact ⟨r, q, i, lb, lr, p, data, h.drewN n, hr⟩
theorem Rd.keep {w w' : World} {b g s : Nat} {src : ByteArray} {c : List UInt8} {S : Nat → Prop} (h : Rd w b g s src c) (k : Keeps S w w') (hb : ¬ S b) (hg : ¬ S g) (hs : ¬ S s) : Rd w' b g s src c := by
  obtain ⟨r, q, i, lb, lr, p, data, h, hr⟩ := h
  exact ⟨r, q, i, lb, lr, p, data, ⟨h.hd, h.hrq, h.hq, h.hi, h.B.keep k hb, h.G.keep k hg, h.S.keep k hs⟩, hr⟩

set_option maxRecDepth 100000 in
theorem hasCont_none (b g s : Nat) (src : ByteArray) (ea : Addr) (w : World) (h : Rd w b g s src []) {N : Nat} (E : Env N b g s src ea w) :
    Calls Tryz.prog 142 #[.pointer (some ⟨b, 0, none⟩)] w fun e w' => e = .returned (.bool false) ∧ Rd w' b g s src [] ∧ Keeps (In [b, g, s]) w w' := by
  obtain ⟨r, q, i, lb, lr, p, data, h, hr⟩ := h
  have H := readByte_none b g s r q i src ea lb lr p data w h E hr
  clear h hr E
  go_enter Tryz.func142, Tryz.ntmps142
  go_wp2_with (fail)
  refine H.mono ?_
  rintro e w1 ⟨rfl, r', q', i', p', data', R, hr, K⟩
  have HR := Lib.hid hr
  clear hr
  go_wp2
  go_ret
  exact ⟨rfl, ⟨r', q', i', lb, -1, p', data', R, HR.out⟩, K⟩

set_option maxRecDepth 100000 in
theorem hasCont_some (b g s : Nat) (src : ByteArray) (ea : Addr) (w : World) (x : UInt8) (c : List UInt8) (h : Rd w b g s src (x :: c)) {N : Nat} (E : Env N b g s src ea w) :
    Calls Tryz.prog 142 #[.pointer (some ⟨b, 0, none⟩)] w fun e w' => e = .returned (.bool (sp x)) ∧ Rd w' b g s src (x :: c) ∧ Keeps (In [b, g, s]) w w' := by
  obtain ⟨r, q, i, lb, lr, p, data, h, hr⟩ := h
  have H := readByte_some b g s r q i src ea lb lr p data w h E x c hr
  clear h hr E
  go_enter Tryz.func142, Tryz.ntmps142
  go_wp2_with (fail)
  refine H.mono ?_
  rintro e w1 ⟨rfl, r', q', i', p', data', R, hr, hx, K⟩
  have HR := Lib.hid hr
  have HX := Lib.hid hx
  clear hr hx
  go_wp2_with (fail)
  refine (unreadByte_any b g s r' q' i' src (-1) p' data' x w1 R HX.out).mono ?_
  rintro e w2 ⟨rfl, R2, K2⟩
  go_wp2_with (fail)
  refine (isSpace_any x _).mono ?_
  rintro e w3 ⟨rfl, rfl⟩
  go_wp2
  go_ret
  refine ⟨rfl, ⟨r', q', i', -1, -1, p', data', R2, ?_⟩, K.trans' K2⟩
  rw [rest_cons R2.hd (by have := R.hrq; omega) R2.hq, HR.out]
  congr 1
  have := HX.out
  rw [List.getElem?_eq_getElem (by rw [R2.hd]; have := R.hrq; have := R.hq; omega)] at this
  exact Option.some.inj this

/-- hasContinuationLine: does the next line begin with a blank? Nothing is taken. -/
theorem hasCont (b g s : Nat) (src : ByteArray) (ea : Addr) (w : World) (c : List UInt8) (h : Rd w b g s src c) {N : Nat} (E : Env N b g s src ea w) :
    Calls Tryz.prog 142 #[.pointer (some ⟨b, 0, none⟩)] w fun e w' => e = .returned (.bool (spHead c)) ∧ Rd w' b g s src c ∧ Keeps (In [b, g, s]) w w' := by
  cases c with
  | nil => exact hasCont_none b g s src ea w h E
  | cons x c => exact hasCont_some b g s src ea w x c h E
end Go.Proofs.YtjbbapodcngnaaaGreatDoor
namespace Go.Proofs.YtjbbapodcngnaaaGreatDoor
open Go.RowKit

/-- Peek(1): the next byte. -/
def PeekPost (b g s : Nat) (src : ByteArray) (x : UInt8) (c : List UInt8) (w : World) (e : Ending) (w' : World) : Prop :=
  ∃ o cap : Nat, e = .returned (.tuple #[.slice (some ⟨g, o, none⟩) 1 cap, .nilIface]) ∧ w'.cell? ⟨g, o, none⟩ = some (byt x) ∧ Rd w' b g s src (x :: c) ∧ Keeps (In [b, g, s]) w w'

set_option maxRecDepth 100000 in
set_option maxHeartbeats 1000000 in
theorem peek_some (b g s : Nat) (src : ByteArray) (ea : Addr) (w : World) (x : UInt8) (c : List UInt8) (h : Rd w b g s src (x :: c)) {N : Nat} (E : Env N b g s src ea w) :
    Calls Tryz.prog 102 #[.pointer (some ⟨b, 0, none⟩), .int .i64 1] w (PeekPost b g s src x c w) := by
  obtain ⟨r, q, i, lb, lr, p, data, h, hc⟩ := h
  obtain ⟨h0, h2, h3, h4, h5, h6⟩ := h.cells
  have fz := h.B.frozen
  have H := Lib.hid h
  have HE := Lib.hid E
  have HC := Lib.hid hc
  have hrq := h.hrq
  have hq := h.hq
  clear h hc E
  go_enter Tryz.func102, Tryz.ntmps102
  go_upto_block 0 with (fail)
  go_cut [] (fun wx => ∃ (r' q' i' : Nat) (p' : Int) (data' : List UInt8), RdD wx b g s src r' q' i' .nilIface (-1) (-1) p' data' ∧ r' < q' ∧ rest src r' q' i' data' = x :: c ∧ Keeps (In [b, g, s]) w wx)
  case first =>
    by_cases hlt : r < q
    · have e1 : decide ((q : Int) - r < 1) = false := decide_eq_false (by omega)
      have e2 : (1 : Int) ≤ (q : Int) - r := by omega
      go_wp2
      refine wp_loop_rounds 1 ?_
      rw [rounds_succ]
      go_wp2
      go_quiet (fail)
      go_wp2
      go_meet
      exact ⟨r, q, i, p, data, H.out.to (by repeat (first | assumption | exact Keeps.refl _ _ | apply Keeps.drewN | apply Keeps.drew | apply Keeps.alloc | (refine Keeps.setCell ?_ (.inl (by simp [In])) _))) hrq hq ((((H.out.B.set 5 _).set 6 _).drewN _).to rfl), hlt, HC.out, (by repeat (first | assumption | exact Keeps.refl _ _ | apply Keeps.drewN | apply Keeps.drew | apply Keeps.alloc | (refine Keeps.setCell ?_ (.inl (by simp [In])) _)))⟩
    · obtain rfl : r = q := by omega
      have hi : i < src.size := by
        rcases Nat.lt_or_ge i src.size with h | h
        · exact h
        · have h1 := HC.out
          have h2 : src.data.toList.drop i = [] := List.drop_eq_nil_of_le (by rw [str_size]; exact h)
          unfold rest at h1
          rw [h2] at h1
          simp at h1
      go_wp2
      refine wp_loop_rounds 2 ?_
      rw [rounds_succ]
      go_wp2
      go_quiet (fail)
      go_wp2_with (fail)
      refine calls_as fun W1 hW1 => ?_
      obtain ⟨R1, K1⟩ : RdD W1 b g s src r r i .nilIface (-1) (-1) p data ∧ Keeps (In [b]) w W1 := by
        subst hW1
        exact ⟨H.out.to (by repeat (first | assumption | exact Keeps.refl _ _ | apply Keeps.drewN | apply Keeps.drew | apply Keeps.alloc | (refine Keeps.setCell ?_ (.inl (by simp [In])) _))) hrq hq ((((H.out.B.set 5 _).set 6 _).drewN _).to rfl), (by repeat (first | assumption | exact Keeps.refl _ _ | apply Keeps.drewN | apply Keeps.drew | apply Keeps.alloc | (refine Keeps.setCell ?_ (.inl (by simp [In])) _)))⟩
      clear hW1 h0 h2 h3 h4 h5 h6 fz
      refine (fill_rd b g s r r i src .nilIface ea (-1) (-1) p data W1 R1 (by omega) (HE.out.keep K1 (by simpa using HE.out.hB))).mono ?_
      rintro e W2 ⟨rfl, data', n, err', p', R2, hn, -, hr, -, K2⟩
      obtain ⟨hn, rfl⟩ := hn hi
      obtain ⟨h0, h2, h3, h4, h5, h6⟩ := R2.cells
      have HR := Lib.hid R2
      have HC2 := Lib.hid hr
      have e3 : (1 : Int) ≤ (n : Int) := by omega
      have e1 : decide ((n : Int) < 1) = false := decide_eq_false (by omega)
      have e5 : (n : Int) ≤ 4096 := by have := R2.hq; omega
      have e4 : ((r - r + n : Nat) : Int) = n := by omega
      rw [e4] at h3
      clear R2 hr e4
      go_wp2
      rw [rounds_succ]
      go_wp2
      go_quiet (fail)
      go_wp2
      go_meet
      exact ⟨0, _, _, p', data', HR.out.drewN _, by omega, HC2.out.trans HC.out, ((K1.mono (fun _ _ h => by simp only [In, List.mem_cons, List.not_mem_nil, or_false] at h ⊢; omega)).trans K2 (fun _ _ h => by simp only [In, List.mem_cons, List.not_mem_nil, or_false] at h ⊢; omega)).drewN _⟩
  case rest =>
    obtain ⟨r', q', i', p', data', R1, hlt, hr1, K1⟩ := hcut
    clear h0 h2 h3 h4 h5 h6 fz hrq hq
    obtain ⟨h0, h2, h3, h4, h5, h6⟩ := R1.cells
    have hq := R1.hq
    have hr2 := hr1
    rw [rest_cons R1.hd hlt hq] at hr2
    have hr4 : r' < 4096 := by omega
    have hx := R1.at_ r' hr4
    injection hr2 with hr2 hr3
    rw [hr2] at hx
    have HR := Lib.hid R1
    have HX := Lib.hid hx
    have HY := Lib.hid hr1
    have b1 : (r' : Int) ≤ 4096 := by omega
    have b2 : (r' : Int) + 1 ≤ 4096 := by omega
    have e1 : decide ((q' : Int) - r' < 1) = false := decide_eq_false (by omega)
    have e2 : (1 : Int) ≤ (q' : Int) - r' := by omega
    clear hr1 hr2 hr3 hx
    clear R1
    go_wp2
    go_quiet (fail)
    go_wp2
    go_quiet (fail)
    go_wp2
    go_ret2
    refine ⟨r', 4096 - r', rfl, HX.out, ⟨r', q', i', -1, -1, p', data', (HR.out.drewN _).drewN _, HY.out⟩, (K1.drewN _).drewN _⟩

/-- Peek(1) at the end. -/
def PeekEnd (b g s : Nat) (src : ByteArray) (ea : Addr) (w : World) (e : Ending) (w' : World) : Prop :=
  ∃ o cap : Nat, e = .returned (.tuple #[.slice (some ⟨g, o, none⟩) 0 cap, (.iface 203 (.pointer (some ea)))]) ∧ Rd w' b g s src [] ∧ Keeps (In [b, g, s]) w w'

set_option maxRecDepth 100000 in
set_option maxHeartbeats 1000000 in
theorem peek_none (b g s : Nat) (src : ByteArray) (ea : Addr) (w : World) (h : Rd w b g s src []) {N : Nat} (E : Env N b g s src ea w) :
    Calls Tryz.prog 102 #[.pointer (some ⟨b, 0, none⟩), .int .i64 1] w (PeekEnd b g s src ea w) := by
  obtain ⟨r, q, i, lb, lr, p, data, h, hc⟩ := h
  obtain ⟨h0, h2, h3, h4, h5, h6⟩ := h.cells
  have fz := h.B.frozen
  have hrq := h.hrq
  have hq := h.hq
  have hd := h.hd
  obtain ⟨hq0, hi0⟩ : r = q ∧ src.size ≤ i := by
    have h1 := congrArg List.length hc
    unfold rest at h1
    have h2 := str_size src
    simp at h1
    omega
  subst hq0
  have H := Lib.hid h
  have HE := Lib.hid E
  have HC := Lib.hid hc
  clear h hc E hd
  go_enter Tryz.func102, Tryz.ntmps102
  go_wp2
  refine wp_loop_rounds 2 ?_
  rw [rounds_succ]
  go_wp2
  go_quiet (fail)
  go_wp2_with (fail)
  refine calls_as fun W1 hW1 => ?_
  obtain ⟨R1, K1⟩ : RdD W1 b g s src r r i .nilIface (-1) (-1) p data ∧ Keeps (In [b]) w W1 := by
    subst hW1
    exact ⟨H.out.to (by repeat (first | assumption | exact Keeps.refl _ _ | apply Keeps.drewN | apply Keeps.drew | apply Keeps.alloc | (refine Keeps.setCell ?_ (.inl (by simp [In])) _))) hrq hq ((((H.out.B.set 5 _).set 6 _).drewN _).to rfl), (by repeat (first | assumption | exact Keeps.refl _ _ | apply Keeps.drewN | apply Keeps.drew | apply Keeps.alloc | (refine Keeps.setCell ?_ (.inl (by simp [In])) _)))⟩
  clear hW1 h0 h2 h3 h4 h5 h6 fz
  refine (fill_rd b g s r r i src .nilIface ea (-1) (-1) p data W1 R1 (by omega) (HE.out.keep K1 (by simpa using HE.out.hB))).mono ?_
  rintro e W2 ⟨rfl, data', n, err', p', R2, -, hn, hr, -, K2⟩
  obtain ⟨rfl, rfl⟩ := hn hi0
  obtain ⟨h0, h2, h3, h4, h5, h6⟩ := R2.cells
  have fz := R2.B.frozen
  have HR := Lib.hid R2
  have HC2 := Lib.hid hr
  have e4 : ((r - r + 0 : Nat) : Int) = 0 := by omega
  rw [e4] at h3
  clear R2 hr e4
  go_wp2
  rw [rounds_succ]
  go_wp2
  go_quiet (fail)
  go_wp2
  go_quiet (fail)
  go_wp2_with (go_at_call 140; refine (readErr_any b _ _ _ (HR.out.B.drewN _) rfl).mono ?_; rintro e w3 ⟨rfl, rfl⟩)
  go_quiet (fail)
  go_wp2
  go_ret2
  refine ⟨cutAt 0 0 4096 1, 4096, rfl, ⟨0, r - r + 0, i + 0, -1, -1, p', data', HR.out.to (by repeat (first | assumption | exact Keeps.refl _ _ | apply Keeps.drewN | apply Keeps.drew | apply Keeps.alloc | (refine Keeps.setCell ?_ (.inl (by simp [In])) _))) (by omega) (by omega) ((((HR.out.B.drewN _).set 4 _).drewN _).to rfl), HC2.out.trans HC.out⟩, ?_⟩
  exact ((((K1.mono (fun _ _ h => by simp only [In, List.mem_cons, List.not_mem_nil, or_false] at h ⊢; omega)).trans K2 (fun _ _ h => by simp only [In, List.mem_cons, List.not_mem_nil, or_false] at h ⊢; omega)).drewN _).setCell (.inl (by simp [In])) _).drewN _

theorem buffered (b : Nat) (cs : List Value) (r q : Nat) (w : World) (hb : Blk w b cs 201) (h2 : cs[2]? = some (.int .i64 r)) (h3 : cs[3]? = some (.int .i64 q)) (hrq : r ≤ q) (hq : q ≤ 4096) :
    Calls Tryz.prog 83 #[.pointer (some ⟨b, 0, none⟩)] w fun e w' => e = .returned (.int .i64 ((q : Int) - r)) ∧ ∃ n, w' = w.drewN n := by
  have c2 := (hb.cell 2).trans h2
  have c3 := (hb.cell 3).trans h3
  go_enter Tryz.func83, Tryz.ntmps83
  go_wp2
  go_quiet (fail)
  go_wp2
  go_ret
  exact ⟨rfl, _, rfl⟩

end Go.Proofs.YtjbbapodcngnaaaGreatDoor
namespace Go.Proofs.YtjbbapodcngnaaaGreatDoor
open Go.RowKit

/-- What ReadSlice leaves: these bytes of the buffer, an error or none; c is still to be read. -/
def SlicePost (b g s : Nat) (src : ByteArray) (l : List UInt8) (err : Value) (c : List UInt8) (w : World) (e : Ending) (w' : World) : Prop :=
  ∃ o cap : Nat, e = .returned (.tuple #[.slice (some ⟨g, o, none⟩) l.length cap, err]) ∧ l.length ≤ cap ∧ BytesAt w' g o l ∧ Rd w' b g s src c ∧ Keeps (In [b, g, s]) w w'

theorem RdD.bytes {w : World} {b g s : Nat} {src : ByteArray} {r q i : Nat} {err : Value} {lb lr p : Int} {data : List UInt8} (h : RdD w b g s src r q i err lb lr p data) : BytesAt w g 0 data :=
  BytesAt.of_blk h.G (by simp [List.take_of_length_le])

theorem indexByte_n (b o n cap : Nat) (l : List UInt8) (hn : l.length = n) (v : Int) (hv : Lib.indexByte l 10 = v) (w : World) (h : BytesAt w b o l) :
    Calls Tryz.prog 98 #[.slice (some ⟨b, o, none⟩) n cap, .int .u8 10] w fun e w' => e = .returned (.int .i64 v) ∧ w' = w := by
  subst hn; subst hv
  exact indexByte_any b o cap l 10 w h

/-- The buffer's part, of what is still to be read. -/
theorem rest_part {src : ByteArray} {r q i : Nat} {data : List UInt8} (hd : data.length = 4096) (hrq : r ≤ q) (hq : q ≤ 4096) (t : Nat) (h1 : r ≤ t) (h2 : t ≤ q) :
    (data.drop t).take (q - t) = ((rest src r q i data).take (q - r)).drop (t - r) := by
  unfold rest
  have hl : ((data.drop r).take (q - r)).length = q - r := by simp; omega
  rw [List.take_left' hl, List.drop_take, List.drop_drop, show r + (t - r) = t by omega, show q - r - (t - r) = q - t by omega]

set_option maxRecDepth 100000 in
set_option maxHeartbeats 2000000 in
theorem readSlice_found (b g s : Nat) (src : ByteArray) (ea : Addr) (w : World) (line c : List UInt8) (h : Rd w b g s src (line ++ 10 :: c)) (hl : line.length + 1 ≤ 4096) (hn : (10 : UInt8) ∉ line) {N : Nat} (E : Env N b g s src ea w) :
    Calls Tryz.prog 123 #[.pointer (some ⟨b, 0, none⟩), .int .u8 10] w (SlicePost b g s src (line ++ [10]) .nilIface c w) := by
  obtain ⟨r, q, i, lb, lr, p, data, h, hc⟩ := h
  have H := Lib.hid h
  have HE := Lib.hid E
  have HC := Lib.hid hc
  clear h hc E
  go_enter Tryz.func123, Tryz.ntmps123
  go_upto_block 0 with (fail)
  go_cut [4, 5] (fun s4 s5 wx => ∃ (o cap r' q' i' : Nat) (lb' lr' p' : Int) (data' : List UInt8), s4 = .slice (some ⟨g, o, none⟩) (line.length + 1) cap ∧ s5 = .nilIface ∧ line.length + 1 ≤ cap ∧
    RdD wx b g s src r' q' i' .nilIface lb' lr' p' data' ∧ rest src r' q' i' data' = c ∧ BytesAt wx g o (line ++ [10]) ∧ Keeps (In [b, g, s]) w wx)
  case first =>
    go_wp2
    go_loopg [4, 5, 6] (src.size - i) (fun k s4 s5 s6 wx => s4 = .slice none 0 0 ∧ s5 = .nilIface ∧ ∃ (r' q' i' sN : Nat) (lb' lr' p' : Int) (data' : List UInt8), s6 = .int .i64 sN ∧ k = src.size - i' ∧ sN ≤ q' - r' ∧ sN ≤ line.length ∧
      RdD wx b g s src r' q' i' .nilIface lb' lr' p' data' ∧ rest src r' q' i' data' = line ++ 10 :: c ∧ Keeps (In [b, g, s]) w wx)
    case atStart => exact ⟨rfl, rfl, r, q, i, 0, lb, lr, p, data, rfl, rfl, Nat.zero_le _, Nat.zero_le _, H.out, HC.out, Keeps.refl _ _⟩
    case round =>
      obtain ⟨rfl, rfl, r', q', i', sN, lb', lr', p', data', rfl, hk, hs1, hs2, R1, hr1, K1⟩ := hrel
      obtain ⟨h0, h2, h3, h4, h5, h6⟩ := R1.cells
      have fz := R1.B.frozen
      have hq := R1.hq
      have hrq := R1.hrq
      have hd := R1.hd
      have HR := Lib.hid R1
      have HK := Lib.hid hk
      have HY := Lib.hid hr1
      have HD := Lib.hid hd
      have b1 : (r' : Int) + sN ≤ q' := by omega
      have b2 : (q' : Int) ≤ 4096 := by omega
      clear R1 hr1 hk hd
      by_cases hin : line.length < q' - r'
      · obtain ⟨t, ht⟩ : ∃ t : Nat, t = r' + sN := ⟨_, rfl⟩
        have hsum : (r' : Int) + sN = t := by omega
        have hsum2 : IntKind.i64.wrap ((r' : Int) + sN) = t := by rw [hsum]; exact IntWalk.i64_in _ (by omega)
        have t1 : (t : Int) ≤ q' := by omega
        have t2 : (0 : Int) ≤ (t : Int) := by omega
        have hL : ((data'.drop t).take (q' - t)).length = q' - t := by have := HD.out; simp; omega
        obtain ⟨m, hm⟩ : ∃ m : Nat, m + sN = line.length := ⟨line.length - sN, by omega⟩
        have hix : Lib.indexByte ((data'.drop t).take (q' - t)) 10 = (m : Int) := by
          rw [rest_part (src := src) (i := i') HD.out hrq hq t (by omega) (by omega), HY.out, List.take_append, List.take_of_length_le (by omega), List.drop_append_of_le_length (by omega), show q' - r' - line.length = (q' - r' - line.length - 1) + 1 by omega, List.take_succ_cons,
            ixb_some (fun h => hn (List.mem_of_mem_drop h))]
          simp; omega
        have HI := Lib.hid hix
        have HL := Lib.hid hL
        have HT := Lib.hid ht
        clear hix hL ht
        go_wp2
        go_quiet ((go_at_call 98; exact Calls.quiet_of_same (indexByte_n g _ _ _ _ HL.out _ HI.out _ (HR.out.bytes.cut t (q' - t) (by rw [HD.out]; exact Nat.le_refl _)))))
        clear hsum hsum2
        obtain ⟨e, he⟩ : ∃ e : Nat, e = r' + line.length := ⟨_, rfl⟩
        have hs3 : (m : Int) + sN = line.length := by omega
        have hs4 : (r' : Int) + line.length = e := by omega
        have hs5 : IntKind.i64.wrap ((r' : Int) + line.length) = e := by rw [hs4]; exact IntWalk.i64_in _ (by omega)
        have hs6 : IntKind.i64.wrap ((e : Int) + 1) = (e : Int) + 1 := IntWalk.i64_in _ (by omega)
        have t3 : (e : Int) + 1 ≤ 4096 := by omega
        have t4 : (r' : Int) ≤ (e : Int) + 1 := by omega
        have t5 : (0 : Int) ≤ (e : Int) + 1 := by omega
        have hs7 : (r' : Int) + (line.length + 1) = (e : Int) + 1 := by omega
        have HM := Lib.hid hm
        have HEE := Lib.hid he
        clear hm he
        have fz := HR.out.B.frozen
        go_wp2
        go_quiet (fail)
        go_wp2
        go_meet
        have he := HEE.out
        have hsl : e + 1 - r' = line.length + 1 := by omega
        have hrest : rest src r' q' i' data' = (data'.drop r').take (line.length + 1) ++ rest src (r' + (line.length + 1)) q' i' data' := by
          unfold rest
          rw [← List.append_assoc]
          congr 1
          rw [show q' - r' = (line.length + 1) + (q' - (r' + (line.length + 1))) by omega, List.take_add, List.drop_drop]
        have hpart : (data'.drop r').take (line.length + 1) = line ++ [10] ∧ rest src (r' + (line.length + 1)) q' i' data' = c := by
          have h1 := hrest.symm.trans HY.out
          rw [show line ++ 10 :: c = (line ++ [10]) ++ c by simp] at h1
          have hl2 : ((data'.drop r').take (line.length + 1)).length = (line ++ [10]).length := by have := HD.out; simp; omega
          exact List.append_inj h1 hl2
        refine ⟨cutAt 0 r' 4096 1, 4096 - r', r' + (line.length + 1), q', i', lb', lr', p', data', by rw [hsl], rfl, by omega, HR.out.to (by repeat (first | assumption | exact Keeps.refl _ _ | apply Keeps.drewN | apply Keeps.drew | apply Keeps.alloc | (refine Keeps.setCell ?_ (.inl (by simp [In])) _))) (by omega) hq ((HR.out.B.set 2 _).to (by simp [brc]; omega)), hpart.2, ?_, (by repeat (first | assumption | exact Keeps.refl _ _ | apply Keeps.drewN | apply Keeps.drew | apply Keeps.alloc | (refine Keeps.setCell ?_ (.inl (by simp [In])) _)))⟩
        have h3 := (HR.out.bytes.cut r' (line.length + 1) (cap := 4096) (by rw [HD.out]; exact Nat.le_refl _))
        rw [hpart.1] at h3
        exact h3.keep (S := In [b]) (by repeat (first | assumption | exact Keeps.refl _ _ | apply Keeps.drewN | apply Keeps.drew | apply Keeps.alloc | (refine Keeps.setCell ?_ (.inl (by simp [In])) _))) (by have := HR.out.bg; simp [In]; omega)
      · obtain ⟨t, ht⟩ : ∃ t : Nat, t = r' + sN := ⟨_, rfl⟩
        have hsum : (r' : Int) + sN = t := by omega
        have hsum2 : IntKind.i64.wrap ((r' : Int) + sN) = t := by rw [hsum]; exact IntWalk.i64_in _ (by omega)
        have t1 : (t : Int) ≤ q' := by omega
        have t2 : (0 : Int) ≤ (t : Int) := by omega
        have hL : ((data'.drop t).take (q' - t)).length = q' - t := by have := HD.out; simp; omega
        have hix : Lib.indexByte ((data'.drop t).take (q' - t)) 10 = -1 := by
          rw [rest_part (src := src) (i := i') HD.out hrq hq t (by omega) (by omega), HY.out, List.take_append_of_le_length (by omega)]
          exact ixb_none (fun h => hn (List.mem_of_mem_take (List.mem_of_mem_drop h)))
        have hi : i' < src.size := by
          rcases Nat.lt_or_ge i' src.size with h | h
          · exact h
          · exfalso
            have h1 := congrArg List.length HY.out
            have h2 : src.data.toList.drop i' = [] := List.drop_eq_nil_of_le (by rw [str_size]; exact h)
            unfold rest at h1
            rw [h2] at h1
            simp at h1
            omega
        have HI := Lib.hid hix
        have HL := Lib.hid hL
        have HT := Lib.hid ht
        clear hix hL ht
        go_wp2
        go_quiet ((go_at_call 98; exact Calls.quiet_of_same (indexByte_n g _ _ _ _ HL.out _ HI.out _ (HR.out.bytes.cut t (q' - t) (by rw [HD.out]; exact Nat.le_refl _)))))
        clear hsum hsum2 t1 t2 b1
        have d1 : decide ((4096 : Int) ≤ (q' : Int) - r') = false := decide_eq_false (by omega)
        have d2 : (0 : Int) ≤ (q' : Int) - r' := by omega
        go_wp2
        go_quiet ((go_at_call 83; exact q_add (buffered b _ r' q' _ (HR.out.B.drewN _) rfl rfl hrq hq)))
        go_wp2
        go_quiet (fail)
        go_wp2_with (fail)
        refine (fill_rd b g s r' q' i' src .nilIface ea lb' lr' p' data' _ (HR.out.drewN _) (by omega) (HE.out.keep3 (K1.drewN _))).mono ?_
        rintro e W2 ⟨rfl, data2, n, err', p2, R2, hn2, -, hr2, -, K2⟩
        obtain ⟨hn2, rfl⟩ := hn2 hi
        have K2 := K2.drewN_left
        clear h0 h2 h3 h4 h5 h6 fz
        go_wp2
        go_roundg (src.size - (i' + n))
        case measure => have := HK.out; omega
        case rel => exact ⟨rfl, rfl, 0, _, _, q' - r', lb', lr', p2, data2, by congr 1; omega, rfl, by omega, by omega, R2, hr2.trans HY.out, K1.trans' K2⟩
  case rest =>
    obtain ⟨o, cap, r', q', i', lb', lr', p', data', rfl, rfl, hcap, R1, hr1, hby, K1⟩ := hcut
    have fz := R1.B.frozen
    have hx := hby.cell (i := line.length) (by simp)
    have hlen : (line ++ [10]).length = line.length + 1 := by simp
    have e5 := (R1.B.cell 5).trans (show (brc g s r' q' .nilIface lb' lr')[5]? = some (.int .i64 lb') from rfl)
    have e6 := (R1.B.cell 6).trans (show (brc g s r' q' .nilIface lb' lr')[6]? = some (.int .i64 lr') from rfl)
    have hbg := R1.bg
    unfold byt at hx
    simp only [List.getElem_append_right (Nat.le_refl _), Nat.sub_self, List.getElem_cons_zero] at hx
    have HR := Lib.hid R1
    have HY := Lib.hid hr1
    have HB := Lib.hid hby
    have HL := Lib.hid hlen
    clear R1 hr1 hby hlen
    go_wp2
    go_ret2
    refine ⟨o, cap, by rw [HL.out]; rfl, by rw [HL.out]; exact hcap, HB.out.keep (S := In [b]) (by repeat (first | assumption | exact Keeps.refl _ _ | apply Keeps.drewN | apply Keeps.drew | apply Keeps.alloc | (refine Keeps.setCell ?_ (.inl (by simp [In])) _))) (by simp [In]; omega), ⟨r', q', i', 10, -1, p', data', HR.out.to (by repeat (first | assumption | exact Keeps.refl _ _ | apply Keeps.drewN | apply Keeps.drew | apply Keeps.alloc | (refine Keeps.setCell ?_ (.inl (by simp [In])) _))) HR.out.hrq HR.out.hq (((HR.out.B.set 5 _).set 6 _).to rfl), HY.out⟩, (by repeat (first | assumption | exact Keeps.refl _ _ | apply Keeps.drewN | apply Keeps.drew | apply Keeps.alloc | (refine Keeps.setCell ?_ (.inl (by simp [In])) _)))⟩

set_option maxRecDepth 100000 in
set_option maxHeartbeats 2000000 in
theorem readSlice_eof (b g s : Nat) (src : ByteArray) (ea : Addr) (w : World) (c : List UInt8) (h : Rd w b g s src c) (hl : c.length < 4096) (hn : (10 : UInt8) ∉ c) {N : Nat} (E : Env N b g s src ea w) :
    Calls Tryz.prog 123 #[.pointer (some ⟨b, 0, none⟩), .int .u8 10] w (SlicePost b g s src c (.iface 203 (.pointer (some ea))) [] w) := by
  obtain ⟨r, q, i, lb, lr, p, data, h, hc⟩ := h
  have H := Lib.hid h
  have HE := Lib.hid E
  have HC := Lib.hid hc
  clear h hc E
  go_enter Tryz.func123, Tryz.ntmps123
  go_upto_block 0 with (fail)
  go_cut [4, 5] (fun s4 s5 wx => ∃ (o cap r' q' i' : Nat) (lb' lr' p' : Int) (data' : List UInt8), s4 = .slice (some ⟨g, o, none⟩) c.length cap ∧ s5 = (.iface 203 (.pointer (some ea))) ∧ c.length ≤ cap ∧
    RdD wx b g s src r' q' i' .nilIface lb' lr' p' data' ∧ rest src r' q' i' data' = [] ∧ BytesAt wx g o c ∧ Keeps (In [b, g, s]) w wx)
  case first =>
    go_wp2
    go_loopg [4, 5, 6] (src.size - i + 1) (fun k s4 s5 s6 wx => s4 = .slice none 0 0 ∧ s5 = .nilIface ∧ ∃ (r' q' i' sN : Nat) (err' : Value) (lb' lr' p' : Int) (data' : List UInt8), s6 = .int .i64 sN ∧ (err' = .nilIface ∧ k = src.size - i' + 1 ∨ err' = (.iface 203 (.pointer (some ea))) ∧ src.size ≤ i') ∧ sN ≤ q' - r' ∧
      RdD wx b g s src r' q' i' err' lb' lr' p' data' ∧ rest src r' q' i' data' = c ∧ Keeps (In [b, g, s]) w wx)
    case atStart => exact ⟨rfl, rfl, r, q, i, 0, _, lb, lr, p, data, rfl, .inl ⟨rfl, rfl⟩, Nat.zero_le _, H.out, HC.out, Keeps.refl _ _⟩
    case round =>
      obtain ⟨rfl, rfl, r', q', i', sN, err', lb', lr', p', data', rfl, hk, hs1, R1, hr1, K1⟩ := hrel
      obtain ⟨h0, h2, h3, h4, h5, h6⟩ := R1.cells
      have fz := R1.B.frozen
      have hq := R1.hq
      have hrq := R1.hrq
      have hd := R1.hd
      have HR := Lib.hid R1
      have HK := Lib.hid hk
      have HY := Lib.hid hr1
      have HD := Lib.hid hd
      have b1 : (r' : Int) + sN ≤ q' := by omega
      have b2 : (q' : Int) ≤ 4096 := by omega
      have hlen : q' - r' ≤ c.length := by rw [← hr1]; unfold rest; simp; omega
      clear R1 hr1 hk hd
      obtain ⟨t, ht⟩ : ∃ t : Nat, t = r' + sN := ⟨_, rfl⟩
      have hsum : (r' : Int) + sN = t := by omega
      have hsum2 : IntKind.i64.wrap ((r' : Int) + sN) = t := by rw [hsum]; exact IntWalk.i64_in _ (by omega)
      have t1 : (t : Int) ≤ q' := by omega
      have t2 : (0 : Int) ≤ (t : Int) := by omega
      have hL : ((data'.drop t).take (q' - t)).length = q' - t := by have := HD.out; simp; omega
      have hix : Lib.indexByte ((data'.drop t).take (q' - t)) 10 = -1 := by
        rw [rest_part (src := src) (i := i') HD.out hrq hq t (by omega) (by omega), HY.out]
        exact ixb_none (fun h => hn (List.mem_of_mem_take (List.mem_of_mem_drop h)))
      have HI := Lib.hid hix
      have HL := Lib.hid hL
      have HT := Lib.hid ht
      clear hix hL ht
      go_wp2
      go_quiet ((go_at_call 98; exact Calls.quiet_of_same (indexByte_n g _ _ _ _ HL.out _ HI.out _ (HR.out.bytes.cut t (q' - t) (by rw [HD.out]; exact Nat.le_refl _)))))
      clear hsum hsum2 t1 t2 b1
      rcases HK.out with ⟨rfl, hk⟩ | ⟨rfl, hi⟩
      · have HK2 := Lib.hid hk
        have d1 : decide ((4096 : Int) ≤ (q' : Int) - r') = false := decide_eq_false (by omega)
        have d2 : (0 : Int) ≤ (q' : Int) - r' := by omega
        clear hk
        go_wp2
        go_quiet ((go_at_call 83; exact q_add (buffered b _ r' q' _ (HR.out.B.drewN _) rfl rfl hrq hq)))
        go_wp2
        go_quiet (fail)
        go_wp2_with (fail)
        refine (fill_rd b g s r' q' i' src .nilIface ea lb' lr' p' data' _ (HR.out.drewN _) (by omega) (HE.out.keep3 (K1.drewN _))).mono ?_
        rintro e W2 ⟨rfl, data2, n, err', p2, R2, hn2, hn3, hr2, -, K2⟩
        have K2 := K2.drewN_left
        clear h0 h2 h3 h4 h5 h6 fz
        have HN2 := Lib.hid hn2
        have HN3 := Lib.hid hn3
        clear hn2 hn3
        go_wp2
        by_cases hi : i' < src.size
        · obtain ⟨hn2, rfl⟩ := HN2.out hi
          go_roundg (src.size - (i' + n) + 1)
          case measure => have := HK2.out; have := R2.hi; omega
          case rel => exact ⟨rfl, rfl, 0, _, _, q' - r', _, lb', lr', p2, data2, by congr 1; omega, .inl ⟨rfl, rfl⟩, by omega, R2, hr2.trans HY.out, K1.trans' K2⟩
        · obtain ⟨hn2, rfl⟩ := HN3.out (by omega)
          go_roundg 0
          case measure => have := HK2.out; omega
          case rel => exact ⟨rfl, rfl, 0, _, _, q' - r', _, lb', lr', p2, data2, by congr 1; omega, .inr ⟨rfl, by omega⟩, by omega, R2, hr2.trans HY.out, K1.trans' K2⟩
      · have hq1 : (r' : Int) ≤ (q' : Int) := by omega
        go_wp2
        go_quiet (fail)
        go_wp2_with (fail)
        refine (readErr_any b _ _ _ ((HR.out.B.drewN _).set 2 _) rfl).mono ?_
        rintro e W2 ⟨rfl, rfl⟩
        go_wp2
        go_meet
        have hrd : (data'.drop r').take (q' - r') = c := by
          rw [← rest_end hi]; exact HY.out
        have hlc : q' - r' = c.length := by rw [← hrd]; have := HD.out; simp; omega
        have h3 := (HR.out.bytes.cut r' (q' - r') (cap := 4096) (by rw [HD.out]; exact Nat.le_refl _))
        rw [hrd] at h3
        refine ⟨cutAt 0 r' 4096 1, 4096 - r', q', q', i', lb', lr', p', data', by rw [hlc], rfl, by omega, HR.out.to (by repeat (first | assumption | exact Keeps.refl _ _ | apply Keeps.drewN | apply Keeps.drew | apply Keeps.alloc | (refine Keeps.setCell ?_ (.inl (by simp [In])) _))) (Nat.le_refl _) hq ((((HR.out.B.drewN _).set 2 _).set 4 _).to (by simp [brc])), ?_, h3.keep (S := In [b]) (by repeat (first | assumption | exact Keeps.refl _ _ | apply Keeps.drewN | apply Keeps.drew | apply Keeps.alloc | (refine Keeps.setCell ?_ (.inl (by simp [In])) _))) (by have := HR.out.bg; simp [In]; omega), (by repeat (first | assumption | exact Keeps.refl _ _ | apply Keeps.drewN | apply Keeps.drew | apply Keeps.alloc | (refine Keeps.setCell ?_ (.inl (by simp [In])) _)))⟩
        rw [rest_end hi]; simp
  case rest =>
    obtain ⟨o, cap, r', q', i', lb', lr', p', data', rfl, rfl, hcap, R1, hr1, hby, K1⟩ := hcut
    have fz := R1.B.frozen
    have e5 := (R1.B.cell 5).trans (show (brc g s r' q' .nilIface lb' lr')[5]? = some (.int .i64 lb') from rfl)
    have e6 := (R1.B.cell 6).trans (show (brc g s r' q' .nilIface lb' lr')[6]? = some (.int .i64 lr') from rfl)
    have hbg := R1.bg
    have HR := Lib.hid R1
    have HY := Lib.hid hr1
    have HB := Lib.hid hby
    clear hr1 hby
    rcases nil_or_snoc c with rfl | ⟨c0, x, rfl⟩
    · go_wp2
      go_ret2
      exact ⟨o, cap, rfl, hcap, HB.out, ⟨r', q', i', lb', lr', p', data', HR.out, HY.out⟩, K1⟩
    · have hx := HB.out.cell (i := c0.length) (by simp)
      have hlen : (c0 ++ [x]).length = c0.length + 1 := by simp
      have hx1 : (c0 ++ [x])[c0.length]'(by simp) = x := by simp
      rw [hx1] at hx
      unfold byt at hx
      clear hx1
      have HL := Lib.hid hlen
      have hw := w64_u8 x
      clear hlen
      rw [HL.out] at hcap hl ⊢
      clear R1
      go_wp2
      go_ret2
      refine ⟨o, cap, by rw [HL.out]; rfl, by rw [HL.out]; exact hcap, HB.out.keep (S := In [b]) (by repeat (first | assumption | exact Keeps.refl _ _ | apply Keeps.drewN | apply Keeps.drew | apply Keeps.alloc | (refine Keeps.setCell ?_ (.inl (by simp [In])) _))) (by simp [In]; omega), ⟨r', q', i', x.toNat, -1, p', data', HR.out.to (by repeat (first | assumption | exact Keeps.refl _ _ | apply Keeps.drewN | apply Keeps.drew | apply Keeps.alloc | (refine Keeps.setCell ?_ (.inl (by simp [In])) _))) HR.out.hrq HR.out.hq (((HR.out.B.set 5 _).set 6 _).to rfl), HY.out⟩, (by repeat (first | assumption | exact Keeps.refl _ _ | apply Keeps.drewN | apply Keeps.drew | apply Keeps.alloc | (refine Keeps.setCell ?_ (.inl (by simp [In])) _)))⟩
end Go.Proofs.YtjbbapodcngnaaaGreatDoor
namespace Go.Proofs.YtjbbapodcngnaaaGreatDoor
open Go.RowKit Hdr

/-- What ReadLine leaves. -/
def LinePost (b g s : Nat) (src : ByteArray) (l : List UInt8) (c : List UInt8) (w : World) (e : Ending) (w' : World) : Prop :=
  ∃ o cap : Nat, e = .returned (.tuple #[.slice (some ⟨g, o, none⟩) l.length cap, .bool false, .nilIface]) ∧ l.length ≤ cap ∧ BytesAt w' g o l ∧ Rd w' b g s src c ∧ Keeps (In [b, g, s]) w w'

set_option maxRecDepth 100000 in
set_option maxHeartbeats 1000000 in
theorem readLine_found (b g s : Nat) (src : ByteArray) (ea : Addr) (w : World) (line c : List UInt8) (h : Rd w b g s src (line ++ 10 :: c)) (hl : line.length + 1 ≤ 4096) (hn : (10 : UInt8) ∉ line) {N : Nat} (E : Env N b g s src ea w) :
    Calls Tryz.prog 141 #[.pointer (some ⟨b, 0, none⟩)] w (LinePost b g s src (chomp line) c w) := by
  have H := readSlice_found b g s src ea w line c h hl hn E
  have HE := Lib.hid E
  clear h E
  go_enter Tryz.func141, Tryz.ntmps141
  go_wp2_with (fail)
  refine H.mono ?_
  rintro e w1 ⟨o, cap, rfl, hcap, hb, R, K⟩
  have e10 : byt 10 = .int .u8 10 := rfl
  obtain ⟨fa, hfull, -⟩ := (HE.out.keep3 K).laid.full
  have hq := fun (w : World) (v : Value) => run_eql_iface_nil_left (P := Tryz.prog) w 203 v Tryz.underlying93
  have HB := Lib.hid hb
  have HR := Lib.hid R
  clear R
  rcases nil_or_snoc line with rfl | ⟨l0, x, rfl⟩
  · have hlast := hb.cell (i := 0) (by simp)
    simp only [List.nil_append, List.getElem_cons_zero, Nat.add_zero, e10] at hlast
    clear hb
    go_wp2
    go_ret3
    exact ⟨o, cap, rfl, Nat.zero_le _, HB.out.nil o, HR.out, K⟩
  · have hlast := hb.cell (i := l0.length + 1) (by simp)
    have hlast2 := hb.cell (i := l0.length) (by simp)
    have x1 : (l0 ++ [x] ++ [10])[l0.length + 1]'(by simp) = (10 : UInt8) := by simp
    have x2 : (l0 ++ [x] ++ [10])[l0.length]'(by simp) = x := by simp
    have hlen : (l0 ++ [x] ++ [10]).length = l0.length + 2 := by simp
    rw [x1, e10] at hlast
    rw [x2] at hlast2
    rw [hlen] at hcap ⊢
    unfold byt at hlast2
    have HL := Lib.hid hlen
    have c1 : (l0.length : Int) + 2 ≤ cap := by omega
    have hln : l0.length + 2 ≤ 4096 := by simp at hl; omega
    have c2 : (l0.length : Int) + 1 ≤ cap := by omega
    have c3 : (l0.length : Int) ≤ cap := by omega
    clear hb hlen x1 x2 e10 hl hn
    by_cases hx : x = 13
    · subst hx
      have e13 : ((UInt8.toNat 13 : Nat) : Int) = 13 := rfl
      rw [e13] at hlast2
      clear e13
      go_wp2
      go_ret3
      have h2 : chomp (l0 ++ [13]) = l0 := by simp [chomp]
      rw [h2]
      refine ⟨o, cap, rfl, by omega, ?_, HR.out, K⟩
      have h3 := HB.out.sub 0 l0.length
      rw [List.drop_zero, List.append_assoc, List.take_left' rfl] at h3
      exact h3
    · have hx' : x.toNat ≠ 13 := fun e => hx (UInt8.toNat.inj e)
      have e1 : ((x.toNat : Int) == 13) = false := by simp; omega
      go_wp2
      go_ret3
      have h2 : chomp (l0 ++ [x]) = l0 ++ [x] := by simp [chomp, hx]
      rw [h2]
      refine ⟨o, cap, by simp, by simp; omega, ?_, HR.out, K⟩
      have h3 := HB.out.sub 0 (l0 ++ [x]).length
      rw [List.drop_zero, List.take_left' rfl] at h3
      exact h3

/-- ReadLine at the end. -/
def LineEnd (b g s : Nat) (src : ByteArray) (ea : Addr) (w : World) (e : Ending) (w' : World) : Prop :=
  e = .returned (.tuple #[.slice none 0 0, .bool false, (.iface 203 (.pointer (some ea)))]) ∧ Rd w' b g s src [] ∧ Keeps (In [b, g, s]) w w'

theorem info_es : (Tryz.prog.info? 203).map (·.comparable) = some true := by kernel_rfl
theorem info_es2 : (Tryz.prog.info? 205).map (·.size) = some 1 := by kernel_rfl

theorem eql_err {w : World} {ea fa : Addr} (h : ea ≠ fa) {ca cb : Array Value} {ta tb : TypeId} (ha : w.heap[ea.block]? = some (.cells ca ta (0, 0))) (hb : w.heap[fa.block]? = some (.cells cb tb (0, 0))) :
    (binOp .eql 93 (.iface 203 (.pointer (some ea))) (.iface 203 (.pointer (some fa)))).run Tryz.prog w = .ok (.bool false) w := by
  have h1 := info_es
  have h2 := info_es2
  cases hi : Tryz.prog.info? 203 with
  | none => rw [hi] at h1; simp at h1
  | some i =>
    cases hj : Tryz.prog.info? 205 with
    | none => rw [hj] at h2; simp at h2
    | some j =>
      rw [hi] at h1; rw [hj] at h2
      simp at h1 h2
      exact run_eql_iface_ptr_other w Tryz.underlying93 Tryz.underlying203 hi h1 hj (by rw [h2]; decide) h ha hb

theorem eql_err_same (w : World) (ea : Addr) : (binOp .eql 93 (.iface 203 (.pointer (some ea))) (.iface 203 (.pointer (some ea)))).run Tryz.prog w = .ok (.bool true) w := by
  have h1 := info_es
  have h2 := info_es2
  cases hi : Tryz.prog.info? 203 with
  | none => rw [hi] at h1; simp at h1
  | some i =>
    cases hj : Tryz.prog.info? 205 with
    | none => rw [hj] at h2; simp at h2
    | some j =>
      rw [hi] at h1
      simp at h1
      exact run_eql_iface_ptr_same w ea Tryz.underlying93 Tryz.underlying203 hi h1 hj

set_option maxRecDepth 100000 in
set_option maxHeartbeats 1000000 in
theorem readLine_end (b g s : Nat) (src : ByteArray) (ea : Addr) (w : World) (h : Rd w b g s src []) {N : Nat} (E : Env N b g s src ea w) :
    Calls Tryz.prog 141 #[.pointer (some ⟨b, 0, none⟩)] w (LineEnd b g s src ea w) := by
  have H := readSlice_eof b g s src ea w [] h (by simp) (by simp) E
  have HE := Lib.hid E
  clear h E
  go_enter Tryz.func141, Tryz.ntmps141
  go_wp2_with (fail)
  refine H.mono ?_
  rintro e w1 ⟨o, cap, rfl, hcap, hb, R, K⟩
  have L1 := (HE.out.keep3 K).laid
  obtain ⟨ca, ta, hc1⟩ := L1.ec
  obtain ⟨fa, hfull, -, ⟨cb, tb, hc2⟩, hne⟩ := L1.full
  have hq := eql_err hne hc1 hc2
  have HR := Lib.hid R
  clear R hb L1 hc1 hc2 hne hcap H
  go_wp2
  go_ret3
  exact ⟨rfl, HR.out, K⟩

set_option maxRecDepth 100000 in
set_option maxHeartbeats 1000000 in
theorem readLine_last (b g s : Nat) (src : ByteArray) (ea : Addr) (w : World) (c : List UInt8) (h : Rd w b g s src c) (hl : c.length < 4096) (hn : (10 : UInt8) ∉ c) (hc : c ≠ []) {N : Nat} (E : Env N b g s src ea w) :
    Calls Tryz.prog 141 #[.pointer (some ⟨b, 0, none⟩)] w (LinePost b g s src c [] w) := by
  have H := readSlice_eof b g s src ea w c h hl hn E
  have HE := Lib.hid E
  clear h E
  go_enter Tryz.func141, Tryz.ntmps141
  go_wp2_with (fail)
  refine H.mono ?_
  rintro e w1 ⟨o, cap, rfl, hcap, hb, R, K⟩
  have L1 := (HE.out.keep3 K).laid
  obtain ⟨ca, ta, hc1⟩ := L1.ec
  obtain ⟨fa, hfull, -, ⟨cb, tb, hc2⟩, hne⟩ := L1.full
  have hq := eql_err hne hc1 hc2
  have HR := Lib.hid R
  have HB := Lib.hid hb
  clear R L1 hc1 hc2 hne H
  rcases nil_or_snoc c with rfl | ⟨c0, x, rfl⟩
  · exact absurd rfl hc
  · have hlast := hb.cell (i := c0.length) (by simp)
    have x1 : (c0 ++ [x])[c0.length]'(by simp) = x := by simp
    have hlen : (c0 ++ [x]).length = c0.length + 1 := by simp
    rw [x1] at hlast
    have hx : x.toNat ≠ 10 := fun e => hn (by rw [show x = 10 from UInt8.toNat.inj e]; simp)
    have e1 : ((x.toNat : Int) == 10) = false := by simp; omega
    rw [hlen] at hcap ⊢
    unfold byt at hlast
    have HL := Lib.hid hlen
    have c1 : (c0.length : Int) + 1 ≤ cap := by omega
    have hln : c0.length + 1 ≤ 4096 := by simp at hl; omega
    clear hb hlen x1 hl hn hc
    go_wp2
    go_ret3
    exact ⟨o, cap, by rw [HL.out]; rfl, by rw [HL.out]; exact hcap, HB.out, HR.out, K⟩

/-- ReadLine, where something is left: the first line. -/
theorem readLine_some (b g s : Nat) (src : ByteArray) (ea : Addr) (w : World) (c : List UInt8) (h : Rd w b g s src c) (hc : c ≠ []) (hs : Short c) {N : Nat} (E : Env N b g s src ea w) :
    Calls Tryz.prog 141 #[.pointer (some ⟨b, 0, none⟩)] w (LinePost b g s src (line1 c).1 (line1 c).2 w) := by
  have h1 := hs.self
  have h2 := upto_no c
  cases hb : behind c with
  | nil =>
    have h3 := split c
    rw [hb, List.append_nil] at h3
    rw [line1_end hb]
    rw [← h3] at h1 h2
    exact readLine_last b g s src ea w c h (by omega) h2 hc E
  | cons x r =>
    rw [line1_nl hb]
    have h3 := split c
    have hx := behind_head hb
    subst hx
    rw [hb] at h3
    rw [h3] at h
    exact readLine_found b g s src ea w (upto c) r h (by omega) h2 E
end Go.Proofs.YtjbbapodcngnaaaGreatDoor
namespace Go.Proofs.YtjbbapodcngnaaaGreatDoor
open Go.RowKit

theorem info_u8 : (Tryz.prog.info? 5).map (fun i => (i.zero, i.size, i.bytes)) = some (some (.int .u8 0), 1, 1) := by kernel_rfl

/-- Block g, from base on, holds these bytes at its begin: a slice of ours with this capacity. -/
def OwnS (w : World) (base g cap : Nat) (l : List UInt8) : Prop :=
  base ≤ g ∧ l.length ≤ cap ∧ cap ≤ maxLen ∧ ∃ cur, Blk w g cur 5 ∧ cur.length = cap ∧ cur.take l.length = u8s l

theorem OwnS.bytes {w : World} {base g cap : Nat} {l : List UInt8} (h : OwnS w base g cap l) : BytesAt w g 0 l := by
  obtain ⟨_, _, _, cur, hb, _, ht⟩ := h
  exact BytesAt.of_blk hb (by rw [List.drop_zero]; exact ht)
theorem OwnS.keep {S : Nat → Prop} {w w' : World} {base g cap : Nat} {l : List UInt8} (h : OwnS w base g cap l) (k : Keeps S w w') (hS : ¬ S g) : OwnS w' base g cap l := by
  obtain ⟨h1, h2, h3, cur, hb, h4, h5⟩ := h
  exact ⟨h1, h2, h3, cur, hb.keep k hS, h4, h5⟩
theorem OwnS.drewN {w : World} {base g cap : Nat} {l : List UInt8} (h : OwnS w base g cap l) (n : Nat) : OwnS (w.drewN n) base g cap l := h.keep ((Keeps.refl No w).drewN n) (fun h => h)
theorem OwnS.row {w : World} {base g cap : Nat} {l : List UInt8} (h : OwnS w base g cap l) : w.ownsRow base 5 1 (.slice (some ⟨g, 0, none⟩) l.length cap) l.length (u8s l) := by
  obtain ⟨h1, h2, h3, cur, hb, h4, h5⟩ := h
  exact ⟨by simp, .inr ⟨g, cap, cur.toArray, rfl, h1, hb, h2, h3, by simpa using h4, by simpa using h5⟩⟩
theorem OwnS.of_row {w : World} {base : Nat} {v : Value} {n : Nat} {l : List UInt8} (h : w.ownsRow base 5 1 v n (u8s l)) (hv : v ≠ .slice none 0 0) : ∃ g cap, v = .slice (some ⟨g, 0, none⟩) n cap ∧ n = l.length ∧ OwnS w base g cap l := by
  obtain ⟨h1, h2⟩ := h
  have hn : n = l.length := by simpa using h1.symm
  rcases h2 with ⟨rfl, _⟩ | ⟨g, cap, cur, rfl, hb, hg, hc, hm, hs, ht⟩
  · exact absurd rfl hv
  · exact ⟨g, cap, rfl, hn, hb, by omega, hm, cur.toList, hg, by simpa using hs, by rw [← hn]; simpa using ht⟩
theorem OwnS.lt {w : World} {base g cap : Nat} {l : List UInt8} (h : OwnS w base g cap l) : g < w.heap.size := by
  obtain ⟨_, _, _, cur, hb, _, _⟩ := h
  exact hb.lt
theorem OwnS.ge {w : World} {base g cap : Nat} {l : List UInt8} (h : OwnS w base g cap l) : base ≤ g := h.1
theorem OwnS.le {w : World} {base g cap : Nat} {l : List UInt8} (h : OwnS w base g cap l) : l.length ≤ cap := h.2.1

/-- append(s, x...): bytes. -/
theorem wpList_append_b {w : World} {ops : Array Oper} {rest : List Oper} {o : Oper} {a : Act} {Q : Exit → Act → World → Prop} (hgd : o.guard = none) (s x : Operand)
    (ho : o.op = .call { callee := .builtin .append, args := #[s, x], argTypes := #[85, 85] })
    (base g cap n : Nat) (l : List UInt8) (hs : a.eval s = .slice (some ⟨g, 0, none⟩) n cap) (hn : n = l.length) (hown : OwnS w base g cap l)
    (ad : Addr) (m c : Nat) (new : List UInt8) (hx : a.eval x = .slice (some ad) m c) (hm : m = new.length) (hnew : ∀ j u, (u8s new)[j]? = some u → w.cell? (ad.add j) = some u)
    (hb : n + m ≤ 70368744177664) (hbase : base ≤ w.heap.size)
    (h : ∀ g' cap' W, OwnS W base g' cap' (l ++ new) → Keeps (In [g]) w W → wpList Tryz.prog ops Q rest (a.put o.dst (.slice (some ⟨g', 0, none⟩) (n + m) cap')) W) : wpList Tryz.prog ops Q (o :: rest) a w := by
  subst hn; subst hm
  obtain ⟨i, hi, hz0, hz1, hz2⟩ := info_parts info_u8
  refine wpList_append_own (P := Tryz.prog) w hgd s x 85 ho base 5 i (.int .u8 0) 1 1 Tryz.underlying85 hi hz0 hz1 hz2 rfl (by decide) _ l.length (u8s l) hs hown.row ad new.length c (u8s new) hx (by simp) hnew (u8s_one new) (by unfold maxLen; omega) (by omega) hbase ?_
  intro v' W hrow hgr hnil
  have hv : v' ≠ .slice none 0 0 := fun e => by have := (hnil.1 e).1; simp at this
  rw [← u8s_append] at hrow
  obtain ⟨g', cap', rfl, hl, ho⟩ := OwnS.of_row hrow hv
  refine h g' cap' W ho ?_
  exact (Keeps.refl (In [g]) w).grown hgr (fun k hk => .inl (by simp [Value.ownBlock] at hk; simp [In, hk]))

theorem wpList_append_b_none {w : World} {ops : Array Oper} {rest : List Oper} {o : Oper} {a : Act} {Q : Exit → Act → World → Prop} (hgd : o.guard = none) (s x : Operand)
    (ho : o.op = .call { callee := .builtin .append, args := #[s, x], argTypes := #[85, 85] })
    (base g cap n : Nat) (l : List UInt8) (hs : a.eval s = .slice (some ⟨g, 0, none⟩) n cap) (hn : n = l.length) (hown : OwnS w base g cap l) (hx : a.eval x = .slice none 0 0)
    (h : wpList Tryz.prog ops Q rest (a.put o.dst (.slice (some ⟨g, 0, none⟩) n cap)) w) : wpList Tryz.prog ops Q (o :: rest) a w := by
  subst hn
  obtain ⟨i, hi, hz0, hz1, hz2⟩ := info_parts info_u8
  exact wpList_append_own_none (P := Tryz.prog) hgd s x 85 ho base 5 i 1 Tryz.underlying85 hi _ l.length (u8s l) hs hown.row hx h

/-- make([]byte, 0, n). -/
theorem wpList_make_b {w : World} {ops : Array Oper} {rest : List Oper} {o : Oper} {a : Act} {Q : Exit → Act → World → Prop} (hgd : o.guard = none) (l c : Operand) (hop : o.op = Op.makeSlice 85 l c)
    (base n : Nat) (C : Int) (hl : a.eval l = .int .i64 0) (hc : a.eval c = .int .i64 C) (hC : C = (n : Int)) (hn : n ≤ 1000000) (hbase : base ≤ w.heap.size)
    (h : ∀ W, OwnS W base w.heap.size n [] → Keeps No w W → wpList Tryz.prog ops Q rest (a.put o.dst (.slice (some ⟨w.heap.size, 0, none⟩) 0 n)) W) : wpList Tryz.prog ops Q (o :: rest) a w := by
  obtain ⟨i, hi, hz0, hz1, hz2⟩ := info_parts info_u8
  refine wpList_make_own (P := Tryz.prog) w hgd l c 85 hop base 5 i (.int .u8 0) 1 Tryz.underlying85 hi hz0 hz1 .i64 .i64 C n hl hc hC (by rw [hz2]; omega) (by unfold maxLen; omega) hbase ?_
  intro W hrow hgr
  obtain ⟨g', cap', he, -, ho⟩ := OwnS.of_row (l := []) hrow (by simp)
  simp only [Value.slice.injEq, Option.some.injEq, Addr.mk.injEq, and_true, true_and] at he
  obtain ⟨rfl, rfl⟩ := he
  exact h W ho ((Keeps.refl No w).grown hgr (fun k hk => by cases hk))

end Go.Proofs.YtjbbapodcngnaaaGreatDoor
namespace Go.Proofs.YtjbbapodcngnaaaGreatDoor
open Go.RowKit Hdr

/-- These blocks, and all from base on. -/
def Up (base : Nat) (l : List Nat) : Nat → Prop := fun k => k ∈ l ∨ base ≤ k

theorem Keeps.up {base : Nat} {l : List Nat} {a b : World} (h : Keeps (In l) a b) : Keeps (Up base l) a b := h.mono (fun _ _ h => .inl h)
theorem Keeps.up_one {base : Nat} {l : List Nat} {a b : World} {g : Nat} (h : Keeps (In [g]) a b) (hg : base ≤ g) : Keeps (Up base l) a b :=
  h.mono (fun _ _ h => .inr (by simp only [In, List.mem_cons, List.not_mem_nil, or_false] at h; omega))
/-- What was made since counts for nothing. -/
theorem Keeps.down {base : Nat} {l : List Nat} {a b : World} (h : Keeps (Up base l) a b) (hb : a.heap.size ≤ base) : Keeps (In l) a b := h.mono (fun i hi h => by
  rcases h with h | h
  · exact h
  · omega)

/-- What readLineSlice leaves: l in a slice of ours. -/
def RlsPost (base b g s : Nat) (src : ByteArray) (l c : List UInt8) (err : Value) (w : World) (e : Ending) (w' : World) : Prop :=
  ∃ h cap : Nat, e = .returned (.tuple #[.slice (some ⟨h, 0, none⟩) l.length cap, err]) ∧ OwnS w' base h cap l ∧ Rd w' b g s src c ∧ Keeps (Up base [b, g, s]) w w'

set_option maxRecDepth 100000 in
set_option maxHeartbeats 1000000 in
theorem readLineSlice_some (base b g s : Nat) (src : ByteArray) (ea : Addr) (w : World) (c : List UInt8) (h : Rd w b g s src c) (hc : c ≠ []) (hs : Short c) {N : Nat} (E : Env N b g s src ea w)
    (k cap n : Nat) (l : List UInt8) (hn : n = l.length) (ho : OwnS w base k cap l) (hb : b < base) (hg : g < base) (hs' : s < base) (hbase : base ≤ w.heap.size) (hl : l.length ≤ 35184372088832) :
    Calls Tryz.prog 104 #[.pointer (some ⟨b, 0, none⟩), .slice (some ⟨k, 0, none⟩) n cap] w (RlsPost base b g s src (l ++ (line1 c).1) (line1 c).2 .nilIface w) := by
  have H := readLine_some b g s src ea w c h hc hs E
  have hkk := ho.ge
  have HO := Lib.hid ho
  have HN := Lib.hid hn
  have hll : (line1 c).1.length < 4096 := by
    have h1 := hs.self
    unfold line1
    cases hb : behind c with
    | nil => simp only []; omega
    | cons x r =>
      simp only [chomp]
      split
      · simp; omega
      · omega
  clear h hs hc ho E hn
  go_enter Tryz.func104, Tryz.ntmps104
  go_wp2
  refine wp_loop_rounds 1 ?_
  rw [rounds_succ]
  go_wp2_with (fail)
  refine H.mono ?_
  rintro e w1 ⟨o, cap1, rfl, hcap, hby, R, K⟩
  have O1 := HO.out.keep K (fun h => by simp only [In, List.mem_cons, List.not_mem_nil, or_false] at h; omega)
  have HB := Lib.hid hby
  have hn2 : n ≤ 35184372088832 := by have := HN.out; omega
  clear hby H
  generalize hL : (line1 c).1 = L at *
  generalize hM : (line1 c).2 = M at *
  clear hL hM
  go_wp2_with (at_builtin; refine wpList_append_b rfl (.tmp 15) (.tmp 16) rfl base k cap n l rfl HN.out O1 ⟨g, o, none⟩ L.length cap1 L rfl rfl HB.out.cells (by omega) (by have := K.size; omega) ?_; intro k2 cap2 W O2 K2)
  have K3 : Keeps (Up base [b, g, s]) w W := K.up.trans' (K2.up_one hkk)
  have R2 := R.keep K2 (fun h => by simp only [In, List.mem_cons, List.not_mem_nil, or_false] at h; omega) (fun h => by simp only [In, List.mem_cons, List.not_mem_nil, or_false] at h; omega) (fun h => by simp only [In, List.mem_cons, List.not_mem_nil, or_false] at h; omega)
  have hlen : n + L.length = (l ++ L).length := by have := HN.out; simp; omega
  have HL := Lib.hid hlen
  clear hlen R
  go_wp2
  go_ret2
  exact ⟨k2, cap2, by rw [← HL.out]; rfl, O2, R2, K3⟩

set_option maxRecDepth 100000 in
set_option maxHeartbeats 1000000 in
theorem readLineSlice_end (base b g s : Nat) (src : ByteArray) (ea : Addr) (w : World) (h : Rd w b g s src []) {N : Nat} (E : Env N b g s src ea w)
    (k cap n : Nat) (l : List UInt8) (hn : n = l.length) (ho : OwnS w base k cap l) (hb : b < base) (hg : g < base) (hs' : s < base) :
    Calls Tryz.prog 104 #[.pointer (some ⟨b, 0, none⟩), .slice (some ⟨k, 0, none⟩) n cap] w (RlsPost base b g s src l [] (.iface 203 (.pointer (some ea))) w) := by
  have H := readLine_end b g s src ea w h E
  have hkk := ho.ge
  have HO := Lib.hid ho
  have HN := Lib.hid hn
  clear h ho E hn
  go_enter Tryz.func104, Tryz.ntmps104
  go_wp2
  refine wp_loop_rounds 1 ?_
  rw [rounds_succ]
  go_wp2_with (fail)
  refine H.mono ?_
  rintro e w1 ⟨rfl, R, K⟩
  have O1 := HO.out.keep K (fun h => by simp only [In, List.mem_cons, List.not_mem_nil, or_false] at h; omega)
  clear H
  go_wp2_with (at_builtin; refine wpList_append_b_none rfl (.tmp 15) (.tmp 16) rfl base k cap n l rfl HN.out O1 rfl ?_)
  go_wp2
  go_ret2
  exact ⟨k, cap, by rw [← HN.out]; rfl, O1, R, K.up⟩
end Go.Proofs.YtjbbapodcngnaaaGreatDoor
namespace Go.Proofs.YtjbbapodcngnaaaGreatDoor
open Go.RowKit Hdr

theorem Rd.lt {w : World} {b g s : Nat} {src : ByteArray} {c : List UInt8} (h : Rd w b g s src c) : b < w.heap.size ∧ g < w.heap.size ∧ s < w.heap.size := by
  obtain ⟨r, q, i, lb, lr, p, data, h, _⟩ := h
  exact ⟨h.B.lt, h.G.lt, h.S.lt⟩

/-- What readContinuedLineSlice leaves. -/
def KvPost (b g s : Nat) (src : ByteArray) (l c : List UInt8) (w : World) (e : Ending) (w' : World) : Prop :=
  ∃ k cap : Nat, e = .returned (.tuple #[.slice (some ⟨k, 0, none⟩) l.length cap, .nilIface]) ∧ OwnS w' w.heap.size k cap l ∧ Rd w' b g s src c ∧ Keeps (In [b, g, s]) w w'

/-- .. at the end of the bytes. -/
def KvEnd (b g s : Nat) (src : ByteArray) (w : World) (e : Ending) (w' : World) : Prop :=
  e = .returned (.tuple #[.slice none 0 0, .nilIface]) ∧ Rd w' b g s src [] ∧ Keeps (In [b, g, s]) w w'

set_option maxRecDepth 100000 in
set_option maxHeartbeats 1000000 in
theorem kv_end (b g s : Nat) (src : ByteArray) (ea : Addr) (w : World) (h : Rd w b g s src []) {N : Nat} (E : Env N b g s src ea w) :
    Calls Tryz.prog 106 #[.pointer (some ⟨b, 0, none⟩)] w (KvEnd b g s src w) := by
  have H := Lib.hid h
  have HE := Lib.hid E
  obtain ⟨hb, hg, hs⟩ := h.lt
  clear h E
  go_enter Tryz.func106, Tryz.ntmps106
  go_wp2_with (at_make; refine wpList_make_b rfl (.const (.int .i64 0)) (.const (.int .i64 256)) rfl w.heap.size 256 256 rfl rfl (by decide) (by decide) (Nat.le_refl _) ?_; intro W0 O0 K0)
  refine (readLineSlice_end w.heap.size b g s src ea _ (H.out.keep K0 (fun h => h) (fun h => h) (fun h => h)) (HE.out.keep_no K0) w.heap.size 256 0 [] rfl O0 hb hg hs).mono ?_
  rintro e w1 ⟨k, cap, rfl, O1, R1, K1⟩
  have hq := eql_err_same w1 ea
  have he := (HE.out.keep_no K0).laid.keep K1 (fun x hx => by
    have := HE.out.hB
    have := HE.out.hG
    have := HE.out.hS
    rcases hx with hx | hx
    · simp at hx; omega
    · omega)
  have h1 := he.eof
  clear he O1
  go_wp2
  go_ret2
  exact ⟨rfl, R1, ((Keeps.of_no K0).trans' K1).down (Nat.le_refl _)⟩

theorem Env.up {N b g s : Nat} {src : ByteArray} {ea : Addr} {w w' : World} (h : Env N b g s src ea w) {base : Nat} (k : Keeps (Up base [b, g, s]) w w') (hb : b < base) : Env N b g s src ea w' :=
  ⟨h.hsz, h.hB, h.hG, h.hS, h.laid.keep k (fun x hx => by
    have := h.hB
    have := h.hG
    have := h.hS
    rcases hx with hx | hx
    · simp at hx; omega
    · omega)⟩

set_option maxRecDepth 100000 in
set_option maxHeartbeats 1000000 in
theorem kv_some (b g s : Nat) (src : ByteArray) (ea : Addr) (w : World) (c : List UInt8) (h : Rd w b g s src c) (hc : c ≠ []) (hsh : Short c) (hlen : c.length ≤ 1000000000) {N : Nat} (E : Env N b g s src ea w) :
    Calls Tryz.prog 106 #[.pointer (some ⟨b, 0, none⟩)] w (KvPost b g s src (kv c).1 (kv c).2 w) := by
  have H := Lib.hid h
  have HE := Lib.hid E
  have HS := Lib.hid hsh
  obtain ⟨hb, hg, hs⟩ := h.lt
  have hll : (line1 c).1.length ≤ 1000000000 := by have := line1_len c; omega
  have hll2 : (line1 c).2.length ≤ 1000000000 := by have := line1_len c; omega
  have hkl := (kv_len c).1
  generalize hkv : kv c = kk at *
  have HK := Lib.hid hkv
  clear h E hsh hkv
  go_enter Tryz.func106, Tryz.ntmps106
  go_wp2_with (at_make; refine wpList_make_b rfl (.const (.int .i64 0)) (.const (.int .i64 256)) rfl w.heap.size 256 256 rfl rfl (by decide) (by decide) (Nat.le_refl _) ?_; intro W0 O0 K0)
  refine (readLineSlice_some w.heap.size b g s src ea _ c (H.out.keep K0 (fun h => h) (fun h => h) (fun h => h)) hc HS.out (HE.out.keep_no K0) w.heap.size 256 0 [] rfl O0 hb hg hs K0.size (by simp)).mono ?_
  rintro e w1 ⟨k, cap, rfl, O1, R1, K1⟩
  have K2 := (Keeps.of_no (T := Up w.heap.size [b, g, s]) K0).trans' K1
  have h1 := (HE.out.up K2 hb).laid.eof
  have hq := fun (w : World) (v : Value) => run_eql_iface_nil_left (P := Tryz.prog) w 203 v Tryz.underlying93
  rw [List.nil_append] at O1 ⊢
  have HS2 := Lib.hid HS.out.line
  clear HS K1
  have hkv : (if (line1 c).1 = [] then ([], (line1 c).2) else ((line1 c).1 ++ [13, 10] ++ (conts (line1 c).2).1, (conts (line1 c).2).2)) = kk := HK.out
  clear HK
  generalize (line1 c).1 = L at *
  generalize (line1 c).2 = M at *
  by_cases hL : L = []
  · subst hL
    rw [if_pos rfl] at hkv
    subst hkv
    go_wp2
    go_ret2
    exact ⟨k, cap, rfl, O1, R1, K2.down (Nat.le_refl _)⟩
  · rw [if_neg hL] at hkv
    have HK := Lib.hid hkv
    clear hkv
    have hL1 : 0 < L.length := List.length_pos_iff.2 hL
    have hL2 : ((L.length : Int) == 0) = false := by simp; omega
    have hL3 : (L.length == 0) = false := by simp; omega
    have HL := Lib.hid hL
    clear hL
    have HO := Lib.hid O1
    clear O1
    go_wp2_with (at_builtin; refine wpList_append_b rfl (.tmp 27) (.tmp 28) rfl w.heap.size k cap L.length L rfl rfl (HO.out.keep ((Keeps.refl No _).alloc _) (fun h => h)) ⟨w1.heap.size, 0, none⟩ 2 2 [13, 10] rfl rfl (BytesAt.of_blk (Blk.new w1 [.int .u8 13, .int .u8 10] 5) (by rfl)).cells (by omega) (by have := K2.size; simp; omega) ?_; intro k2 cap2 W2 O2 K3)
    have K4 : Keeps (Up w.heap.size [b, g, s]) w W2 := ((K2.alloc _).trans' (K3.up_one HO.out.ge))
    have hkk := HO.out.ge
    have R2 := (R1.keep ((Keeps.refl No _).alloc _) (fun h => h) (fun h => h) (fun h => h)).keep K3 (fun h => by simp only [In, List.mem_cons, List.not_mem_nil, or_false] at h; omega) (fun h => by simp only [In, List.mem_cons, List.not_mem_nil, or_false] at h; omega) (fun h => by simp only [In, List.mem_cons, List.not_mem_nil, or_false] at h; omega)
    go_loopg [4, 5] M.length (fun n s4 s5 wr => ∃ (k3 cap3 : Nat) (l c' : List UInt8), s4 = .slice (some ⟨k3, 0, none⟩) l.length cap3 ∧ s5 = .nilIface ∧ OwnS wr w.heap.size k3 cap3 l ∧ Rd wr b g s src c' ∧ Short c' ∧ l ++ (conts c').1 = kk.1 ∧ (conts c').2 = kk.2 ∧ n = c'.length ∧
      c'.length ≤ 1000000000 ∧ Keeps (Up w.heap.size [b, g, s]) w wr)
    case atStart => exact ⟨k2, cap2, L ++ [13, 10], M, by simp, rfl, O2, R2, HS2.out, by rw [← HK.out], by rw [← HK.out], rfl, hll2, K4⟩
    case round =>
      obtain ⟨k3, cap3, l, c', rfl, rfl, O3, R3, S3, e1, e2, hn, hc', K5⟩ := hrel
      have HO3 := Lib.hid O3
      have HR3 := Lib.hid R3
      have HS3 := Lib.hid S3
      have HE1 := Lib.hid e1
      have HE2 := Lib.hid e2
      have HN := Lib.hid hn
      have HEnv := Lib.hid (HE.out.up K5 hb)
      clear O3 R3 S3 e1 e2 hn
      go_wp2_with (fail)
      refine (hasCont b g s src ea wr c' HR3.out HEnv.out).mono ?_
      rintro e w3 ⟨rfl, R4, K6⟩
      have O4 := HO3.out.keep K6 (by have := HO3.out.ge; exact (fun h => by simp only [In, List.mem_cons, List.not_mem_nil, or_false] at h; omega))
      have HR4 := Lib.hid R4
      have HO4 := Lib.hid O4
      clear R4 O4
      cases hsp : spHead c' with
      | false =>
        have HSP := Lib.hid hsp
        clear hsp
        go_wp2
        go_ret2
        have h1 := HE1.out
        have h2 := HE2.out
        rw [conts_no HSP.out] at h1 h2
        simp only [List.append_nil] at h1
        subst h1
        simp only [] at h2
        subst h2
        exact ⟨k3, cap3, rfl, HO4.out, HR4.out, (K5.trans' K6.up).down (Nat.le_refl _)⟩
      | true =>
        have HSP := Lib.hid hsp
        clear hsp
        go_wp2_with (fail)
        have hl3 : l.length ≤ 3000000002 := by
          have h1 := congrArg List.length HE1.out
          simp at h1
          omega
        have hll3 : (line1 c').1.length ≤ 1000000000 := by have := line1_len c'; omega
        have hlt := line1_lt (spHead_ne HSP.out)
        refine (readLineSlice_some w.heap.size b g s src ea _ c' HR4.out (spHead_ne HSP.out) HS3.out (HEnv.out.keep3 K6) k3 cap3 l.length l rfl HO4.out hb hg hs (by have := K5.size; have := K6.size; omega) (by omega)).mono ?_
        rintro e w4 ⟨k4, cap4, rfl, O5, R5, K7⟩
        have hC := conts_yes HSP.out
        have HS4 := Lib.hid HS3.out.line
        generalize (line1 c').1 = L' at *
        generalize (line1 c').2 = M' at *
        have HC := Lib.hid hC
        clear hC
        have K8 : Keeps (Up w.heap.size [b, g, s]) w w4 := (K5.trans' K6.up).trans' K7
        have hk4 := O5.ge
        have HO5 := Lib.hid O5
        clear O5
        go_wp2_with (at_builtin; refine wpList_append_b rfl (.tmp 40) (.tmp 41) rfl w.heap.size k4 cap4 (l.length + L'.length) (l ++ L') rfl (by simp) (HO5.out.keep ((Keeps.refl No _).alloc _) (fun h => h)) ⟨w4.heap.size, 0, none⟩ 2 2 [13, 10] rfl rfl (BytesAt.of_blk (Blk.new w4 [.int .u8 13, .int .u8 10] 5) (by rfl)).cells (by omega) (by have := K8.size; simp; omega) ?_; intro k5 cap5 W5 O6 K9)
        have K10 : Keeps (Up w.heap.size [b, g, s]) w W5 := ((K8.alloc _).trans' (K9.up_one hk4))
        have R6 := (R5.keep ((Keeps.refl No _).alloc _) (fun h => h) (fun h => h) (fun h => h)).keep K9 (fun h => by simp only [In, List.mem_cons, List.not_mem_nil, or_false] at h; omega) (fun h => by simp only [In, List.mem_cons, List.not_mem_nil, or_false] at h; omega) (fun h => by simp only [In, List.mem_cons, List.not_mem_nil, or_false] at h; omega)
        go_roundg M'.length
        case measure => have := HN.out; omega
        case rel =>
          have h1 := HE1.out
          have h2 := HE2.out
          rw [HC.out] at h1 h2
          exact ⟨k5, cap5, l ++ L' ++ [13, 10], M', by simp; omega, rfl, O6, R6, HS4.out, by rw [← h1]; simp, h2, rfl, by omega, K10⟩
end Go.Proofs.YtjbbapodcngnaaaGreatDoor
namespace Go.Proofs.YtjbbapodcngnaaaGreatDoor
open Go.RowKit

/-- A builder of ours at block b that holds these bytes. -/
abbrev Bd (B b : Nat) (l : List UInt8) (w : World) : Prop := Lib.IsBuilder 236 5 B b (u8s l) w

theorem info_builder : (Tryz.prog.info? 236).map (fun i => i.size) = some 2 := by kernel_rfl

set_option maxHeartbeats 1000000 in
set_option maxRecDepth 100000 in
theorem copyCheck_used (b : Nat) (w : World) (h0 : w.cell? ⟨b, 0, none⟩ = some (.pointer (some ⟨b, 0, none⟩))) :
    Calls Tryz.prog 182 #[.pointer (some ⟨b, 0, none⟩)] w fun e w' => e = .returned (.tuple #[]) ∧ w' = w := by
  obtain ⟨j, hj, _⟩ := Option.map_eq_some_iff.1 info_builder
  have hq := Lib.run_neq_ptr_same (P := Tryz.prog) w (⟨b, 0, none⟩ : Addr) Tryz.underlying234 hj
  go_enter Tryz.func182, Tryz.ntmps182
  go_wp2
  go_end0
  exact ⟨rfl, rfl⟩

set_option maxHeartbeats 1000000 in
set_option maxRecDepth 100000 in
theorem copyCheck_fresh (b : Nat) (w : World) (h0 : w.cell? ⟨b, 0, none⟩ = some (.pointer none)) (hsh : w.shape? b = some (236, 2)) (hfz : w.frozen? ⟨b, 0, none⟩ = false) :
    Calls Tryz.prog 182 #[.pointer (some ⟨b, 0, none⟩)] w fun e w' => e = .returned (.tuple #[]) ∧ w' = w.setCell ⟨b, 0, none⟩ (.pointer (some ⟨b, 0, none⟩)) := by
  obtain ⟨j, hj, hjs⟩ := Option.map_eq_some_iff.1 info_builder
  have hq := Lib.run_to_unsafe (P := Tryz.prog) w ⟨b, 0, none⟩ Tryz.underlying234 Tryz.underlying222 hj (by rw [hjs]; decide) hsh (Nat.zero_lt_succ 1)
  have hq2 := Lib.run_from_unsafe (P := Tryz.prog) w ⟨b, 0, none⟩ Tryz.underlying222 Tryz.underlying234 hj hsh (by kernel_rfl)
  have hq3 : (callFunc 204 #[.pointer (some ⟨b, 0, none⟩)]).run Tryz.prog w = .ok (.value (.pointer (some ⟨b, 0, none⟩))) w := by
    rw [run_callFunc_extern Tryz.func204 (by kernel_rfl) (by kernel_rfl) (by kernel_rfl) (e := Extern.AbiNoEscape.same) (by kernel_rfl), Lib.run_noEscape]
    rfl
  go_enter Tryz.func182, Tryz.ntmps182
  go_wp2
  go_end0
  exact ⟨rfl, rfl⟩

theorem copyCheck_any (B b : Nat) (bs : List Value) (w : World) (h : Lib.IsBuilder 236 5 B b bs w) :
    Calls Tryz.prog 182 #[.pointer (some ⟨b, 0, none⟩)] w fun e w' => e = .returned (.tuple #[]) ∧ (Lib.BuilderAt 236 5 B b (.pointer (some ⟨b, 0, none⟩)) bs w' ∧ Below B w w') := by
  rcases h with h | h
  · refine (copyCheck_fresh b w h.cell0 h.shape h.frozen0).mono ?_
    rintro e w' ⟨rfl, rfl⟩
    exact ⟨rfl, h.used _, (Below.refl B w).setCell (p := ⟨b, 0, none⟩) h.1 _⟩
  · refine (copyCheck_used b w h.cell0).mono ?_
    rintro e w' ⟨rfl, rfl⟩
    exact ⟨rfl, h, Below.refl B _⟩

set_option maxHeartbeats 2000000 in
set_option maxRecDepth 100000 in
theorem writeByte_any (B b : Nat) (l : List UInt8) (c : UInt8) (w : World) (h : Bd B b l w) (hlen : l.length ≤ 70368744177664) (hBw : B ≤ w.heap.size) :
    Calls Tryz.prog 149 #[.pointer (some ⟨b, 0, none⟩), .int .u8 c.toNat] w fun e w' => e = .returned .nilIface ∧ (Bd B b (l ++ [c]) w' ∧ Below B w w') := by
  obtain ⟨i0, hi, hz0, hz1, hz2⟩ := info_parts info_u8
  go_enter Tryz.func149, Tryz.ntmps149
  go_wp2_with (go_at_call 182; refine (copyCheck_any B b _ _ h).mono ?_)
  rintro e w1 ⟨rfl, h1, hb1⟩
  obtain ⟨hB, v, hbk, hown, hne⟩ := h1
  have c0 : w1.cell? ⟨b, 0, none⟩ = some (.pointer (some ⟨b, 0, none⟩)) := by rw [Lib.cell_of_heap hbk]; rfl
  have c1 : w1.cell? ⟨b, 1, none⟩ = some v := by rw [Lib.cell_of_heap hbk]; rfl
  go_wp2_with (at_builtin; refine wpList_append_own _ rfl _ _ 85 rfl B 5 i0 (.int .u8 0) 1 1 Tryz.underlying85 hi hz0 hz1 hz2 rfl (by decide) _ _ _ rfl (hown.alloc _) ⟨w1.heap.size, 0, none⟩ 1 1 [.int .u8 c.toNat] rfl rfl ?c1 ?c2 ?c3 ?c4 ?c5 ?_)
  case c1 =>
    intro j u hj
    match j, hj with
    | 0, hj => simp at hj; subst hj; simp [Addr.add]
  case c2 => intro u hu; simp at hu; subst hu; rfl
  case c3 => rw [u8s_length]; unfold maxLen; omega
  case c4 => rw [u8s_length]; omega
  case c5 => have := hb1.size; simp; omega
  intro v' w2 hown' hgrow _
  have hlt : b < w1.heap.size := by
    rcases Nat.lt_or_ge b w1.heap.size with h' | h'
    · exact h'
    · simp [Array.getElem?_eq_none h'] at hbk
  have hb2 : w2.heap[b]? = some (.cells #[.pointer (some ⟨b, 0, none⟩), v] 236 (0, 0)) := by
    rw [hgrow.block b (by simp; omega) (fun e => hne e.symm), Lib.alloc_old w1 _ b hlt]
    exact hbk
  have d0 : w2.cell? ⟨b, 0, none⟩ = some (.pointer (some ⟨b, 0, none⟩)) := by rw [Lib.cell_of_heap hb2]; rfl
  have d1 : w2.cell? ⟨b, 1, none⟩ = some v := by rw [Lib.cell_of_heap hb2]; rfl
  have f1 : w2.frozen? ⟨b, 1, none⟩ = false := Lib.frozen_of_heap hb2 1
  obtain ⟨g, n', cap, rfl⟩ : ∃ g n' cap, v' = .slice g n' cap := by
    rcases hown'.2 with ⟨hv, _⟩ | ⟨g, cap, cur, hv, _⟩
    · exact ⟨_, _, _, hv⟩
    · exact ⟨_, _, _, hv⟩
  go_wp2
  go_ret
  refine ⟨rfl, .inr ?_, ?_⟩
  · rw [show u8s (l ++ [c]) = u8s l ++ [.int .u8 c.toNat] from u8s_append l [c]]
    exact Lib.BuilderAt.put (T := 236) (e := 5) hB hb2 (bs' := u8s l ++ [.int .u8 c.toNat]) (by simpa using hown') (by decide)
  · exact ((hb1.alloc (by have := hb1.size; omega) _).grown hgrow (by have := hb1.size; simp; omega) (fun k hk => (hown.lt k hk).1)).setCell (p := ⟨b, 1, none⟩) hB _

set_option maxHeartbeats 2000000 in
set_option maxRecDepth 100000 in
theorem write_any (B b : Nat) (l : List UInt8) (ad : Addr) (cap : Nat) (new : List UInt8) (n : Nat) (hn : n = new.length) (w : World) (h : Bd B b l w) (hnew : ∀ W, Below B w W → ∀ j u, (u8s new)[j]? = some u → W.cell? (ad.add j) = some u)
    (hlen : l.length + new.length ≤ 70368744177664) (hBw : B ≤ w.heap.size) :
    Calls Tryz.prog 185 #[.pointer (some ⟨b, 0, none⟩), .slice (some ad) n cap] w fun e w' => (∃ v, e = .returned v) ∧ (Bd B b (l ++ new) w' ∧ Below B w w') := by
  obtain ⟨i0, hi, hz0, hz1, hz2⟩ := info_parts info_u8
  have HW := Lib.hid hnew
  have HN := Lib.hid hn
  clear hnew hn
  go_enter Tryz.func185, Tryz.ntmps185
  go_wp2_with (go_at_call 182; refine (copyCheck_any B b _ _ h).mono ?_)
  rintro e w1 ⟨rfl, h1, hb1⟩
  obtain ⟨hB, v, hbk, hown, hne⟩ := h1
  have c0 : w1.cell? ⟨b, 0, none⟩ = some (.pointer (some ⟨b, 0, none⟩)) := by rw [Lib.cell_of_heap hbk]; rfl
  have c1 : w1.cell? ⟨b, 1, none⟩ = some v := by rw [Lib.cell_of_heap hbk]; rfl
  go_wp2_with (at_builtin; refine wpList_append_own _ rfl _ _ 85 rfl B 5 i0 (.int .u8 0) 1 1 Tryz.underlying85 hi hz0 hz1 hz2 rfl (by decide) _ _ _ rfl hown ad n cap (u8s new) rfl ?c0 (HW.out _ hb1) (u8s_one new) ?c3 ?c4 ?c5 ?_)
  case c0 => rw [u8s_length, HN.out, Nat.mul_one]
  case c3 => rw [u8s_length, HN.out]; unfold maxLen; omega
  case c4 => rw [u8s_length, HN.out]; omega
  case c5 => have := hb1.size; omega
  intro v' w2 hown' hgrow _
  have hlt : b < w1.heap.size := by
    rcases Nat.lt_or_ge b w1.heap.size with h' | h'
    · exact h'
    · simp [Array.getElem?_eq_none h'] at hbk
  have hb2 : w2.heap[b]? = some (.cells #[.pointer (some ⟨b, 0, none⟩), v] 236 (0, 0)) := by
    rw [hgrow.block b hlt (fun e => hne e.symm)]
    exact hbk
  have d0 : w2.cell? ⟨b, 0, none⟩ = some (.pointer (some ⟨b, 0, none⟩)) := by rw [Lib.cell_of_heap hb2]; rfl
  have d1 : w2.cell? ⟨b, 1, none⟩ = some v := by rw [Lib.cell_of_heap hb2]; rfl
  have f1 : w2.frozen? ⟨b, 1, none⟩ = false := Lib.frozen_of_heap hb2 1
  obtain ⟨g, n', cap, rfl⟩ : ∃ g n' cap, v' = .slice g n' cap := by
    rcases hown'.2 with ⟨hv, _⟩ | ⟨g, cap, cur, hv, _⟩
    · exact ⟨_, _, _, hv⟩
    · exact ⟨_, _, _, hv⟩
  have HO := Lib.hid hown'
  clear hown'
  go_wp2
  go_ret2
  have ho := HO.out
  rw [HN.out, show l.length + new.length = (u8s (l ++ new)).length by simp, ← u8s_append] at ho
  refine ⟨⟨_, rfl⟩, .inr ?_, ?_⟩
  · exact Lib.BuilderAt.put (T := 236) (e := 5) hB hb2 (bs' := u8s (l ++ new)) ho (by decide)
  · exact (hb1.grown hgrow (by have := hb1.size; omega) (fun k hk => (hown.lt k hk).1)).setCell (p := ⟨b, 1, none⟩) hB _
end Go.Proofs.YtjbbapodcngnaaaGreatDoor
namespace Go.Proofs.YtjbbapodcngnaaaGreatDoor
open Go.RowKit Hdr

/-- What trim leaves. -/
def TrimPost (b : Nat) (l : List UInt8) (w : World) (e : Ending) (w' : World) : Prop :=
  ∃ o cap : Nat, e = .returned (.slice (some ⟨b, o, none⟩) (trim l).length cap) ∧ (trim l).length ≤ cap ∧ BytesAt w b o (trim l) ∧ w' = w

set_option maxRecDepth 100000 in
set_option maxHeartbeats 1000000 in
theorem trim_any (b o cap : Nat) (l : List UInt8) (len : Nat) (hn : len = l.length) (w : World) (h : BytesAt w b o l) (hcap : l.length ≤ cap) (hlen : l.length ≤ 1000000000000) :
    Calls Tryz.prog 99 #[.slice (some ⟨b, o, none⟩) len cap] w (TrimPost b l w) := by
  have H := Lib.hid h
  have HN := Lib.hid hn
  have hlen2 : len ≤ 1000000000000 := by omega
  have hcap2 : len ≤ cap := by omega
  clear h hn
  go_enter Tryz.func99, Tryz.ntmps99
  go_upto_block 0 with (fail)
  go_cut [3] (fun s3 wx => ∃ i : Nat, s3 = .int .i64 i ∧ i ≤ len ∧ l.drop i = trimL l ∧ w = wx)
  case first =>
    go_wp2
    go_loopg [3] len (fun n s3 wr => ∃ i : Nat, s3 = .int .i64 i ∧ i + n = len ∧ trimL (l.drop i) = trimL l ∧ w = wr)
    case atStart => exact ⟨0, rfl, by omega, by rw [List.drop_zero], rfl⟩
    case round =>
      obtain ⟨i, rfl, hin, ht, rfl⟩ := hrel
      have HT := Lib.hid ht
      have HIN := Lib.hid hin
      have hil0 : i ≤ len := by omega
      clear ht hin
      by_cases hi : i < len
      · have hil : i < l.length := by have := HN.out; omega
        have hx : w.cell? ⟨b, o + i, none⟩ = some (byt l[i]) := H.out.cell hil
        have e1 : decide ((i : Int) < (len : Int)) = true := decide_eq_true (by omega)
        have hi2 : (i : Int) < (len : Int) := by omega
        unfold byt at hx
        generalize hc : l[i] = c at hx
        have HC := Lib.hid hc
        clear hc
        go_wp2_with (fail)
        refine (isSpace_any c _).mono ?_
        rintro e w1 ⟨rfl, rfl⟩
        cases hs : sp c with
        | true =>
          have HS := Lib.hid hs
          clear hs
          go_wp2
          go_roundg (gk - 1)
          case measure => have := HIN.out; omega
          case rel => exact ⟨i + 1, by simp, by have := HIN.out; omega, (trimL_at hil HT.out).1 (by rw [HC.out]; exact HS.out), rfl⟩
        | false =>
          have HS := Lib.hid hs
          clear hs
          go_wp2
          go_meet
          exact ⟨i, rfl, hil0, (trimL_at hil HT.out).2 (by rw [HC.out]; exact HS.out), rfl⟩
      · have e1 : decide ((i : Int) < (len : Int)) = false := decide_eq_false (by omega)
        go_wp2
        go_meet
        exact ⟨i, rfl, hil0, trimL_end (by have := HN.out; omega) HT.out, rfl⟩
  case rest =>
    obtain ⟨i, rfl, hil0, ht, rfl⟩ := hcut
    have HT := Lib.hid ht
    clear ht
    go_upto_block 2 with (fail)
    go_cut [4] (fun s4 wx => ∃ n : Nat, s4 = .int .i64 n ∧ i ≤ n ∧ n ≤ len ∧ (l.take n).drop i = trim l ∧ w = wx)
    case first =>
      go_wp2
      go_loopg [4] (len - i) (fun k s4 wr => ∃ n : Nat, s4 = .int .i64 n ∧ i + k = n ∧ n ≤ len ∧ trimR ((l.take n).drop i) = trimR (l.drop i) ∧ w = wr)
      case atStart => exact ⟨len, rfl, by omega, Nat.le_refl _, by rw [List.take_of_length_le (by have := HN.out; omega)], rfl⟩
      case round =>
        obtain ⟨n, rfl, hin, hnl, hr, rfl⟩ := hrel
        have HR := Lib.hid hr
        have HIN := Lib.hid hin
        have hin0 : i ≤ n := by omega
        clear hr hin
        have hT : trimR (l.drop i) = trim l := by unfold trim; rw [HT.out]
        by_cases hi : i < n
        · have hil : n - 1 < l.length := by have := HN.out; omega
          have hx : w.cell? ⟨b, o + (n - 1), none⟩ = some (byt l[n - 1]) := H.out.cell hil
          have e1 : decide ((i : Int) < (n : Int)) = true := decide_eq_true (by omega)
          have hi2 : (i : Int) < (n : Int) := by omega
          have hi3 : (n : Int) - 1 = ((n - 1 : Nat) : Int) := by omega
          have hi4 : IntKind.i64.wrap ((n : Int) - 1) = ((n - 1 : Nat) : Int) := by rw [IntKind.wrap_i64]; omega
          unfold byt at hx
          generalize hc : l[n - 1] = c at hx
          have HC := Lib.hid hc
          clear hc
          go_wp2_with (fail)
          refine (isSpace_any c _).mono ?_
          rintro e w1 ⟨rfl, rfl⟩
          cases hs : sp c with
          | true =>
            have HS := Lib.hid hs
            clear hs
            go_wp2
            go_roundg (gk - 1)
            case measure => have := HIN.out; omega
            case rel => exact ⟨n - 1, by simp, by have := HIN.out; omega, by omega, (trimR_at hi (by have := HN.out; omega) HR.out).1 (by rw [HC.out]; exact HS.out), rfl⟩
          | false =>
            have HS := Lib.hid hs
            clear hs
            go_wp2
            go_meet
            exact ⟨n, rfl, hin0, hnl, ((trimR_at hi (by have := HN.out; omega) HR.out).2 (by rw [HC.out]; exact HS.out)).trans hT, rfl⟩
        · have e1 : decide ((i : Int) < (n : Int)) = false := decide_eq_false (by omega)
          have hni : n = i := by omega
          go_wp2
          go_meet
          exact ⟨n, rfl, hin0, hnl, by rw [← hT, ← HR.out, hni, List.drop_eq_nil_of_le (by simp; omega)]; rfl, rfl⟩
    case rest =>
      obtain ⟨n, rfl, hin, hnl, hr, rfl⟩ := hcut
      have HR := Lib.hid hr
      clear hr
      have h0 : (0 : Int) ≤ (i : Int) := by omega
      have h1 : (i : Int) ≤ (n : Int) := by omega
      have h2 : (n : Int) ≤ (cap : Int) := by omega
      go_wp2
      go_ret
      have hl : n - i = (trim l).length := by rw [← HR.out]; have := HN.out; simp; omega
      refine ⟨cutAt o i cap 1, cap - i, ?_, by omega, ?_, rfl⟩
      · rw [← hl]; rfl
      · have := H.out.cut i (n - i) (cap := cap) hcap
        rwa [← List.drop_take, HR.out] at this
end Go.Proofs.YtjbbapodcngnaaaGreatDoor
