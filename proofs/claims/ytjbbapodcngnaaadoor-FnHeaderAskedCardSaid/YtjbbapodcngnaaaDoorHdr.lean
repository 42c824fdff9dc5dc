/- Headers as lists of bytes: lines, fields. No program in sight. -/
namespace Go.Proofs.YtjbbapodcngnaaaDoor.Hdr

/-- A line without the return at its end. -/
def chomp (l : List UInt8) : List UInt8 := if l.getLast? = some 13 then l.dropLast else l

/-- What stands ahead of the first line feed. -/
def upto (c : List UInt8) : List UInt8 := c.takeWhile (· != 10)
def behind (c : List UInt8) : List UInt8 := c.dropWhile (· != 10)

/-- The first line, as it is read, and what stands behind it. -/
def line1 (c : List UInt8) : List UInt8 × List UInt8 :=
  match behind c with
  | [] => (upto c, [])
  | _ :: r => (chomp (upto c), r)

theorem split (c : List UInt8) : c = upto c ++ behind c := (List.takeWhile_append_dropWhile (p := (· != 10)) (l := c)).symm
theorem upto_no (c : List UInt8) : (10 : UInt8) ∉ upto c := by
  induction c with
  | nil => simp [upto]
  | cons x c ih =>
    unfold upto at *
    rw [List.takeWhile_cons]
    split
    · rename_i h
      simp only [List.mem_cons, not_or]
      exact ⟨fun e => by subst e; simp at h, ih⟩
    · simp
theorem behind_head {c r : List UInt8} {x : UInt8} (h : behind c = x :: r) : x = 10 := by
  induction c with
  | nil => simp [behind] at h
  | cons y c ih =>
    unfold behind at *
    rw [List.dropWhile_cons] at h
    split at h
    · exact ih h
    · rename_i hy
      simp only [List.cons.injEq] at h
      rw [← h.1]
      simpa using hy
theorem line1_nl {c r : List UInt8} {x : UInt8} (h : behind c = x :: r) : line1 c = (chomp (upto c), r) := by unfold line1; rw [h]
theorem line1_end {c : List UInt8} (h : behind c = []) : line1 c = (c, []) := by
  have h2 := split c
  rw [h, List.append_nil] at h2
  unfold line1; rw [h, ← h2]

/-- No line of it is as long as a buffer. -/
def Short (c : List UInt8) : Prop := ∀ b, b <:+ c → (upto b).length < 4095
theorem Short.self {c : List UInt8} (h : Short c) : (upto c).length < 4095 := h c (List.suffix_refl c)
theorem Short.tail {c d : List UInt8} (h : Short c) (hd : d <:+ c) : Short d := fun b hb => h b (hb.trans hd)
theorem line1_suffix (c : List UInt8) : (line1 c).2 <:+ c := by
  unfold line1
  cases h : behind c with
  | nil => exact List.nil_suffix
  | cons x r => exact ⟨upto c ++ [x], by rw [List.append_assoc, List.singleton_append, ← h, ← split]⟩
theorem Short.line {c : List UInt8} (h : Short c) : Short (line1 c).2 := h.tail (line1_suffix c)
theorem line1_lt {c : List UInt8} (h : c ≠ []) : (line1 c).2.length < c.length := by
  unfold line1
  cases hb : behind c with
  | nil => simp; exact List.length_pos_iff.2 h
  | cons x r =>
    have := congrArg List.length (split c)
    rw [hb] at this
    simp at this ⊢
    omega

/-- A blank or a tab. -/
def sp (c : UInt8) : Bool := c == 32 || c == 9

def spHead : List UInt8 → Bool
  | [] => false
  | x :: _ => sp x
theorem spHead_ne {c : List UInt8} (h : spHead c = true) : c ≠ [] := by rintro rfl; cases h

/-- The lines that go on with a field, each with CR LF, and what stands behind them. -/
def conts (c : List UInt8) : List UInt8 × List UInt8 :=
  if h : spHead c = true then
    let r := conts (line1 c).2
    ((line1 c).1 ++ [13, 10] ++ r.1, r.2)
  else ([], c)
termination_by c.length
decreasing_by exact line1_lt (spHead_ne h)

theorem conts_yes {c : List UInt8} (h : spHead c = true) : conts c = ((line1 c).1 ++ [13, 10] ++ (conts (line1 c).2).1, (conts (line1 c).2).2) := by rw [conts, dif_pos h]
theorem conts_no {c : List UInt8} (h : spHead c = false) : conts c = ([], c) := by rw [conts, dif_neg (by rw [h]; decide)]

/-- A field's lines, each with CR LF; nothing where the first line is empty; and what stands behind. -/
def kv (c : List UInt8) : List UInt8 × List UInt8 :=
  if (line1 c).1 = [] then ([], (line1 c).2) else ((line1 c).1 ++ [13, 10] ++ (conts (line1 c).2).1, (conts (line1 c).2).2)

theorem line1_len (c : List UInt8) : (line1 c).1.length + (line1 c).2.length ≤ c.length := by
  have := congrArg List.length (split c)
  unfold line1
  cases hb : behind c with
  | nil => rw [hb] at this; simp at this ⊢; omega
  | cons x r =>
    rw [hb] at this
    simp only [chomp]
    simp at this
    split <;> simp <;> omega

theorem conts_len (c : List UInt8) : (conts c).1.length ≤ 3 * c.length ∧ (conts c).2.length ≤ c.length := by
  induction hn : c.length using Nat.strongRecOn generalizing c with
  | _ n ih =>
    subst hn
    by_cases h : spHead c = true
    · rw [conts_yes h]
      have h1 := line1_lt (spHead_ne h)
      have h2 := line1_len c
      have h3 := ih _ h1 (line1 c).2 rfl
      simp
      omega
    · rw [conts_no (by simpa using h)]
      simp
theorem kv_len (c : List UInt8) : (kv c).1.length ≤ 3 * c.length + 2 ∧ (kv c).2.length ≤ c.length := by
  unfold kv
  have h1 := line1_len c
  have h2 := conts_len (line1 c).2
  split
  · simp; omega
  · simp; omega

theorem conts_suffix (c : List UInt8) : (conts c).2 <:+ c := by
  induction hn : c.length using Nat.strongRecOn generalizing c with
  | _ n ih =>
    subst hn
    by_cases h : spHead c = true
    · rw [conts_yes h]
      exact (ih _ (line1_lt (spHead_ne h)) (line1 c).2 rfl).trans (line1_suffix c)
    · rw [conts_no (by simpa using h)]
      exact List.suffix_refl c
theorem kv_suffix (c : List UInt8) : (kv c).2 <:+ c := by
  unfold kv
  split
  · exact line1_suffix c
  · exact (conts_suffix _).trans (line1_suffix c)

end Go.Proofs.YtjbbapodcngnaaaDoor.Hdr
