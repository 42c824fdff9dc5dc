/- The lines of a field, as the specification takes them; its scan. No program in sight. The specification's scan and the program's parse agree. No program in sight. What is written is read again: fields as lines. No program in sight. Fields as they are written, and read again with what stands behind them. No program in sight. Messages as data: their text. No program in sight. impl.headed; the fields of a header, one by one. impl.fieldsOf. impl.HeaderOf. spec: isBlank9, hasByte9, trim9. spec: trim9. spec: fieldOf9. Media types: a text cut at a sign (both packages' zzIndex and zzCut). headerField.raw of a field that has no bytes. Media types: tokens. The structure of a message. No program in sight. Regions that draw their order: looks, then one of two effects. Regions that draw their order: a tree of forks of two effects, looks ahead of each. A message as the specification holds it in memory: a struct of nine cells, with a slice of fields and a slice of such. -/
import Derived.Test.YtjbbapodcngnaaaGreatDoorZsac
import Derived.Test.YtjbbapodcngnaaaGreatDoorZsag
import Derived.Test.YtjbbapodcngnaaaGreatDoorZsad
import Derived.OwnWalk
import Derived.Maps.AppendAt
import Derived.Laws.RangeAny
import Derived.LaidEqlPtr
namespace Go.Proofs.YtjbbapodcngnaaaGreatDoor.Hdr

/-- What stands ahead of the colon. -/
def tillC (l : List UInt8) : List UInt8 := l.takeWhile (· != 58)
theorem tillC_at {l : List UInt8} {j : Nat} (hj : j < l.length) (h : (58 : UInt8) ∉ l.take j) : (l[j] ≠ 58 → (58 : UInt8) ∉ l.take (j + 1)) ∧ (l[j] = 58 → (tillC l).length = j) := by
  constructor
  · intro hne
    rw [List.take_succ_eq_append_getElem hj]
    simp only [List.mem_append, List.mem_singleton, not_or]
    exact ⟨h, fun e => hne e.symm⟩
  · intro he
    have h1 : l = l.take j ++ 58 :: l.drop (j + 1) := by
      conv => lhs; rw [← List.take_append_drop j l, List.drop_eq_getElem_cons hj, he]
    have h2 : tillC l = l.take j := by
      unfold tillC
      conv => lhs; rw [h1]
      rw [List.takeWhile_append_of_pos (by
        intro x hx
        simp only [bne_iff_ne, ne_eq]
        rintro rfl
        exact h hx)]
      simp
    rw [h2, List.length_take]
    omega
theorem tillC_none {l : List UInt8} (h : (58 : UInt8) ∉ l) : tillC l = l := by
  induction l with
  | nil => rfl
  | cons x l ih =>
    simp only [List.mem_cons, not_or] at h
    unfold tillC at *
    rw [List.takeWhile_cons, if_pos (by simpa using fun e => h.1 e.symm), ih h.2]

/-- What fieldOf9 says of the lines: the bytes, the value. -/
def raws (ls : List (List UInt8)) : List UInt8 := ls.flatMap (· ++ [13, 10])
def vals1 (v s : List UInt8) : List UInt8 := if trim s = [] then v else if v = [] then trim s else v ++ 32 :: trim s
def vals (v : List UInt8) (ls : List (List UInt8)) : List UInt8 := ls.foldl vals1 v

theorem raws_append (a b : List (List UInt8)) : raws (a ++ b) = raws a ++ raws b := by simp [raws]

def okOf (l0 : List UInt8) : Bool := !decide ((tillC l0).length = l0.length) && (trim (tillC l0)).all keyb
def pfOf (l0 : List UInt8) (ls : List (List UInt8)) : PF := ⟨canon (trim (tillC l0)), vals [] (l0.drop ((tillC l0).length + 1) :: ls), raws (l0 :: ls)⟩

end Go.Proofs.YtjbbapodcngnaaaGreatDoor.Hdr
namespace Go.Proofs.YtjbbapodcngnaaaGreatDoor.Hdr

/-! ### The first line -/
theorem upto_nl (c : List UInt8) : upto (10 :: c) = [] := by unfold upto; rw [List.takeWhile_cons, if_neg (by simp)]
theorem behind_nl (c : List UInt8) : behind (10 :: c) = 10 :: c := by unfold behind; rw [List.dropWhile_cons, if_neg (by simp)]

/-! ### The lines that go on -/
theorem raws_cons (l : List UInt8) (ls : List (List UInt8)) : raws (l :: ls) = l ++ 13 :: 10 :: raws ls := by simp [raws]

/-! ### A field at a time -/

/-! ### What a field says -/
theorem mem_dropWhile {p : UInt8 → Bool} {x : UInt8} {l : List UInt8} (hx : x ∈ l) (hs : p x = false) : x ∈ l.dropWhile p := by
  induction l with
  | nil => cases hx
  | cons y l ih =>
    rw [List.dropWhile_cons]
    split
    · rename_i hy
      rcases List.mem_cons.1 hx with rfl | h
      · rw [hs] at hy; cases hy
      · exact ih h
    · exact hx
theorem mem_trim {x : UInt8} {l : List UInt8} (hx : x ∈ l) (hs : sp x = false) : x ∈ trim l := by
  unfold trim trimR trimL
  rw [List.mem_reverse]
  exact mem_dropWhile (List.mem_reverse.2 (mem_dropWhile hx hs)) hs

theorem nl_upto {m : List UInt8} (h : (10 : UInt8) ∉ m) (r : List UInt8) : upto (m ++ 10 :: r) = m ∧ behind (m ++ 10 :: r) = 10 :: r := by
  have hp : ∀ x ∈ m, (x != 10) = true := fun x hx => by
    simp only [bne_iff_ne, ne_eq]
    rintro rfl
    exact h hx
  constructor
  · have h2 := upto_nl r
    unfold upto at *
    rw [List.takeWhile_append_of_pos hp, h2, List.append_nil]
  · have h2 := behind_nl r
    unfold behind at *
    rw [List.dropWhile_append_of_pos hp, h2]

theorem joins_raws : ∀ (ls : List (List UInt8)) (a : List UInt8), (∀ l ∈ ls, (10 : UInt8) ∉ l) → joins a (raws ls) = vals a ls
  | [], a, _ => by
    rw [show raws [] = [] from rfl, joins_end rfl, join_nil rfl]
    rfl
  | l :: ls, a, h => by
    have hl : (10 : UInt8) ∉ l ++ [13] := by
      simp only [List.mem_append, List.mem_singleton, not_or]
      exact ⟨h l (List.mem_cons_self ..), by decide⟩
    have e : raws (l :: ls) = (l ++ [13]) ++ 10 :: raws ls := by rw [raws_cons]; simp
    obtain ⟨h1, h2⟩ := nl_upto hl (raws ls)
    have hb : bare (l ++ [13]) = trim l := by unfold bare; rw [chomp_snoc, if_pos rfl]
    have hj : join a (l ++ [13]) = vals1 a l := by unfold join vals1; rw [hb]
    rw [e, joins_nl h2, h1, hj, joins_raws ls _ (fun x hx => h x (List.mem_cons_of_mem _ hx))]
    rfl

/-! ### Keys in canonical form stay -/
theorem cased_nat (up : Bool) (c : UInt8) : (cased up c).toNat = if up = true ∧ 97 ≤ c.toNat ∧ c.toNat ≤ 122 then c.toNat - 32 else if up = false ∧ 65 ≤ c.toNat ∧ c.toNat ≤ 90 then c.toNat + 32 else c.toNat := by
  have := c.toNat_lt
  unfold cased
  split
  · rw [UInt8.toNat_add, UInt8.toNat_sub]
    simp only [UInt8.reduceToNat]
    omega
  · split
    · rw [UInt8.toNat_add, UInt8.toNat_sub]
      simp only [UInt8.reduceToNat]
      omega
    · rfl
theorem cased_cases (up : Bool) (c : UInt8) : (up = true ∧ 97 ≤ c.toNat ∧ c.toNat ≤ 122 ∧ (cased up c).toNat = c.toNat - 32) ∨ (up = false ∧ 65 ≤ c.toNat ∧ c.toNat ≤ 90 ∧ (cased up c).toNat = c.toNat + 32) ∨
    ((up = true → ¬ (97 ≤ c.toNat ∧ c.toNat ≤ 122)) ∧ (up = false → ¬ (65 ≤ c.toNat ∧ c.toNat ≤ 90)) ∧ (cased up c).toNat = c.toNat) := by
  rw [cased_nat]
  by_cases h1 : up = true ∧ 97 ≤ c.toNat ∧ c.toNat ≤ 122
  · rw [if_pos h1]
    exact .inl ⟨h1.1, h1.2.1, h1.2.2, rfl⟩
  · rw [if_neg h1]
    by_cases h2 : up = false ∧ 65 ≤ c.toNat ∧ c.toNat ≤ 90
    · rw [if_pos h2]
      exact .inr (.inl ⟨h2.1, h2.2.1, h2.2.2, rfl⟩)
    · rw [if_neg h2]
      exact .inr (.inr ⟨fun h h3 => h1 ⟨h, h3⟩, fun h h3 => h2 ⟨h, h3⟩, rfl⟩)
theorem cased_cased (up : Bool) (c : UInt8) : cased up (cased up c) = cased up c := by
  apply UInt8.toNat.inj
  have h1 := cased_cases up c
  have h2 := cased_cases up (cased up c)
  cases up
  · simp only [Bool.false_eq_true, false_and, false_or, false_implies, true_and, forall_const] at h1 h2
    omega
  · simp only [Bool.true_eq_false, false_and, false_or, false_implies, true_and, forall_const] at h1 h2
    omega
theorem eq45 (c : UInt8) : (c == 45) = decide (c.toNat = 45) := by
  rw [Bool.eq_iff_iff]
  simp only [beq_iff_eq, decide_eq_true_eq]
  exact ⟨fun h => by rw [h]; rfl, fun h => UInt8.toNat.inj h⟩
theorem cased_dash (up : Bool) (c : UInt8) : (cased up c == 45) = (c == 45) := by
  rw [eq45, eq45, Bool.eq_iff_iff]
  simp only [decide_eq_true_eq]
  have h1 := cased_cases up c
  omega
theorem tok_cased (up : Bool) (c : UInt8) : tok (cased up c) = tok c := by
  unfold tok
  rw [Bool.eq_iff_iff]
  simp only [decide_eq_true_eq]
  have h1 := cased_cases up c
  generalize (cased up c).toNat = m at *
  generalize c.toNat = n at *
  unfold tokN signN
  rcases h1 with h | h | h
  · omega
  · omega
  · rw [h.2.2]
theorem canonGo_twice : ∀ (l : List UInt8) (up : Bool), canonGo up (canonGo up l) = canonGo up l
  | [], _ => rfl
  | c :: l, up => by
    show cased up (cased up c) :: canonGo (cased up c == 45) (canonGo (c == 45) l) = cased up c :: canonGo (c == 45) l
    rw [cased_cased, cased_dash, canonGo_twice l]
theorem canonGo_tok : ∀ (l : List UInt8) (up : Bool), (canonGo up l).all tok = l.all tok
  | [], _ => rfl
  | c :: l, up => by
    show (tok (cased up c) && (canonGo (c == 45) l).all tok) = (tok c && l.all tok)
    rw [tok_cased, canonGo_tok l]
theorem canon_canon (l : List UInt8) : canon (canon l) = canon l := by
  by_cases h : l.all tok = true
  · have e : canon l = canonGo true l := by unfold canon; rw [if_pos h]
    rw [e]
    unfold canon
    rw [canonGo_tok, if_pos h, canonGo_twice]
  · have e : canon l = l := by unfold canon; rw [if_neg h]
    rw [e, e]

/-! ### A field, in both -/
theorem drop_ahead {a d l : List UInt8} (h : l = a ++ 58 :: d) : l.drop (a.length + 1) = d := by
  subst h
  rw [show a.length + 1 = (a ++ [58]).length by simp, show a ++ 58 :: d = (a ++ [58]) ++ d by simp, List.drop_left]

theorem field_rh (l0 : List UInt8) (ls : List (List UInt8)) (c : List UInt8) (hkv : (kv c).1 = raws (l0 :: ls)) (h0 : (10 : UInt8) ∉ l0) (hls : ∀ l ∈ ls, (10 : UInt8) ∉ l) :
    (okOf l0 = false → rh c = none) ∧ (okOf l0 = true → trim (tillC l0) = [] → rh c = rh (kv c).2) ∧
    (okOf l0 = true → trim (tillC l0) ≠ [] → rh c = (rh (kv c).2).map fun r => (pfOf l0 ls :: r.1, r.2)) := by
  have hne : (kv c).1 ≠ [] := by rw [hkv, raws_cons]; simp
  have hno := colon_no l0
  by_cases hcol : (58 : UInt8) ∈ l0
  · obtain ⟨d, hd⟩ : ∃ d, l0 = tillC l0 ++ 58 :: d := by
      have h1 := colon_split l0
      cases hd : l0.dropWhile (· != 58) with
      | nil =>
        rw [hd, List.append_nil] at h1
        rw [← h1] at hno
        exact absurd hcol hno
      | cons x d =>
        have := colon_head hd
        subst this
        rw [hd] at h1
        exact ⟨d, h1⟩
    have hdrop := drop_ahead hd
    have hp : ∀ x ∈ tillC l0, (x != 58) = true := fun x hx => by
      simp only [bne_iff_ne, ne_eq]
      rintro rfl
      exact hno hx
    have hk : (kv c).1 = tillC l0 ++ 58 :: raws (d :: ls) := by
      rw [hkv, raws_cons, raws_cons]
      conv => lhs; rw [hd]
      simp
    have ht : (kv c).1.takeWhile (· != 58) = tillC l0 := by
      rw [hk, List.takeWhile_append_of_pos hp, List.takeWhile_cons, if_neg (by simp), List.append_nil]
    have hdw : (kv c).1.dropWhile (· != 58) = 58 :: raws (d :: ls) := by
      rw [hk, List.dropWhile_append_of_pos hp, List.dropWhile_cons, if_neg (by simp)]
    have hal : (tillC l0).length ≠ l0.length := by
      have := congrArg List.length hd
      simp at this
      omega
    have hok : okOf l0 = (trim (tillC l0)).all keyb := by unfold okOf; rw [decide_eq_false hal]; rfl
    have hdl : ∀ l ∈ d :: ls, (10 : UInt8) ∉ l := by
      intro l hl
      rcases List.mem_cons.1 hl with rfl | hl
      · intro h
        apply h0
        rw [hd]
        simp [h]
      · exact hls l hl
    refine ⟨fun h => ?_, fun _ h => ?_, fun h1 h2 => ?_⟩
    · exact rh_bad hne hdw (by rw [ht, ← hok, h])
    · exact rh_skip hne hdw (by rw [ht, h])
    · rw [rh_more hne hdw (by rw [ht, ← hok, h1]) (by rw [ht]; exact h2), ht, joins_raws _ _ hdl, canon_canon, hkv]
      unfold pfOf
      rw [hdrop]
  · have ha := tillC_none hcol
    have hok : okOf l0 = false := by unfold okOf; rw [ha, decide_eq_true rfl]; rfl
    refine ⟨fun _ => ?_, fun h => (by rw [hok] at h; cases h), fun h => (by rw [hok] at h; cases h)⟩
    cases hdw : (kv c).1.dropWhile (· != 58) with
    | nil => exact rh_no hne hdw
    | cons x b =>
      refine rh_bad hne hdw ?_
      have hp : ∀ x ∈ l0, (x != 58) = true := fun x hx => by
        simp only [bne_iff_ne, ne_eq]
        rintro rfl
        exact hcol hx
      have hm : (13 : UInt8) ∈ (kv c).1.takeWhile (· != 58) := by
        rw [hkv, raws_cons, List.takeWhile_append_of_pos hp, List.takeWhile_cons, if_pos (by decide)]
        simp
      have hm2 := mem_trim hm (by decide)
      cases hq : (trim ((kv c).1.takeWhile (· != 58))).all keyb with
      | false => rfl
      | true =>
        rw [List.all_eq_true] at hq
        exact absurd (hq _ hm2) (by decide)

/-! ### The whole -/

end Go.Proofs.YtjbbapodcngnaaaGreatDoor.Hdr
namespace Go.Proofs.YtjbbapodcngnaaaGreatDoor.Hdr

/-- Bytes that are a field's lines. -/
def Lines (b l0 : List UInt8) (ls : List (List UInt8)) : Prop :=
  b = raws (l0 :: ls) ∧ (10 : UInt8) ∉ l0 ∧ (∀ l ∈ ls, (10 : UInt8) ∉ l ∧ spHead l = true) ∧ l0 ≠ [] ∧ spHead l0 = false

theorem line1_crlf (l r : List UInt8) (h : (10 : UInt8) ∉ l) : line1 (l ++ 13 :: 10 :: r) = (l, r) := by
  have hl : (10 : UInt8) ∉ l ++ [13] := by
    simp only [List.mem_append, List.mem_singleton, not_or]
    exact ⟨h, by decide⟩
  obtain ⟨h1, h2⟩ := nl_upto hl r
  have e : l ++ 13 :: 10 :: r = (l ++ [13]) ++ 10 :: r := by simp
  rw [e, line1_nl h2, h1, chomp_snoc, if_pos rfl]
theorem conts_raws : ∀ (ls : List (List UInt8)) (r : List UInt8), (∀ l ∈ ls, (10 : UInt8) ∉ l ∧ spHead l = true) → spHead r = false → conts (raws ls ++ r) = (raws ls, r)
  | [], r, _, hr => by
    rw [show raws [] = [] from rfl, List.nil_append, conts_no hr]
  | l :: ls, r, h, hr => by
    obtain ⟨h1, h2⟩ := h l (List.mem_cons_self ..)
    have e : raws (l :: ls) ++ r = l ++ 13 :: 10 :: (raws ls ++ r) := by rw [raws_cons]; simp
    have hs : spHead (raws (l :: ls) ++ r) = true := by
      rw [e]
      cases l with
      | nil => cases h2
      | cons x l => exact h2
    rw [conts_yes hs, e, line1_crlf _ _ h1, conts_raws ls r (fun x hx => h x (List.mem_cons_of_mem _ hx)) hr, raws_cons]
    simp
theorem kv_lines {b l0 : List UInt8} {ls : List (List UInt8)} (h : Lines b l0 ls) {r : List UInt8} (hr : spHead r = false) : kv (b ++ r) = (b, r) := by
  obtain ⟨rfl, h1, h2, h3, h4⟩ := h
  have e : raws (l0 :: ls) ++ r = l0 ++ 13 :: 10 :: (raws ls ++ r) := by rw [raws_cons]; simp
  have hl := line1_crlf l0 (raws ls ++ r) h1
  unfold kv
  rw [e, hl, conts_raws ls r h2 hr]
  simp only [if_neg h3]
  rw [raws_cons]
  simp

theorem Lines.head {b l0 : List UInt8} {ls : List (List UInt8)} (h : Lines b l0 ls) (r : List UInt8) : spHead (b ++ r) = false := by
  obtain ⟨rfl, h1, h2, h3, h4⟩ := h
  rw [raws_cons]
  cases l0 with
  | nil => exact absurd rfl h3
  | cons x l => exact h4

/-! ### Fields that were read -/

/-! ### Fields that are folded -/

theorem keyb_not_sp {c : UInt8} (h : keyb c = true) : sp c = false ∧ c ≠ 58 ∧ c ≠ 10 := by
  have h1 := of_decide_eq_true h
  unfold keyN at h1
  refine ⟨?_, ?_, ?_⟩
  · unfold sp
    cases h2 : (c == 32 || c == 9) with
    | false => rfl
    | true =>
      simp only [Bool.or_eq_true, beq_iff_eq] at h2
      rcases h2 with rfl | rfl <;> simp at h1
  · rintro rfl; simp at h1
  · rintro rfl; simp at h1
theorem dropWhile_none {p : UInt8 → Bool} : ∀ {l : List UInt8}, (∀ c ∈ l, p c = false) → l.dropWhile p = l
  | [], _ => rfl
  | c :: l, h => by rw [List.dropWhile_cons, if_neg (by rw [h c (List.mem_cons_self ..)]; decide)]
theorem trim_self {k : List UInt8} (h : ∀ c ∈ k, sp c = false) : trim k = k := by
  unfold trim trimL trimR
  rw [dropWhile_none h, dropWhile_none (fun c hc => h c (List.mem_reverse.1 hc)), List.reverse_reverse]
/-! ### Lines that are short -/
theorem short_line {l c : List UInt8} (hl : (10 : UInt8) ∉ l) (hn : l.length ≤ 4000) (hc : Short c) : Short (l ++ 13 :: 10 :: c) := by
  intro b hb
  have hl' : (10 : UInt8) ∉ l ++ [13] := by
    simp only [List.mem_append, List.mem_singleton, not_or]
    exact ⟨hl, by decide⟩
  have e : l ++ 13 :: 10 :: c = (l ++ [13]) ++ 10 :: c := by simp
  rw [e] at hb
  obtain ⟨a, ha⟩ := hb
  rcases List.append_eq_append_iff.1 ha with ⟨d, h1, h2⟩ | ⟨d, h1, h2⟩
  · have hd : (10 : UInt8) ∉ d := fun h => hl' (by rw [h1]; exact List.mem_append_right _ h)
    rw [h2, (nl_upto hd c).1]
    have := congrArg List.length h1
    simp at this
    omega
  · cases d with
    | nil =>
      rw [List.nil_append] at h2
      rw [← h2, upto_nl]
      decide
    | cons x d =>
      rw [List.cons_append, List.cons.injEq] at h2
      exact hc b ⟨d, h2.2.symm⟩
theorem short_raws : ∀ (ls : List (List UInt8)) (c : List UInt8), (∀ l ∈ ls, (10 : UInt8) ∉ l ∧ l.length ≤ 4000) → Short c → Short (raws ls ++ c)
  | [], c, _, hc => hc
  | l :: ls, c, h, hc => by
    obtain ⟨h1, h2⟩ := h l (List.mem_cons_self ..)
    rw [raws_cons, List.append_assoc]
    exact short_line h1 h2 (short_raws ls c (fun y hy => h y (List.mem_cons_of_mem _ hy)) hc)
end Go.Proofs.YtjbbapodcngnaaaGreatDoor.Hdr
namespace Go.Proofs.YtjbbapodcngnaaaGreatDoor.Hdr

/-- A field: a name, and what it says. -/
abbrev Hd := List UInt8 × List UInt8
/-- Its line, and with its end. -/
def fieldL (h : Hd) : List UInt8 := h.1 ++ 58 :: 32 :: h.2
def fieldB (h : Hd) : List UInt8 := fieldL h ++ [13, 10]
def hdrText (l : List Hd) : List UInt8 := l.flatMap fieldB ++ [13, 10]
def pfH (h : Hd) : PF := ⟨h.1, h.2, fieldB h⟩

/-- A field that is read as it was written. -/
structure HdOk (h : Hd) : Prop where
  ne : h.1 ≠ []
  key : ∀ c ∈ h.1, keyb c = true
  can : canon h.1 = h.1
  vne : h.2 ≠ []
  v10 : (10 : UInt8) ∉ h.2
  v13 : (13 : UInt8) ∉ h.2
  vtr : trim h.2 = h.2
  dash : h.1.head? ≠ some 45
  nlen : h.1.length ≤ 100
  vlen : h.2.length ≤ 200

theorem HdOk.n10 {h : Hd} (H : HdOk h) : (10 : UInt8) ∉ h.1 := fun e => (keyb_not_sp (H.key _ e)).2.2 rfl
theorem HdOk.n13 {h : Hd} (H : HdOk h) : (13 : UInt8) ∉ h.1 := fun e => by
  have := H.key _ e
  revert this
  decide
theorem HdOk.l10 {h : Hd} (H : HdOk h) : (10 : UInt8) ∉ fieldL h := by
  unfold fieldL
  simp only [List.mem_append, List.mem_cons, not_or]
  exact ⟨H.n10, by decide, by decide, H.v10⟩
theorem HdOk.l13 {h : Hd} (H : HdOk h) : (13 : UInt8) ∉ fieldL h := by
  unfold fieldL
  simp only [List.mem_append, List.mem_cons, not_or]
  exact ⟨H.n13, by decide, by decide, H.v13⟩
theorem HdOk.head {h : Hd} (H : HdOk h) : spHead (fieldL h) = false := by
  have h1 := H.ne
  have h2 := H.key
  obtain ⟨k, v⟩ := h
  cases k with
  | nil => exact absurd rfl h1
  | cons x k => exact (keyb_not_sp (h2 x (List.mem_cons_self ..))).1
theorem HdOk.llen {h : Hd} (H : HdOk h) : (fieldL h).length ≤ 302 := by
  have := H.nlen
  have := H.vlen
  unfold fieldL
  simp
  omega
theorem HdOk.lines {h : Hd} (H : HdOk h) : Lines (fieldB h) (fieldL h) [] := by
  refine ⟨by simp [raws, fieldB], H.l10, (fun l hl => by cases hl), ?_, H.head⟩
  unfold fieldL
  simp
theorem HdOk.tillC {h : Hd} (H : HdOk h) : tillC (fieldL h) = h.1 := by
  unfold Hdr.tillC fieldL
  rw [List.takeWhile_append_of_pos (fun c hc => by simp only [bne_iff_ne, ne_eq]; exact (keyb_not_sp (H.key c hc)).2.1)]
  simp
theorem HdOk.trimk {h : Hd} (H : HdOk h) : trim h.1 = h.1 := trim_self fun c hc => (keyb_not_sp (H.key c hc)).1
theorem trim_sp (v : List UInt8) : trim (32 :: v) = trim v := by
  unfold trim trimL
  rw [List.dropWhile_cons, if_pos (by decide)]
theorem HdOk.pf {h : Hd} (H : HdOk h) : pfOf (fieldL h) [] = pfH h := by
  unfold pfOf pfH
  rw [H.tillC, H.trimk, H.can]
  have e : (fieldL h).drop (h.1.length + 1) = 32 :: h.2 := drop_ahead (rfl : fieldL h = h.1 ++ 58 :: (32 :: h.2))
  rw [e]
  congr 1
  · unfold vals vals1
    simp only [List.foldl_cons, List.foldl_nil, trim_sp, H.vtr]
    rw [if_neg H.vne, if_pos trivial]
  · simp [raws, fieldB]

theorem rh_fields : ∀ (l : List Hd), (∀ h ∈ l, HdOk h) → ∀ body : List UInt8, spHead (hdrText l ++ body) = false ∧ rh (hdrText l ++ body) = some (l.map pfH, body)
  | [], _, body => by
    have h := line1_crlf [] body (by simp)
    have hk : kv (13 :: 10 :: body) = ([], body) := by
      unfold kv
      rw [show (13 :: 10 :: body : List UInt8) = [] ++ 13 :: 10 :: body from rfl, h]
      simp
    refine ⟨rfl, ?_⟩
    show rh (13 :: 10 :: body) = _
    rw [rh_end (by rw [hk]), hk]
    rfl
  | h :: l, H, body => by
    obtain ⟨hs, ih⟩ := rh_fields l (fun y hy => H y (List.mem_cons_of_mem _ hy)) body
    have Hh := H h (List.mem_cons_self ..)
    have e : hdrText (h :: l) ++ body = fieldB h ++ (hdrText l ++ body) := by simp [hdrText]
    have hkv := kv_lines Hh.lines hs
    have hok : okOf (fieldL h) = true := by
      unfold okOf
      rw [Hh.tillC, Hh.trimk, List.all_eq_true.2 Hh.key, decide_eq_false (by unfold fieldL; simp)]
      rfl
    refine ⟨by rw [e]; exact Hh.lines.head _, ?_⟩
    rw [e, (field_rh (fieldL h) [] _ (by rw [hkv]; exact Hh.lines.1) Hh.l10 (fun y hy => by cases hy)).2.2 hok (by rw [Hh.tillC, Hh.trimk]; exact Hh.ne), hkv]
    simp only
    rw [ih, Hh.pf]
    rfl
theorem rhd_fields (l : List Hd) (H : ∀ h ∈ l, HdOk h) (body : List UInt8) : rhd (hdrText l ++ body) = some (l.map pfH, body) := by
  obtain ⟨h1, h2⟩ := rh_fields l H body
  unfold rhd
  rw [h1, if_neg (by decide), h2]

/-! ### Lines -/
/-- Lines, each with its end, of which each is as P says. -/
def Lns (P : List UInt8 → Prop) (s : List UInt8) : Prop := ∃ ls : List (List UInt8), s = raws ls ∧ ∀ l ∈ ls, (13 : UInt8) ∉ l ∧ (10 : UInt8) ∉ l ∧ l.length ≤ 400 ∧ P l
theorem Lns.nil (P : List UInt8 → Prop) : Lns P [] := ⟨[], rfl, fun l hl => by cases hl⟩
theorem Lns.append {P : List UInt8 → Prop} {a b : List UInt8} (ha : Lns P a) (hb : Lns P b) : Lns P (a ++ b) := by
  obtain ⟨l, rfl, hl⟩ := ha
  obtain ⟨m, rfl, hm⟩ := hb
  refine ⟨l ++ m, by rw [raws_append], fun x hx => ?_⟩
  rcases List.mem_append.1 hx with h | h
  · exact hl x h
  · exact hm x h
theorem Lns.one {P : List UInt8 → Prop} {l : List UInt8} (h1 : (13 : UInt8) ∉ l) (h2 : (10 : UInt8) ∉ l) (h3 : l.length ≤ 400) (h4 : P l) : Lns P (l ++ [13, 10]) := by
  refine ⟨[l], by simp [raws], fun x hx => ?_⟩
  rw [List.mem_singleton] at hx
  subst hx
  exact ⟨h1, h2, h3, h4⟩
theorem Lns.mono {P Q : List UInt8 → Prop} {s : List UInt8} (h : Lns P s) (hq : ∀ l, P l → Q l) : Lns Q s := by
  obtain ⟨l, rfl, hl⟩ := h
  exact ⟨l, rfl, fun x hx => ⟨(hl x hx).1, (hl x hx).2.1, (hl x hx).2.2.1, hq x (hl x hx).2.2.2⟩⟩
theorem Lns.short {P : List UInt8 → Prop} {s c : List UInt8} (h : Lns P s) (hc : Short c) : Short (s ++ c) := by
  obtain ⟨l, rfl, hl⟩ := h
  exact short_raws l c (fun x hx => ⟨(hl x hx).2.1, by have := (hl x hx).2.2.1; omega⟩) hc
theorem Lns.end {P : List UInt8 → Prop} {s : List UInt8} (h : Lns P s) (hs : s ≠ []) : s.getLast? = some 10 := by
  obtain ⟨l, rfl, hl⟩ := h
  rcases List.eq_nil_or_concat l with rfl | ⟨m, x, rfl⟩
  · exact absurd rfl hs
  · rw [List.concat_eq_append, raws_append]
    have e : raws [x] = (x ++ [13]) ++ [10] := by simp [raws]
    rw [e, ← List.append_assoc, List.getLast?_append]
    rfl

/-- No boundary, or one that goes on: two hyphens, the boundary, a letter. -/
def NoB (b : List UInt8) (l : List UInt8) : Prop := l.take 2 ≠ [45, 45] ∨ ∃ x r, l = 45 :: 45 :: (b ++ x :: r) ∧ 97 ≤ x.toNat
theorem NoB.ext {b l : List UInt8} {x : UInt8} (h : NoB (b ++ [x]) l) (hx : 97 ≤ x.toNat) : NoB b l := by
  rcases h with h | ⟨y, r, rfl, hy⟩
  · exact .inl h
  · exact .inr ⟨x, y :: r, by simp, hx⟩

theorem hdr_lns (P : List UInt8 → Prop) (l : List Hd) (H : ∀ h ∈ l, HdOk h) (hP : ∀ s : List UInt8, s.take 2 ≠ [45, 45] → P s) : Lns P (hdrText l) := by
  unfold hdrText
  refine Lns.append ?_ ?_
  · induction l with
    | nil => exact Lns.nil P
    | cons h l ih =>
      have Hh := H h (List.mem_cons_self ..)
      rw [List.flatMap_cons]
      refine Lns.append (Lns.one Hh.l13 Hh.l10 (by have := Hh.llen; omega) (hP _ ?_)) (ih fun y hy => H y (List.mem_cons_of_mem _ hy))
      have h1 := Hh.ne
      have h2 := Hh.dash
      obtain ⟨k, v⟩ := h
      cases k with
      | nil => exact absurd rfl h1
      | cons x k =>
        intro e
        apply h2
        unfold fieldL at e
        simp only [List.cons_append, List.take_succ_cons, List.cons.injEq] at e
        simp [e.1]
  · exact Lns.one (l := []) (by simp) (by simp) (by simp) (hP _ (by simp))

end Go.Proofs.YtjbbapodcngnaaaGreatDoor.Hdr
namespace Go.Proofs.YtjbbapodcngnaaaGreatDoor.Hdr

def ctK : List UInt8 := [67, 111, 110, 116, 101, 110, 116, 45, 84, 121, 112, 101]
def ciK : List UInt8 := [67, 111, 110, 116, 101, 110, 116, 45, 73, 100]
def cdK : List UInt8 := [67, 111, 110, 116, 101, 110, 116, 45, 68, 101, 115, 99, 114, 105, 112, 116, 105, 111, 110]
def ceK : List UInt8 := [67, 111, 110, 116, 101, 110, 116, 45, 84, 114, 97, 110, 115, 102, 101, 114, 45, 69, 110, 99, 111, 100, 105, 110, 103]
def multiS : List UInt8 := [109, 117, 108, 116, 105, 112, 97, 114, 116]
def messS : List UInt8 := [109, 101, 115, 115, 97, 103, 101]
def rfcS : List UInt8 := [114, 102, 99, 56, 50, 50]
def textS : List UInt8 := [116, 101, 120, 116]
def plainS : List UInt8 := [112, 108, 97, 105, 110]
def mpS : List UInt8 := [109, 117, 108, 116, 105, 112, 97, 114, 116, 47]
def bdS : List UInt8 := [59, 32, 98, 111, 117, 110, 100, 97, 114, 121, 61]
def bndK : List UInt8 := [98, 111, 117, 110, 100, 97, 114, 121]
def w7 : List UInt8 := [55, 98, 105, 116]
def w8 : List UInt8 := [56, 98, 105, 116]
def contentS : List UInt8 := [67, 111, 110, 116, 101, 110, 116]

/-- A message, or a part of one. -/
inductive Ml where
  | mk (head : List Hd) (kind : Int) (type sub id about way text : List UInt8) (kids : List Ml) : Ml

def Ml.head : Ml → List Hd | .mk h _ _ _ _ _ _ _ _ => h
def Ml.kind : Ml → Int | .mk _ k _ _ _ _ _ _ _ => k
def Ml.type : Ml → List UInt8 | .mk _ _ t _ _ _ _ _ _ => t
def Ml.sub : Ml → List UInt8 | .mk _ _ _ s _ _ _ _ _ => s
def Ml.id : Ml → List UInt8 | .mk _ _ _ _ i _ _ _ _ => i
def Ml.about : Ml → List UInt8 | .mk _ _ _ _ _ a _ _ _ => a
def Ml.way : Ml → List UInt8 | .mk _ _ _ _ _ _ w _ _ => w
def Ml.text : Ml → List UInt8 | .mk _ _ _ _ _ _ _ t _ => t
def Ml.kids : Ml → List Ml | .mk _ _ _ _ _ _ _ _ l => l

mutual
/-- How many parts. -/
def msize : Ml → Nat
  | .mk _ _ _ _ _ _ _ _ kids => 1 + msizes kids
def msizes : List Ml → Nat
  | [] => 0
  | m :: l => msize m + msizes l
end
theorem msize_pos (m : Ml) : 0 < msize m := by
  obtain ⟨h, k, t, s, i, a, w, x, kids⟩ := m
  rw [msize]
  omega
theorem msize_eq (m : Ml) : msize m = 1 + msizes m.kids := by
  obtain ⟨h, k, t, s, i, a, w, x, kids⟩ := m
  rw [msize]
  rfl
theorem msizes_mem {m : Ml} : ∀ {l : List Ml}, m ∈ l → msize m ≤ msizes l
  | x :: l, h => by
    rw [msizes]
    rcases List.mem_cons.1 h with rfl | h
    · omega
    · have := msizes_mem h
      omega

/-! ### Its text -/
def bnd (p : List UInt8) : List UInt8 := 98 :: p
def under (p : List UInt8) (i : Nat) : List UInt8 := p ++ [(97 + (UInt8.ofNat (i % 26)))]
def typeOf (m : Ml) (p : List UInt8) : List Hd :=
  if m.type = [] then [] else if m.kind = 1 then [(ctK, mpS ++ m.sub ++ bdS ++ bnd p)] else [(ctK, m.type ++ 47 :: m.sub)]
def saidOf (k v : List UInt8) : List Hd := if v = [] then [] else [(k, v)]
/-- The fields of its header. -/
def fieldsOf (m : Ml) (p : List UInt8) : List Hd := m.head ++ typeOf m p ++ saidOf ciK m.id ++ saidOf cdK m.about ++ saidOf ceK m.way
mutual
/-- What stands behind the header. -/
def content : Ml → List UInt8 → List UInt8
  | .mk _ kind _ _ _ _ _ text kids, p => if kind = 0 then text else if kind = 2 then oneText kids p else partsText kids p 0
def oneText : List Ml → List UInt8 → List UInt8
  | [], _ => []
  | m :: _, p => hdrText (fieldsOf m (under p 0)) ++ content m (under p 0)
def partsText : List Ml → List UInt8 → Nat → List UInt8
  | [], p, _ => 45 :: 45 :: (bnd p ++ [45, 45]) ++ [13, 10]
  | m :: l, p, i => 45 :: 45 :: bnd p ++ [13, 10] ++ (hdrText (fieldsOf m (under p i)) ++ content m (under p i)) ++ [13, 10] ++ partsText l p (i + 1)
end
/-- The whole. -/
def mtext (m : Ml) (p : List UInt8) : List UInt8 := hdrText (fieldsOf m p) ++ content m p
theorem oneText_one (m : Ml) (l : List Ml) (p : List UInt8) : oneText (m :: l) p = mtext m (under p 0) := by rw [oneText]; rfl
theorem partsText_nil (p : List UInt8) (i : Nat) : partsText [] p i = 45 :: 45 :: (bnd p ++ [45, 45]) ++ [13, 10] := by rw [partsText]
theorem partsText_cons (m : Ml) (l : List Ml) (p : List UInt8) (i : Nat) : partsText (m :: l) p i = 45 :: 45 :: bnd p ++ [13, 10] ++ mtext m (under p i) ++ [13, 10] ++ partsText l p (i + 1) := by rw [partsText]; rfl
theorem content_eq (m : Ml) (p : List UInt8) : content m p = if m.kind = 0 then m.text else if m.kind = 2 then oneText m.kids p else partsText m.kids p 0 := by
  obtain ⟨h, k, t, s, i, a, w, x, kids⟩ := m
  rw [content]
  rfl

/-! ### What is looked at -/
def t7N (n : Nat) : Prop := (97 ≤ n ∧ n ≤ 122) ∨ (48 ≤ n ∧ n ≤ 57)
instance (n : Nat) : Decidable (t7N n) := by unfold t7N; infer_instance
def t7b (c : UInt8) : Bool := decide (t7N c.toNat)
/-- Small letters and digits. -/
def tok7 (l : List UInt8) : Bool := l.all t7b && decide (l.length ≤ 20)
/-- Printable signs without blanks at the ends. -/
structure Says (l : List UInt8) : Prop where
  len : l.length ≤ 60
  all : ∀ c ∈ l, 32 ≤ c.toNat ∧ c.toNat ≤ 126
  first : l.head? ≠ some 32
  last : l.getLast? ≠ some 32
structure HeadOk (h : Hd) : Prop where
  ok : HdOk h
  no : h.1.take 7 ≠ contentS
def PlOk (p : List UInt8) : Prop := ∀ c ∈ p, 97 ≤ c.toNat ∧ c.toNat ≤ 122
def TextOk (t : List UInt8) : Prop := Lns (fun l => l.take 2 ≠ [45, 45]) t ∧ t.length ≤ 1000
structure KindOk (kind : Int) (type sub text : List UInt8) (kids : List Ml) : Prop where
  all : (kind = 0 ∧ kids = [] ∧ TextOk text ∧ (type = [] ↔ sub = []) ∧ type ≠ multiS ∧ type ≠ messS) ∨
    (kind = 1 ∧ kids ≠ [] ∧ type = multiS ∧ sub ≠ [] ∧ text = []) ∨ (kind = 2 ∧ kids.length = 1 ∧ type = messS ∧ sub = rfcS ∧ text = [])
structure NodeOk (head : List Hd) (kind : Int) (type sub id about way text : List UInt8) (kids : List Ml) : Prop where
  heads : head.length ≤ 8
  hds : ∀ h ∈ head, HeadOk h
  typ : tok7 type = true
  sb : tok7 sub = true
  idd : Says id
  abt : Says about
  wy : way = [] ∨ way = w7 ∨ way = w8
  knd : KindOk kind type sub text kids
mutual
def MlOk : Ml → Prop
  | .mk head kind type sub id about way text kids => NodeOk head kind type sub id about way text kids ∧ MlsOk kids
def MlsOk : List Ml → Prop
  | [] => True
  | m :: l => MlOk m ∧ MlsOk l
end
theorem MlsOk.mem {m : Ml} : ∀ {l : List Ml}, MlsOk l → m ∈ l → MlOk m
  | x :: l, h, hm => by
    rw [MlsOk] at h
    rcases List.mem_cons.1 hm with rfl | hm
    · exact h.1
    · exact MlsOk.mem h.2 hm
theorem MlOk.node {m : Ml} (h : MlOk m) : NodeOk m.head m.kind m.type m.sub m.id m.about m.way m.text m.kids := by
  obtain ⟨hd, k, t, s, i, a, w, x, kids⟩ := m
  rw [MlOk] at h
  exact h.1
theorem MlOk.kids {m : Ml} (h : MlOk m) : MlsOk m.kids := by
  obtain ⟨hd, k, t, s, i, a, w, x, kids⟩ := m
  rw [MlOk] at h
  exact h.2

/-! ### Fields are right -/
theorem dropWhile_head {p : UInt8 → Bool} {l : List UInt8} (h : ∀ x, l.head? = some x → p x = false) : l.dropWhile p = l := by
  cases l with
  | nil => rfl
  | cons x l => rw [List.dropWhile_cons, if_neg (by rw [h x rfl]; decide)]
theorem trim_ends {l : List UInt8} (h1 : ∀ x, l.head? = some x → sp x = false) (h2 : ∀ x, l.getLast? = some x → sp x = false) : trim l = l := by
  unfold trim trimL trimR
  rw [dropWhile_head h1, dropWhile_head (by rw [List.head?_reverse]; exact h2), List.reverse_reverse]
theorem sp_of {x : UInt8} (h : 33 ≤ x.toNat) : sp x = false := by
  unfold sp
  cases hh : (x == 32 || x == 9) with
  | false => rfl
  | true =>
    simp only [Bool.or_eq_true, beq_iff_eq] at hh
    rcases hh with rfl | rfl <;> simp at h
theorem hd_ok {k v : List UInt8} (hk : k = ctK ∨ k = ciK ∨ k = cdK ∨ k = ceK) (hv : v ≠ []) (h1 : ∀ c ∈ v, 32 ≤ c.toNat ∧ c.toNat ≤ 126) (h2 : v.head? ≠ some 32) (h3 : v.getLast? ≠ some 32) (h4 : v.length ≤ 200) : HdOk (k, v) := by
  have h10 : (10 : UInt8) ∉ v := fun h => by have := h1 _ h; simp at this
  have h13 : (13 : UInt8) ∉ v := fun h => by have := h1 _ h; simp at this
  have hne : ∀ x ∈ v, x ≠ 32 → sp x = false := fun x hx hn => by
    refine sp_of ?_
    have := (h1 x hx).1
    have h9 : x.toNat ≠ 32 := fun e => hn (UInt8.toNat.inj e)
    omega
  have htr : trim v = v := trim_ends (fun x hx => hne x (List.mem_of_mem_head? hx) (fun e => h2 (e ▸ hx))) (fun x hx => hne x (List.mem_of_getLast? hx) (fun e => h3 (e ▸ hx)))
  rcases hk with rfl | rfl | rfl | rfl
  · exact ⟨show ctK ≠ [] by decide, show ∀ c ∈ ctK, keyb c = true by decide, show canon ctK = ctK by decide, hv, h10, h13, htr, show ctK.head? ≠ some 45 by decide, show ctK.length ≤ 100 by decide, h4⟩
  · exact ⟨show ciK ≠ [] by decide, show ∀ c ∈ ciK, keyb c = true by decide, show canon ciK = ciK by decide, hv, h10, h13, htr, show ciK.head? ≠ some 45 by decide, show ciK.length ≤ 100 by decide, h4⟩
  · exact ⟨show cdK ≠ [] by decide, show ∀ c ∈ cdK, keyb c = true by decide, show canon cdK = cdK by decide, hv, h10, h13, htr, show cdK.head? ≠ some 45 by decide, show cdK.length ≤ 100 by decide, h4⟩
  · exact ⟨show ceK ≠ [] by decide, show ∀ c ∈ ceK, keyb c = true by decide, show canon ceK = ceK by decide, hv, h10, h13, htr, show ceK.head? ≠ some 45 by decide, show ceK.length ≤ 100 by decide, h4⟩

theorem tok7_print {l : List UInt8} (h : tok7 l = true) : (∀ c ∈ l, 48 ≤ c.toNat ∧ c.toNat ≤ 122 ∧ (c.toNat ≤ 57 ∨ 97 ≤ c.toNat)) ∧ l.length ≤ 20 := by
  unfold tok7 at h
  simp only [Bool.and_eq_true, List.all_eq_true, decide_eq_true_eq] at h
  refine ⟨fun c hc => ?_, h.2⟩
  have := of_decide_eq_true (h.1 c hc)
  unfold t7N at this
  omega

theorem type_ok {m : Ml} (h : MlOk m) {p : List UInt8} (hp : PlOk p) (hpl : p.length ≤ 40) : ∀ x ∈ typeOf m p, HdOk x := by
  have N := h.node
  obtain ⟨t1, t2⟩ := tok7_print N.typ
  obtain ⟨s1, s2⟩ := tok7_print N.sb
  intro x hx
  unfold typeOf at hx
  split at hx
  · cases hx
  · rename_i hne
    split at hx
    · rw [List.mem_singleton] at hx
      subst hx
      refine hd_ok (.inl rfl) (by simp [mpS]) ?_ (by simp [mpS]) ?_ ?_
      · intro c hc
        simp only [bnd, List.mem_append, List.mem_cons] at hc
        rcases hc with ((hc | hc) | hc) | (rfl | hc)
        · revert c; decide
        · have := s1 c hc; omega
        · revert c; decide
        · decide
        · have := hp c hc; omega
      · rw [List.getLast?_append]
        unfold bnd
        rcases List.eq_nil_or_concat p with rfl | ⟨q, y, rfl⟩
        · simp
        · have := hp y (by simp)
          rw [List.concat_eq_append, ← List.cons_append, List.getLast?_append]
          simp only [List.getLast?_singleton, Option.some_or]
          intro e
          injection e with e
          subst e
          simp at this
      · simp [mpS, bdS, bnd]
        omega
    · rw [List.mem_singleton] at hx
      subst hx
      have hs : m.sub ≠ [] := by
        rcases N.knd.all with ⟨_, _, _, h1, _⟩ | ⟨h1, _⟩ | ⟨_, _, _, h1, _⟩
        · exact fun e => hne (h1.2 e)
        · contradiction
        · rw [h1]; decide
      refine hd_ok (.inl rfl) (by simp) ?_ ?_ ?_ ?_
      · intro c hc
        simp only [List.mem_append, List.mem_cons] at hc
        rcases hc with hc | rfl | hc
        · have := t1 c hc; omega
        · decide
        · have := s1 c hc; omega
      · cases ht : m.type with
        | nil => exact absurd ht hne
        | cons y t =>
          have := t1 y (by rw [ht]; exact List.mem_cons_self ..)
          simp only [List.cons_append, List.head?_cons]
          intro e
          injection e with e
          subst e
          simp at this
      · rw [show m.type ++ 47 :: m.sub = (m.type ++ [47]) ++ m.sub by simp, List.getLast?_append]
        rcases List.eq_nil_or_concat m.sub with h9 | ⟨q, y, h9⟩
        · exact absurd h9 hs
        · have := s1 y (by rw [h9]; simp)
          rw [h9, List.concat_eq_append, List.getLast?_append]
          simp only [List.getLast?_singleton, Option.some_or]
          intro e
          injection e with e
          subst e
          simp at this
      · simp
        omega
theorem said_ok {k v : List UInt8} (hk : k = ctK ∨ k = ciK ∨ k = cdK ∨ k = ceK) (hv : Says v) : ∀ x ∈ saidOf k v, HdOk x := by
  intro x hx
  unfold saidOf at hx
  split at hx
  · cases hx
  · rename_i hne
    rw [List.mem_singleton] at hx
    subst hx
    exact hd_ok hk hne hv.all hv.first hv.last (by have := hv.len; omega)
theorem way_says {v : List UInt8} (h : v = [] ∨ v = w7 ∨ v = w8) : Says v := by
  rcases h with rfl | rfl | rfl <;> exact ⟨by decide, by decide, by decide, by decide⟩
theorem fields_ok {m : Ml} (h : MlOk m) {p : List UInt8} (hp : PlOk p) (hpl : p.length ≤ 40) : ∀ x ∈ fieldsOf m p, HdOk x := by
  have N := h.node
  intro x hx
  unfold fieldsOf at hx
  simp only [List.mem_append] at hx
  rcases hx with (((hx | hx) | hx) | hx) | hx
  · exact (N.hds x hx).ok
  · exact type_ok h hp hpl x hx
  · exact said_ok (.inr (.inl rfl)) N.idd x hx
  · exact said_ok (.inr (.inr (.inl rfl))) N.abt x hx
  · exact said_ok (.inr (.inr (.inr rfl))) (way_says N.wy) x hx
theorem fields_len {m : Ml} (h : MlOk m) (p : List UInt8) : (fieldsOf m p).length ≤ 12 := by
  have := h.node.heads
  have h1 : (typeOf m p).length ≤ 1 := by unfold typeOf; split; simp; split <;> simp
  have h2 : ∀ k v, (saidOf k v).length ≤ 1 := fun k v => by unfold saidOf; split <;> simp
  have := h2 ciK m.id
  have := h2 cdK m.about
  have := h2 ceK m.way
  unfold fieldsOf
  simp only [List.length_append]
  omega
theorem hdrText_len (l : List Hd) (H : ∀ h ∈ l, HdOk h) : (hdrText l).length ≤ 304 * l.length + 2 := by
  unfold hdrText
  rw [List.length_append]
  have : (l.flatMap fieldB).length ≤ 304 * l.length := by
    induction l with
    | nil => simp
    | cons h l ih =>
      have h1 := (H h (List.mem_cons_self ..)).llen
      have h2 := ih fun y hy => H y (List.mem_cons_of_mem _ hy)
      have h3 : (fieldB h).length = (fieldL h).length + 2 := by simp [fieldB]
      rw [List.flatMap_cons, List.length_append, List.length_cons, h3]
      omega
  simp only [List.length_cons, List.length_nil]
  omega

/-! ### Lines of the text -/
theorem under_ok {p : List UInt8} (hp : PlOk p) (i : Nat) : PlOk (under p i) := by
  intro c hc
  unfold under at hc
  rcases List.mem_append.1 hc with hc | hc
  · exact hp c hc
  · rw [List.mem_singleton] at hc
    subst hc
    have hlt : i % 26 < 26 := Nat.mod_lt _ (by decide)
    generalize i % 26 = j at hlt
    have hj : (UInt8.ofNat j).toNat = j := by simp; omega
    rw [UInt8.toNat_add, hj]
    simp
    omega
theorem under_len (p : List UInt8) (i : Nat) : (under p i).length = p.length + 1 := by simp [under]
theorem under_last (p : List UInt8) (i : Nat) : ∃ x : UInt8, under p i = p ++ [x] ∧ 97 ≤ x.toNat := by
  refine ⟨_, rfl, ?_⟩
  have hlt : i % 26 < 26 := Nat.mod_lt _ (by decide)
  generalize i % 26 = j at hlt
  have hj : (UInt8.ofNat j).toNat = j := by simp; omega
  rw [UInt8.toNat_add, hj]
  simp
  omega
theorem bnd_no {p : List UInt8} (hp : PlOk p) : (13 : UInt8) ∉ bnd p ∧ (10 : UInt8) ∉ bnd p := by
  unfold bnd
  constructor
  · intro h
    rcases List.mem_cons.1 h with h | h
    · revert h; decide
    · have := hp _ h; simp at this
  · intro h
    rcases List.mem_cons.1 h with h | h
    · revert h; decide
    · have := hp _ h; simp at this

theorem mtext_all (n : Nat) : ∀ (m : Ml), msize m ≤ n → MlOk m → ∀ p : List UInt8, PlOk p → p.length + msize m ≤ 30 → ∀ (P : List UInt8 → Prop), (∀ l, NoB (bnd p) l → P l) → (∀ r, P (45 :: 45 :: (bnd p ++ r))) →
    Lns P (mtext m p) ∧ Lns P (content m p) ∧ (mtext m p).length + 1000 ≤ 6000 * msize m := by
  induction n with
  | zero => intro m h; have := msize_pos m; omega
  | succ n ih =>
    intro m hm ok p hp hpl P hP1 hP2
    have F := fields_ok ok hp (by omega)
    have hF : Lns P (hdrText (fieldsOf m p)) := hdr_lns _ _ F fun s hs => hP1 s (.inl hs)
    have hFl := hdrText_len _ F
    have hFn := fields_len ok p
    have hsz := msize_eq m
    have hkid : ∀ (k : Ml) (i : Nat), k ∈ m.kids → Lns P (mtext k (under p i)) ∧ (mtext k (under p i)).length + 1000 ≤ 6000 * msize k := fun k i hk => by
      have h1 := msizes_mem hk
      obtain ⟨y, hy, hyn⟩ := under_last p i
      obtain ⟨h2, _, h3⟩ := ih k (by omega) (ok.kids.mem hk) (under p i) (under_ok hp i) (by rw [under_len]; omega) (NoB (bnd p)) (fun l hl => by
        rw [hy] at hl
        exact NoB.ext (b := bnd p) (x := y) hl hyn) (fun r => .inr ⟨y, r, by simp [hy, bnd], hyn⟩)
      exact ⟨h2.mono hP1, h3⟩
    have hb := bnd_no hp
    have hparts : ∀ (l : List Ml) (i : Nat), (∀ k ∈ l, k ∈ m.kids) → Lns P (partsText l p i) ∧ (partsText l p i).length ≤ 6000 * msizes l + 100 := by
      intro l
      induction l with
      | nil =>
        intro i _
        rw [partsText_nil]
        refine ⟨Lns.one (l := 45 :: 45 :: (bnd p ++ [45, 45])) ?_ ?_ ?_ (hP2 _), ?_⟩
        · simp only [List.mem_cons, List.mem_append, not_or]; exact ⟨by decide, by decide, hb.1, by decide, by decide, by simp⟩
        · simp only [List.mem_cons, List.mem_append, not_or]; exact ⟨by decide, by decide, hb.2, by decide, by decide, by simp⟩
        · simp [bnd]; omega
        · simp [bnd]; omega
      | cons k l ihl =>
        intro i hk
        obtain ⟨h1, h2⟩ := hkid k i (hk k (List.mem_cons_self ..))
        obtain ⟨h3, h4⟩ := ihl (i + 1) fun y hy => hk y (List.mem_cons_of_mem _ hy)
        rw [partsText_cons]
        have hone : Lns P (45 :: 45 :: bnd p ++ [13, 10]) := Lns.one (l := 45 :: 45 :: bnd p) (by simp only [List.mem_cons, not_or]; exact ⟨by decide, by decide, hb.1⟩) (by simp only [List.mem_cons, not_or]; exact ⟨by decide, by decide, hb.2⟩) (by simp [bnd]; omega) (by have := hP2 []; rwa [List.append_nil] at this)
        have hemp : Lns P ([] ++ [13, 10]) := Lns.one (l := []) (by simp) (by simp) (by simp) (hP1 _ (.inl (by simp)))
        refine ⟨((hone.append h1).append hemp).append h3, ?_⟩
        rw [msizes]
        simp only [List.length_append, List.length_cons, List.length_nil, bnd] at h2 h4 ⊢
        omega
    have hcont : Lns P (content m p) ∧ (content m p).length ≤ 6000 * msizes m.kids + 1000 := by
      rw [content_eq]
      rcases ok.node.knd.all with ⟨h0, h1, h2, _⟩ | ⟨h0, h1, _⟩ | ⟨h0, h1, _⟩
      · rw [if_pos h0]
        exact ⟨h2.1.mono fun l hl => hP1 l (.inl hl), by have := h2.2; omega⟩
      · rw [if_neg (by omega), if_neg (by omega)]
        obtain ⟨h2, h3⟩ := hparts m.kids 0 fun _ h => h
        exact ⟨h2, by omega⟩
      · rw [if_neg (by omega), if_pos h0]
        match hk : m.kids, h1 with
        | [k], _ =>
          rw [oneText_one]
          obtain ⟨h2, h3⟩ := hkid k 0 (by rw [hk]; exact List.mem_singleton_self _)
          refine ⟨h2, ?_⟩
          rw [msizes, msizes]
          omega
    refine ⟨hF.append hcont.1, hcont.1, ?_⟩
    unfold mtext
    rw [List.length_append]
    omega
/-- A part's lines, seen from the message that it is a part of. -/
theorem kid_lns {k : Ml} (ok : MlOk k) {p : List UInt8} (hp : PlOk p) (i : Nat) (hl : p.length + 1 + msize k ≤ 30) : Lns (NoB (bnd p)) (mtext k (under p i)) ∧ Lns (NoB (bnd p)) (content k (under p i)) ∧ (mtext k (under p i)).length + 1000 ≤ 6000 * msize k := by
  obtain ⟨y, hy, hyn⟩ := under_last p i
  exact mtext_all _ k (Nat.le_refl _) ok (under p i) (under_ok hp i) (by rw [under_len]; omega) (NoB (bnd p)) (fun l hl => by
    rw [hy] at hl
    exact NoB.ext (b := bnd p) (x := y) hl hyn) (fun r => .inr ⟨y, r, by simp [hy, bnd], hyn⟩)
theorem any_lns {m : Ml} (ok : MlOk m) {p : List UInt8} (hp : PlOk p) (hl : p.length + msize m ≤ 30) : Lns (fun _ => True) (mtext m p) ∧ Lns (fun _ => True) (content m p) ∧ (mtext m p).length + 1000 ≤ 6000 * msize m :=
  mtext_all _ m (Nat.le_refl _) ok p hp hl _ (fun _ _ => trivial) (fun _ => trivial)
theorem content_le (m : Ml) (p : List UInt8) : (content m p).length ≤ (mtext m p).length := by
  unfold mtext
  simp
/-! ### Looking into a header -/
/-- What a header tells of a name. -/
def getH (k : List UInt8) (l : List Hd) : List UInt8 := ((l.find? fun h => decide (h.1 = k)).map (·.2)).getD []
theorem getH_append {k : List UInt8} {a b : List Hd} (h : ∀ x ∈ a, x.1 ≠ k) : getH k (a ++ b) = getH k b := by
  unfold getH
  rw [List.find?_append, List.find?_eq_none.2 (fun x hx => by simpa using h x hx)]
  rfl
theorem saidOf_key {k v : List UInt8} : ∀ x ∈ saidOf k v, x.1 = k := by
  intro x hx
  unfold saidOf at hx
  split at hx
  · cases hx
  · rw [List.mem_singleton] at hx; rw [hx]
theorem typeOf_key {m : Ml} {p : List UInt8} : ∀ x ∈ typeOf m p, x.1 = ctK := by
  intro x hx
  unfold typeOf at hx
  split at hx
  · cases hx
  · split at hx
    · rw [List.mem_singleton] at hx; rw [hx]
    · rw [List.mem_singleton] at hx; rw [hx]
theorem getH_said {k v : List UInt8} {b : List Hd} (h : ∀ x ∈ b, x.1 ≠ k) : getH k (saidOf k v ++ b) = v := by
  have hb : getH k b = [] := by
    have := getH_append (k := k) (a := b) (b := []) h
    rw [List.append_nil] at this
    rw [this]
    rfl
  unfold saidOf
  split
  · rename_i hv
    rw [List.nil_append, hb, hv]
  · unfold getH
    rw [List.cons_append, List.find?_cons_of_pos (by simp)]
    rfl
/-- The type, as it is written. -/
def typeV (m : Ml) (p : List UInt8) : List UInt8 := if m.type = [] then [] else if m.kind = 1 then mpS ++ m.sub ++ bdS ++ bnd p else m.type ++ 47 :: m.sub
theorem getH_fields {m : Ml} (ok : MlOk m) (p : List UInt8) : getH ctK (fieldsOf m p) = typeV m p ∧ getH ciK (fieldsOf m p) = m.id ∧ getH cdK (fieldsOf m p) = m.about ∧ getH ceK (fieldsOf m p) = m.way := by
  have hh : ∀ k, k.take 7 = contentS → ∀ x ∈ m.head, x.1 ≠ k := fun k hk x hx e => (ok.node.hds x hx).no (by rw [e, hk])
  have e : fieldsOf m p = m.head ++ (typeOf m p ++ (saidOf ciK m.id ++ (saidOf cdK m.about ++ saidOf ceK m.way))) := by unfold fieldsOf; simp
  have n1 : ciK ≠ ctK := by decide
  have n2 : cdK ≠ ctK := by decide
  have n3 : ceK ≠ ctK := by decide
  have n4 : cdK ≠ ciK := by decide
  have n5 : ceK ≠ ciK := by decide
  have n6 : ceK ≠ cdK := by decide
  have si : ∀ x ∈ saidOf ciK m.id, x.1 = ciK := saidOf_key
  have sd : ∀ x ∈ saidOf cdK m.about, x.1 = cdK := saidOf_key
  have se : ∀ x ∈ saidOf ceK m.way, x.1 = ceK := saidOf_key
  have st : ∀ x ∈ typeOf m p, x.1 = ctK := typeOf_key
  rw [e]
  refine ⟨?_, ?_, ?_, ?_⟩
  · rw [getH_append (hh _ (by decide))]
    have hr : ∀ x ∈ saidOf ciK m.id ++ (saidOf cdK m.about ++ saidOf ceK m.way), x.1 ≠ ctK := fun x hx => by
      simp only [List.mem_append] at hx
      rcases hx with hx | hx | hx
      · rw [si x hx]; exact n1
      · rw [sd x hx]; exact n2
      · rw [se x hx]; exact n3
    have hv : typeOf m p = saidOf ctK (typeV m p) := by
      unfold typeOf saidOf typeV
      split
      · rfl
      · split
        · rw [if_neg (by simp [mpS])]
        · rw [if_neg (by simp)]
    rw [hv, getH_said hr]
  · rw [getH_append (hh _ (by decide)), getH_append (fun x hx => by rw [st x hx]; exact n1.symm), getH_said]
    intro x hx
    rcases List.mem_append.1 hx with hx | hx
    · rw [sd x hx]; exact n4
    · rw [se x hx]; exact n5
  · rw [getH_append (hh _ (by decide)), getH_append (fun x hx => by rw [st x hx]; exact n2.symm), getH_append (fun x hx => by rw [si x hx]; exact n4.symm), getH_said]
    intro x hx
    rw [se x hx]; exact n6
  · rw [getH_append (hh _ (by decide)), getH_append (fun x hx => by rw [st x hx]; exact n3.symm), getH_append (fun x hx => by rw [si x hx]; exact n5.symm), getH_append (fun x hx => by rw [sd x hx]; exact n6.symm)]
    have := getH_said (k := ceK) (v := m.way) (b := []) (fun x hx => by cases hx)
    rwa [List.append_nil] at this
end Go.Proofs.YtjbbapodcngnaaaGreatDoor.Hdr
namespace Go.Proofs.YtjbbapodcngnaaaGreatDoor
open Go.RowKit Hdr

theorem HdrAt.to {S : Nat → Prop} {w w' : World} {lo lo' : Nat} {hv : Value} {fs : List Fd} (h : HdrAt w lo hv fs) (k : Keeps S w w') (hS : ∀ x, S x → x < lo) (hl : lo' ≤ lo) : HdrAt w' lo' hv fs := by
  obtain ⟨lb, cap, m, h1, h2, h3, h4, h5, h6⟩ := h
  exact ⟨lb, cap, m, h1, by omega, h3, h4.keep k (fun h => by have := hS _ h; omega), h5.to k (fun x h => by have := hS x h; omega) (Nat.le_refl _), ((h6.keep k (fun x h => .inl (hS x h))).lower hl).mono k.size⟩

end Go.Proofs.YtjbbapodcngnaaaGreatDoor
namespace Go.Proofs.YtjbbapodcngnaaaGreatDoor
open Go.RowKit Hdr

theorem Tells.length : ∀ {fs : List Fd} {ps : List PF}, Tells fs ps → fs.length = ps.length
  | [], [], _ => rfl
  | _ :: _, _ :: _, h => by simp [Tells.length h.2]
  | [], _ :: _, h => h.elim
  | _ :: _, [], h => h.elim

end Go.Proofs.YtjbbapodcngnaaaGreatDoor
namespace Go.Proofs.YtjbbapodcngnaaaGreatDoor
open Go.RowKit Hdr

theorem HMap.up {S : Nat → Prop} {w w' : World} {lo : Nat} {m : Option Nat} {fs : List Fd} (h : HMap w lo m fs) (k : Keeps S w w') (hS : ∀ x, S x → w.heap.size ≤ x) : HMap w' lo m fs := by
  rcases h with ⟨h1, h2⟩ | ⟨mb, gs, h1, h2, h3, h4⟩
  · exact .inl ⟨h1, h2⟩
  · refine .inr ⟨mb, gs, h1, h2, h3.keep k (fun h => by have := hS _ h; have := h3.lt; omega), ?_⟩
    exact h4.keep k (fun x hx b hb h => by
      have := ((h4.own x hx).lt b hb).2
      have := hS _ h
      omega)
theorem HdrAt.up {S : Nat → Prop} {w w' : World} {lo : Nat} {hv : Value} {fs : List Fd} (h : HdrAt w lo hv fs) (k : Keeps S w w') (hS : ∀ x, S x → w.heap.size ≤ x) : HdrAt w' lo hv fs := by
  obtain ⟨lb, cap, m, h1, h2, h3, h4, h5, h6⟩ := h
  exact ⟨lb, cap, m, h1, h2, h3, h4.keep k (fun h => by have := hS _ h; have := h4.ptrs.lt; omega), h5.up k hS, (h6.keep k (fun x h => .inr (hS x h))).mono k.size⟩

theorem ownsRow_mono {w : World} {base base' : Nat} {e : TypeId} {size : Nat} {v : Value} {n : Nat} {xs : List Value} (h : w.ownsRow base' e size v n xs) (hb : base ≤ base') : w.ownsRow base e size v n xs := by
  obtain ⟨h3, h4⟩ := h
  refine ⟨h3, ?_⟩
  rcases h4 with h4 | ⟨g, c, cur, h5, h6, h7⟩
  · exact .inl h4
  · exact .inr ⟨g, c, cur, h5, by omega, h7⟩

end Go.Proofs.YtjbbapodcngnaaaGreatDoor
namespace Go.Proofs.YtjbbapodcngnaaaGreatDoor
open Go.RowKit Hdr

theorem str_get (l : List UInt8) (j : Nat) (h : j < l.length) : (⟨l.toArray⟩ : ByteArray)[j]'(by show j < l.toArray.size; simpa using h) = l[j] := rfl

end Go.Proofs.YtjbbapodcngnaaaGreatDoor
namespace Go.Proofs.YtjbbapodcngnaaaGreatDoor
open Go.RowKit Hdr

theorem str_cut (l : List UInt8) (i j : Nat) : (⟨l.toArray⟩ : ByteArray).extract i j = ⟨((l.drop i).take (j - i)).toArray⟩ := by
  apply ByteArray.ext
  apply Array.toList_inj.1
  rw [extract_mid]
theorem str_len (l : List UInt8) : (⟨l.toArray⟩ : ByteArray).size = l.length := by show l.toArray.size = _; simp

end Go.Proofs.YtjbbapodcngnaaaGreatDoor
namespace Go.Proofs.YtjbbapodcngnaaaGreatDoor
open Go.RowKit Hdr

theorem str_app (a b : List UInt8) : (⟨a.toArray⟩ : ByteArray) ++ ⟨b.toArray⟩ = ⟨(a ++ b).toArray⟩ := by
  apply ByteArray.ext
  simp [ByteArray.data_append]

end Go.Proofs.YtjbbapodcngnaaaGreatDoor
namespace Go.Proofs.YtjbbapodcngnaaaGreatDoor
open Go.RowKit Hdr

/-- Where a sign stands first; -1 if nowhere. -/
def ixc (c : UInt8) : List UInt8 → Int
  | [] => -1
  | x :: l => if x = c then 0 else if ixc c l = -1 then -1 else ixc c l + 1
theorem ixc_ge (c : UInt8) (l : List UInt8) : -1 ≤ ixc c l := by
  induction l with
  | nil => exact Int.le_refl _
  | cons x l ih => simp only [ixc]; split; omega; split <;> omega
theorem ixc_none (c : UInt8) : ∀ (a : List UInt8), c ∉ a → ixc c a = -1
  | [], _ => rfl
  | x :: a, h => by
    simp only [List.mem_cons, not_or] at h
    simp only [ixc]
    rw [if_neg (fun e => h.1 e.symm), ixc_none c a h.2]
    rfl
theorem ixc_some (c : UInt8) : ∀ (a b : List UInt8), c ∉ a → ixc c (a ++ c :: b) = a.length
  | [], b, _ => by simp [ixc]
  | x :: a, b, h => by
    simp only [List.mem_cons, not_or] at h
    rw [List.cons_append]
    simp only [ixc]
    rw [if_neg (fun e => h.1 e.symm), ixc_some c a b h.2, if_neg (by omega)]
    simp

set_option maxRecDepth 100000 in
set_option maxHeartbeats 1000000 in
theorem zzIndexM_any (l : List UInt8) (c : UInt8) (w : World) (hlen : l.length ≤ 1000000000) :
    Calls Tryz.prog 144 #[str l, .string ⟨#[c]⟩] w fun e w' => e = .returned (.int .i64 (ixc c l)) ∧ w' = w := by
  have hls := str_len l
  go_enter Tryz.func144, Tryz.ntmps144
  go_wp2
  go_loopg [5] l.length (fun n s5 wr => ∃ j : Nat, s5 = .int .i64 j ∧ j + n = l.length ∧ ixc c l = (if ixc c (l.drop j) = -1 then -1 else ixc c (l.drop j) + j) ∧ w = wr)
  case atStart => exact ⟨0, rfl, by omega, by rw [List.drop_zero]; split <;> simp_all, rfl⟩
  case round =>
    obtain ⟨j, rfl, hj, hix, rfl⟩ := hrel
    have HIX := Lib.hid hix
    clear hix
    have hw1 : IntKind.i64.wrap ((j : Int) + 1) = (j : Int) + 1 := IntWalk.i64_in _ (by omega)
    by_cases hlt : j < l.length
    · have e1 : decide ((j : Int) + 1 ≤ (l.length : Int)) = true := decide_eq_true (by omega)
      have b1 : (j : Int) ≤ (j : Int) + 1 := by omega
      have b2 : (j : Int) + 1 ≤ (l.length : Int) := by omega
      have hcut := str_cut l j (j + 1)
      have htk : (l.drop j).take (j + 1 - j) = [l[j]] := by rw [show j + 1 - j = 1 by omega, List.drop_eq_getElem_cons hlt]; rfl
      rw [htk] at hcut
      have hdr : l.drop j = l[j] :: l.drop (j + 1) := List.drop_eq_getElem_cons hlt
      have hbe : ((⟨#[l[j]]⟩ : ByteArray) == ⟨#[c]⟩) = decide (l[j] = c) := by have := str_beq [l[j]] [c]; simpa using this
      have HDR := Lib.hid hdr
      clear htk hdr
      generalize l[j] = x at *
      have hcut' : (⟨l.toArray⟩ : ByteArray).extract j (j + 1) = ⟨#[x]⟩ := hcut
      clear hcut
      by_cases hx : x = c
      · subst hx
        have hb : ((⟨#[x]⟩ : ByteArray) == ⟨#[x]⟩) = true := by rw [hbe]; simp
        clear hbe
        go_wp2
        go_ret
        refine ⟨?_, rfl⟩
        rw [HIX.out, HDR.out]
        simp [ixc]
      · have hb : ((⟨#[x]⟩ : ByteArray) == ⟨#[c]⟩) = false := by rw [hbe]; exact decide_eq_false hx
        have hne : (⟨#[x]⟩ : ByteArray) ≠ ⟨#[c]⟩ := fun e => hx (by injection e with e; simpa using e)
        have hxc : (x == c) = false := beq_eq_false_iff_ne.2 hx
        have HX := Lib.hid hx
        clear hbe hx hne hb
        go_wp2
        go_roundg (gk - 1)
        case measure => omega
        case rel =>
          refine ⟨j + 1, by simp, by omega, ?_, rfl⟩
          rw [HIX.out, HDR.out]
          have hge := ixc_ge c (l.drop (j + 1))
          simp only [ixc, if_neg HX.out]
          by_cases h : ixc c (l.drop (j + 1)) = -1
          · simp [h]
          · simp only [if_neg h]
            rw [if_neg (by omega)]
            omega
    · have e1 : decide ((j : Int) + 1 ≤ (l.length : Int)) = false := decide_eq_false (by omega)
      have hd : l.drop j = [] := List.drop_eq_nil_of_le (by omega)
      have HD := Lib.hid hd
      clear hd
      go_wp2
      go_ret
      refine ⟨?_, rfl⟩
      rw [HIX.out, HD.out]
      rfl

set_option maxRecDepth 100000 in
set_option maxHeartbeats 1000000 in
theorem zzIndexB_any (l : List UInt8) (c : UInt8) (w : World) (hlen : l.length ≤ 1000000000) :
    Calls Tryz.prog 119 #[str l, .string ⟨#[c]⟩] w fun e w' => e = .returned (.int .i64 (ixc c l)) ∧ w' = w := by
  have hls := str_len l
  go_enter Tryz.func119, Tryz.ntmps119
  go_wp2
  go_loopg [5] l.length (fun n s5 wr => ∃ j : Nat, s5 = .int .i64 j ∧ j + n = l.length ∧ ixc c l = (if ixc c (l.drop j) = -1 then -1 else ixc c (l.drop j) + j) ∧ w = wr)
  case atStart => exact ⟨0, rfl, by omega, by rw [List.drop_zero]; split <;> simp_all, rfl⟩
  case round =>
    obtain ⟨j, rfl, hj, hix, rfl⟩ := hrel
    have HIX := Lib.hid hix
    clear hix
    have hw1 : IntKind.i64.wrap ((j : Int) + 1) = (j : Int) + 1 := IntWalk.i64_in _ (by omega)
    by_cases hlt : j < l.length
    · have e1 : decide ((j : Int) + 1 ≤ (l.length : Int)) = true := decide_eq_true (by omega)
      have b1 : (j : Int) ≤ (j : Int) + 1 := by omega
      have b2 : (j : Int) + 1 ≤ (l.length : Int) := by omega
      have hcut := str_cut l j (j + 1)
      have htk : (l.drop j).take (j + 1 - j) = [l[j]] := by rw [show j + 1 - j = 1 by omega, List.drop_eq_getElem_cons hlt]; rfl
      rw [htk] at hcut
      have hdr : l.drop j = l[j] :: l.drop (j + 1) := List.drop_eq_getElem_cons hlt
      have hbe : ((⟨#[l[j]]⟩ : ByteArray) == ⟨#[c]⟩) = decide (l[j] = c) := by have := str_beq [l[j]] [c]; simpa using this
      have HDR := Lib.hid hdr
      clear htk hdr
      generalize l[j] = x at *
      have hcut' : (⟨l.toArray⟩ : ByteArray).extract j (j + 1) = ⟨#[x]⟩ := hcut
      clear hcut
      by_cases hx : x = c
      · subst hx
        have hb : ((⟨#[x]⟩ : ByteArray) == ⟨#[x]⟩) = true := by rw [hbe]; simp
        clear hbe
        go_wp2
        go_ret
        refine ⟨?_, rfl⟩
        rw [HIX.out, HDR.out]
        simp [ixc]
      · have hb : ((⟨#[x]⟩ : ByteArray) == ⟨#[c]⟩) = false := by rw [hbe]; exact decide_eq_false hx
        have hne : (⟨#[x]⟩ : ByteArray) ≠ ⟨#[c]⟩ := fun e => hx (by injection e with e; simpa using e)
        have hxc : (x == c) = false := beq_eq_false_iff_ne.2 hx
        have HX := Lib.hid hx
        clear hbe hx hne hb
        go_wp2
        go_roundg (gk - 1)
        case measure => omega
        case rel =>
          refine ⟨j + 1, by simp, by omega, ?_, rfl⟩
          rw [HIX.out, HDR.out]
          have hge := ixc_ge c (l.drop (j + 1))
          simp only [ixc, if_neg HX.out]
          by_cases h : ixc c (l.drop (j + 1)) = -1
          · simp [h]
          · simp only [if_neg h]
            rw [if_neg (by omega)]
            omega
    · have e1 : decide ((j : Int) + 1 ≤ (l.length : Int)) = false := decide_eq_false (by omega)
      have hd : l.drop j = [] := List.drop_eq_nil_of_le (by omega)
      have HD := Lib.hid hd
      clear hd
      go_wp2
      go_ret
      refine ⟨?_, rfl⟩
      rw [HIX.out, HD.out]
      rfl

set_option maxRecDepth 100000 in
theorem zzCutM_some (a b : List UInt8) (c : UInt8) (w : World) (hc : c ∉ a) (hlen : a.length + b.length ≤ 100000000) :
    Calls Tryz.prog 110 #[str (a ++ c :: b), .string ⟨#[c]⟩] w fun e w' => e = .returned (.tuple #[str a, str b, .bool true]) ∧ Keeps No w w' := by
  have hls := str_len (a ++ c :: b)
  have hl : (a ++ c :: b).length = a.length + (b.length + 1) := by simp
  rw [hl] at hls
  have hix := ixc_some c a b hc
  have hc1 := str_cut (a ++ c :: b) 0 a.length
  have hc2 := str_cut (a ++ c :: b) (a.length + 1) (a.length + (b.length + 1))
  have ht1 : ((a ++ c :: b).drop 0).take (a.length - 0) = a := by simp
  have ht2 : ((a ++ c :: b).drop (a.length + 1)).take (a.length + (b.length + 1) - (a.length + 1)) = b := by
    rw [show a.length + (b.length + 1) - (a.length + 1) = b.length by omega, List.drop_append, List.drop_eq_nil_of_le (by omega)]; simp
  rw [ht1] at hc1
  rw [ht2] at hc2
  have hI := Lib.hid (zzIndexM_any (a ++ c :: b) c w (by rw [hl]; omega))
  have HIX := Lib.hid hix
  generalize hs : (a ++ c :: b) = s at *
  have hw1 : IntKind.i64.wrap ((a.length : Int) + 1) = (a.length : Int) + 1 := IntWalk.i64_in _ (by omega)
  have b1 : (a.length : Int) + 1 ≤ (a.length : Int) + ((b.length : Int) + 1) := by omega
  have b2 : (a.length : Int) ≤ (a.length : Int) + ((b.length : Int) + 1) := by omega
  have n1 : ((a.length : Int) + 1).toNat = a.length + 1 := by omega
  clear hix ht1 ht2 hl hs hc
  go_enter Tryz.func110, Tryz.ntmps110
  go_wp2_with (fail)
  refine hI.out.mono ?_
  rintro e w1 ⟨rfl, rfl⟩
  rw [HIX.out]
  go_wp2
  go_quiet (fail)
  go_wp2
  go_ret3
  exact ⟨rfl, (by repeat (first | assumption | exact Keeps.refl _ _ | apply Keeps.drewN | apply Keeps.drew | apply Keeps.alloc | (refine Keeps.setCell ?_ (.inl (by simp [In])) _)))⟩

set_option maxRecDepth 100000 in
theorem zzCutM_none (a : List UInt8) (c : UInt8) (w : World) (hc : c ∉ a) (hlen : a.length ≤ 100000000) :
    Calls Tryz.prog 110 #[str a, .string ⟨#[c]⟩] w fun e w' => e = .returned (.tuple #[str a, str [], .bool false]) ∧ Keeps No w w' := by
  have hix := ixc_none c a hc
  have hI := Lib.hid (zzIndexM_any a c w (by omega))
  have HIX := Lib.hid hix
  clear hix hc
  go_enter Tryz.func110, Tryz.ntmps110
  go_wp2_with (fail)
  refine hI.out.mono ?_
  rintro e w1 ⟨rfl, rfl⟩
  rw [HIX.out]
  go_wp2
  go_ret3
  exact ⟨rfl, Keeps.refl _ _⟩

set_option maxRecDepth 100000 in
theorem zzCutB_some (a b : List UInt8) (c : UInt8) (w : World) (hc : c ∉ a) (hlen : a.length + b.length ≤ 100000000) :
    Calls Tryz.prog 89 #[str (a ++ c :: b), .string ⟨#[c]⟩] w fun e w' => e = .returned (.tuple #[str a, str b, .bool true]) ∧ Keeps No w w' := by
  have hls := str_len (a ++ c :: b)
  have hl : (a ++ c :: b).length = a.length + (b.length + 1) := by simp
  rw [hl] at hls
  have hix := ixc_some c a b hc
  have hc1 := str_cut (a ++ c :: b) 0 a.length
  have hc2 := str_cut (a ++ c :: b) (a.length + 1) (a.length + (b.length + 1))
  have ht1 : ((a ++ c :: b).drop 0).take (a.length - 0) = a := by simp
  have ht2 : ((a ++ c :: b).drop (a.length + 1)).take (a.length + (b.length + 1) - (a.length + 1)) = b := by
    rw [show a.length + (b.length + 1) - (a.length + 1) = b.length by omega, List.drop_append, List.drop_eq_nil_of_le (by omega)]; simp
  rw [ht1] at hc1
  rw [ht2] at hc2
  have hI := Lib.hid (zzIndexB_any (a ++ c :: b) c w (by rw [hl]; omega))
  have HIX := Lib.hid hix
  generalize hs : (a ++ c :: b) = s at *
  have hw1 : IntKind.i64.wrap ((a.length : Int) + 1) = (a.length : Int) + 1 := IntWalk.i64_in _ (by omega)
  have b1 : (a.length : Int) + 1 ≤ (a.length : Int) + ((b.length : Int) + 1) := by omega
  have b2 : (a.length : Int) ≤ (a.length : Int) + ((b.length : Int) + 1) := by omega
  have n1 : ((a.length : Int) + 1).toNat = a.length + 1 := by omega
  clear hix ht1 ht2 hl hs hc
  go_enter Tryz.func89, Tryz.ntmps89
  go_wp2_with (fail)
  refine hI.out.mono ?_
  rintro e w1 ⟨rfl, rfl⟩
  rw [HIX.out]
  go_wp2
  go_quiet (fail)
  go_wp2
  go_ret3
  exact ⟨rfl, (by repeat (first | assumption | exact Keeps.refl _ _ | apply Keeps.drewN | apply Keeps.drew | apply Keeps.alloc | (refine Keeps.setCell ?_ (.inl (by simp [In])) _)))⟩

end Go.Proofs.YtjbbapodcngnaaaGreatDoor
namespace Go.Proofs.YtjbbapodcngnaaaGreatDoor
open Go.RowKit Hdr

/-- A string that is ranged over. -/
def ItS (w : World) (k : Nat) (s : ByteArray) (p : Nat) : Prop := w.heap[k]? = some (.stringIter s p)
theorem ItS.lt {w : World} {k : Nat} {s : ByteArray} {p : Nat} (h : ItS w k s p) : k < w.heap.size := (Array.getElem?_eq_some_iff.1 h).1
theorem ItS.new (w : World) (s : ByteArray) : ItS (w.iter s 0) w.heap.size s 0 := World.iter_heap w s 0
theorem iter_keeps (w : World) (s : ByteArray) (p : Nat) : Keeps No w (w.iter s p) := (Keeps.refl No w).alloc _
theorem ItS.set {w : World} {k : Nat} {s : ByteArray} {p : Nat} (h : ItS w k s p) (q : Nat) : ItS (setM w k (.stringIter s q)) k s q := setM_same _ h.lt

theorem run_next_at (w : World) (k : Nat) (s : ByteArray) (p : Nat) (ty : TypeId) (h : ItS w k s p) (hp : p < s.size) :
    (Instr.next (.pointer (some ⟨k, 0, none⟩)) true ty).run Tryz.prog w = .ok (.tuple #[.bool true, .int .i64 p, .int .i32 (Utf8.decode s p).1]) (setM w k (.stringIter s (p + (Utf8.decode s p).2))) := by
  unfold ItS at h
  simp [Instr.next, getObj, setObj, Sem.run_bind, Sem.run, h, Result.andThen, hp, goInt, setM]
theorem run_next_out (w : World) (k : Nat) (s : ByteArray) (p : Nat) (ty : TypeId) (h : ItS w k s p) (hp : ¬ p < s.size) :
    (Instr.next (.pointer (some ⟨k, 0, none⟩)) true ty).run Tryz.prog w = .ok (.tuple #[.bool false]) w := by
  unfold ItS at h
  simp [Instr.next, getObj, Sem.run, h, hp]

end Go.Proofs.YtjbbapodcngnaaaGreatDoor
namespace Go.Proofs.YtjbbapodcngnaaaGreatDoor
open Go.RowKit Hdr

set_option maxRecDepth 100000 in
theorem tSpecial_no (n : Nat) (w : World) (h : t7N n) :
    Calls Tryz.prog 198 #[.int .i32 n] w fun e w' => e = .returned (.bool false) ∧ w' = w := by
  unfold t7N at h
  have key : ∀ k : Nat, ¬ (97 ≤ k ∧ k ≤ 122 ∨ 48 ≤ k ∧ k ≤ 57) → ((n : Int) == (k : Int)) = false := fun k hk => by
    rw [beq_eq_false_iff_ne]
    intro e
    have : n = k := by omega
    subst this
    exact hk h
  have k1 : ((n : Int) == 40) = false := key 40 (by decide)
  have k2 : ((n : Int) == 41) = false := key 41 (by decide)
  have k3 : ((n : Int) == 60) = false := key 60 (by decide)
  have k4 : ((n : Int) == 62) = false := key 62 (by decide)
  have k5 : ((n : Int) == 64) = false := key 64 (by decide)
  have k6 : ((n : Int) == 44) = false := key 44 (by decide)
  have k7 : ((n : Int) == 59) = false := key 59 (by decide)
  have k8 : ((n : Int) == 58) = false := key 58 (by decide)
  have k9 : ((n : Int) == 92) = false := key 92 (by decide)
  have k10 : ((n : Int) == 34) = false := key 34 (by decide)
  have k11 : ((n : Int) == 47) = false := key 47 (by decide)
  have k12 : ((n : Int) == 91) = false := key 91 (by decide)
  have k13 : ((n : Int) == 93) = false := key 93 (by decide)
  have k14 : ((n : Int) == 63) = false := key 63 (by decide)
  have k15 : ((n : Int) == 61) = false := key 61 (by decide)
  clear key h
  go_enter Tryz.func198, Tryz.ntmps198
  go_wp2
  go_ret
  exact ⟨rfl, rfl⟩

set_option maxRecDepth 100000 in
theorem tSpecial_yes (n : Nat) (w : World) (h : n = 47 ∨ n = 59 ∨ n = 61) :
    Calls Tryz.prog 198 #[.int .i32 n] w fun e w' => e = .returned (.bool true) ∧ w' = w := by
  rcases h with rfl | rfl | rfl
  all_goals
    go_enter Tryz.func198, Tryz.ntmps198
    go_wp2
    go_ret
    exact ⟨rfl, rfl⟩

set_option maxRecDepth 100000 in
theorem tokenChar_yes (n : Nat) (w : World) (h : t7N n) :
    Calls Tryz.prog 196 #[.int .i32 n] w fun e w' => e = .returned (.bool true) ∧ w' = w := by
  have hT := Lib.hid (tSpecial_no n w h)
  unfold t7N at h
  have e1 : decide ((32 : Int) < (n : Int)) = true := decide_eq_true (by omega)
  have e2 : decide ((n : Int) < 127) = true := decide_eq_true (by omega)
  clear h
  go_enter Tryz.func196, Tryz.ntmps196
  go_wp2_with (fail)
  refine hT.out.mono ?_
  rintro e w' ⟨rfl, rfl⟩
  go_wp2
  go_ret
  exact ⟨rfl, rfl⟩

set_option maxRecDepth 100000 in
theorem tokenChar_no (n : Nat) (w : World) (h : n = 47 ∨ n = 59 ∨ n = 61) :
    Calls Tryz.prog 196 #[.int .i32 n] w fun e w' => e = .returned (.bool false) ∧ w' = w := by
  have hT := Lib.hid (tSpecial_yes n w h)
  have e1 : decide ((32 : Int) < (n : Int)) = true := decide_eq_true (by omega)
  have e2 : decide ((n : Int) < 127) = true := decide_eq_true (by omega)
  clear h
  go_enter Tryz.func196, Tryz.ntmps196
  go_wp2_with (fail)
  refine hT.out.mono ?_
  rintro e w' ⟨rfl, rfl⟩
  go_wp2
  go_ret
  exact ⟨rfl, rfl⟩

/-- A byte that ends a token. -/
def endsT (r : List UInt8) : Prop := r = [] ∨ ∃ x t, r = x :: t ∧ (x = 47 ∨ x = 59 ∨ x = 61)
theorem t7N_lt {c : UInt8} (h : t7b c = true) : t7N c.toNat ∧ c.toNat < 128 := by
  have := of_decide_eq_true h
  refine ⟨this, ?_⟩
  unfold t7N at this
  omega

theorem str_get_of {l : List UInt8} {p : Nat} {c : UInt8} (h : l[p]? = some c) (hp : p < (⟨l.toArray⟩ : ByteArray).size) : (⟨l.toArray⟩ : ByteArray)[p]'hp = c := by
  have hl : p < l.length := by rw [str_len] at hp; exact hp
  rw [List.getElem?_eq_getElem hl] at h
  rw [str_get l p hl]
  exact Option.some.inj h

set_option maxRecDepth 100000 in
set_option maxHeartbeats 2000000 in
theorem consumeToken_any (a r : List UInt8) (w : World) (ha : ∀ c ∈ a, t7b c = true) (hr : endsT r) (hlen : a.length + r.length ≤ 100000) :
    Calls Tryz.prog 152 #[str (a ++ r)] w fun e w' => e = .returned (.tuple #[str a, str r]) ∧ Keeps No w w' := by
  have hls := str_len (a ++ r)
  have hl : (a ++ r).length = a.length + r.length := by simp
  have hget : ∀ p (h : p < a.length), (a ++ r)[p]? = some a[p] := fun p h => by rw [List.getElem?_append_left h, List.getElem?_eq_getElem h]
  have hgr : ∀ x t, r = x :: t → (a ++ r)[a.length]? = some x := fun x t e => by subst e; simp
  have hc1 := str_cut (a ++ r) 0 a.length
  have hc2 := str_cut (a ++ r) a.length (a.length + r.length)
  rw [show ((a ++ r).drop 0).take (a.length - 0) = a by simp] at hc1
  rw [show ((a ++ r).drop a.length).take (a.length + r.length - a.length) = r by rw [List.drop_left]; exact List.take_of_length_le (by omega)] at hc2
  have HR := Lib.hid hr
  have HA := Lib.hid ha
  have HG := Lib.hid hget
  have HGR := Lib.hid hgr
  have hnil : r = [] → a ++ r = a := fun e => by rw [e, List.append_nil]
  have HNIL := Lib.hid hnil
  generalize hs : a ++ r = s at *
  rw [hl] at hls
  clear hr ha hget hgr hs hnil
  go_enter Tryz.func152, Tryz.ntmps152
  go_wp2
  have hI0 := ItS.new w ⟨s.toArray⟩
  have hK0 := iter_keeps w ⟨s.toArray⟩ 0
  generalize w.iter ⟨s.toArray⟩ 0 = w0 at *
  have HI0 := Lib.hid hI0
  clear hI0
  go_loopg [] a.length (fun n wr => ∃ p : Nat, p + n = a.length ∧ ItS wr w.heap.size ⟨s.toArray⟩ p ∧ Keeps (Up w.heap.size []) w wr)
  case atStart => exact ⟨0, by omega, HI0.out, hK0.of_no⟩
  case round =>
    obtain ⟨p, hn, hI, K⟩ := hrel
    have HN := Lib.hid hn
    have hlt := hI.lt
    have hpa : p ≤ a.length := by omega
    have hsz : (⟨s.toArray⟩ : ByteArray).size = s.length := str_len s
    clear hn
    by_cases hp : p < a.length
    · have hps : p < (⟨s.toArray⟩ : ByteArray).size := by rw [hsz, hl]; omega
      have hnx := fun ty => run_next_at wr w.heap.size ⟨s.toArray⟩ p ty hI hps
      have hsp : (⟨s.toArray⟩ : ByteArray)[p]'hps = a[p] := str_get_of (HG.out p hp) hps
      obtain ⟨ht7, hta⟩ := t7N_lt (HA.out a[p] (List.getElem_mem hp))
      have hdc : Utf8.decode ⟨s.toArray⟩ p = (a[p].toNat, 1) := by rw [decode_ascii _ p hps (by rw [hsp]; exact hta), hsp]
      rw [hdc] at hnx
      have hset := hI.set (p + 1)
      have K1 := K.trans' ((setM_keeps wr w.heap.size (.stringIter ⟨s.toArray⟩ (p + 1))).mono (fun x _ h => .inr (by simp [In] at h; omega)))
      generalize a[p].toNat = c at *
      have HSET := Lib.hid hset
      have HT := Lib.hid ht7
      generalize setM wr w.heap.size (.stringIter ⟨s.toArray⟩ (p + 1)) = w1 at *
      clear hset hI ht7 hsp hdc hls hc1 hc2
      go_wp2_with (fail)
      refine (tokenChar_yes c w1 HT.out).mono ?_
      rintro e w2 ⟨rfl, rfl⟩
      go_wp2
      go_roundg (gk - 1)
      case measure => have := HN.out; omega
      case rel => exact ⟨p + 1, by have := HN.out; omega, HSET.out, K1⟩
    · obtain rfl : p = a.length := by omega
      rcases HR.out with hr0 | ⟨x, t, hr1, hx⟩
      · have hrl : r.length = 0 := by rw [hr0]; rfl
        have hnx := fun ty => run_next_out wr w.heap.size ⟨s.toArray⟩ a.length ty hI (by rw [hsz, hl]; omega)
        have HR0 := Lib.hid hr0
        clear hI hr0 hls hc1 hc2
        go_wp2
        go_ret2
        refine ⟨?_, (K.down (Nat.le_refl _)).mono (fun _ _ h => by cases h)⟩
        rw [HR0.out, HNIL.out HR0.out]
        rfl
      · have hrl : 0 < r.length := by rw [hr1]; simp
        have hps : a.length < (⟨s.toArray⟩ : ByteArray).size := by rw [hsz, hl]; omega
        have hnx := fun ty => run_next_at wr w.heap.size ⟨s.toArray⟩ a.length ty hI hps
        have hsp : (⟨s.toArray⟩ : ByteArray)[a.length]'hps = x := str_get_of (HGR.out x t hr1) hps
        have hxn : x.toNat = 47 ∨ x.toNat = 59 ∨ x.toNat = 61 := by rcases hx with rfl | rfl | rfl <;> decide
        have hdc : Utf8.decode ⟨s.toArray⟩ a.length = (x.toNat, 1) := by rw [decode_ascii _ _ hps (by rw [hsp]; omega), hsp]
        rw [hdc] at hnx
        have K1 := K.trans' ((setM_keeps wr w.heap.size (.stringIter ⟨s.toArray⟩ (a.length + 1))).mono (fun x _ h => .inr (by simp [In] at h; omega)))
        generalize x.toNat = c at *
        have HX := Lib.hid hxn
        generalize setM wr w.heap.size (.stringIter ⟨s.toArray⟩ (a.length + 1)) = w1 at *
        have b1 : (a.length : Int) ≤ (a.length : Int) + (r.length : Int) := by omega
        have hz : (⟨s.toArray⟩ : ByteArray).size = a.length + r.length := hls
        clear hI hsp hdc hr1 hx hxn hsz
        go_wp2_with (fail)
        refine (tokenChar_no c w1 HX.out).mono ?_
        rintro e w2 ⟨rfl, rfl⟩
        go_wp2
        go_quiet (fail)
        go_wp2
        go_ret2
        exact ⟨rfl, ((K1.down (Nat.le_refl _)).mono (fun _ _ h => by cases h)).trans' (by repeat (first | assumption | exact Keeps.refl _ _ | apply Keeps.drewN | apply Keeps.drew | apply Keeps.alloc | (refine Keeps.setCell ?_ (.inl (by simp [In])) _)))⟩
end Go.Proofs.YtjbbapodcngnaaaGreatDoor
namespace Go.Proofs.YtjbbapodcngnaaaGreatDoor.Hdr

/-- How many line feeds. -/
def nlf (l : List UInt8) : Nat := l.countP (· == 10)
theorem nlf_le (l : List UInt8) : nlf l ≤ l.length := List.countP_le_length

/-- The structure of a part. -/
inductive Sh where
  | mk (type sub bound id about way : List UInt8) (size lines : Nat) (parts : List Sh) : Sh
def Sh.parts : Sh → List Sh | .mk _ _ _ _ _ _ _ _ l => l

def ttype (m : Ml) : List UInt8 := if m.type = [] then textS else m.type
def tsub (m : Ml) : List UInt8 := if m.type = [] then plainS else m.sub
mutual
def shapeOf : Ml → List UInt8 → Sh
  | .mk hd kind ty sub id ab way text kids, p =>
    .mk (if ty = [] then textS else ty) (if ty = [] then plainS else sub) (if kind = 1 then bnd p else []) id ab way (if kind = 1 then 0 else (content (.mk hd kind ty sub id ab way text kids) p).length)
      (if kind = 1 then 0 else if (if ty = [] then textS else ty) = textS ∨ kind = 2 then nlf (content (.mk hd kind ty sub id ab way text kids) p) else 0) (shapesOf kids p 0)
def shapesOf : List Ml → List UInt8 → Nat → List Sh
  | [], _, _ => []
  | m :: l, p, i => shapeOf m (under p i) :: shapesOf l p (i + 1)
end
mutual
/-- No text of it is empty. -/
def sureOf : Ml → List UInt8 → Bool
  | .mk hd kind ty sub id ab way text kids, p => suresOf kids p 0 && (decide (kind = 1) || !decide ((if ty = [] then textS else ty) = textS ∨ kind = 2) || decide (content (.mk hd kind ty sub id ab way text kids) p ≠ []))
def suresOf : List Ml → List UInt8 → Nat → Bool
  | [], _, _ => true
  | m :: l, p, i => sureOf m (under p i) && suresOf l p (i + 1)
end
theorem shapeOf_eq (m : Ml) (p : List UInt8) : shapeOf m p = .mk (ttype m) (tsub m) (if m.kind = 1 then bnd p else []) m.id m.about m.way (if m.kind = 1 then 0 else (content m p).length) (if m.kind = 1 then 0 else if ttype m = textS ∨ m.kind = 2 then nlf (content m p) else 0) (shapesOf m.kids p 0) := by
  obtain ⟨h, k, t, s, i, a, w, x, kids⟩ := m
  rw [shapeOf]
  rfl
theorem sureOf_eq (m : Ml) (p : List UInt8) : sureOf m p = (suresOf m.kids p 0 && (decide (m.kind = 1) || !decide (ttype m = textS ∨ m.kind = 2) || decide (content m p ≠ []))) := by
  obtain ⟨h, k, t, s, i, a, w, x, kids⟩ := m
  rw [sureOf]
  rfl
theorem shapesOf_nil (p : List UInt8) (i : Nat) : shapesOf [] p i = [] := by rw [shapesOf]
theorem shapesOf_cons (m : Ml) (l : List Ml) (p : List UInt8) (i : Nat) : shapesOf (m :: l) p i = shapeOf m (under p i) :: shapesOf l p (i + 1) := by rw [shapesOf]
theorem suresOf_nil (p : List UInt8) (i : Nat) : suresOf [] p i = true := by rw [suresOf]
theorem suresOf_cons (m : Ml) (l : List Ml) (p : List UInt8) (i : Nat) : suresOf (m :: l) p i = (sureOf m (under p i) && suresOf l p (i + 1)) := by rw [suresOf]

/-- A part, as it is told. -/
structure SR where
  type : List UInt8
  sub : List UInt8
  params : List (List UInt8 × List UInt8)
  id : List UInt8
  about : List UInt8
  way : List UInt8
  bytes : Nat
  lines : Nat
  size : Nat
mutual
/-- A part stands ahead of its parts. -/
def flat : Sh → List SR
  | .mk t s b i a w n l ps => ⟨t, s, if b = [] then [] else [(bndK, b)], i, a, w, n, l, 1 + (flats ps).length⟩ :: flats ps
def flats : List Sh → List SR
  | [] => []
  | x :: l => flat x ++ flats l
end
theorem flat_eq (t s b i a w : List UInt8) (n l : Nat) (ps : List Sh) : flat (.mk t s b i a w n l ps) = ⟨t, s, if b = [] then [] else [(bndK, b)], i, a, w, n, l, 1 + (flats ps).length⟩ :: flats ps := by rw [flat]
theorem flats_nil : flats [] = [] := by rw [flats]
theorem flats_cons (x : Sh) (l : List Sh) : flats (x :: l) = flat x ++ flats l := by rw [flats]
theorem flats_append (a b : List Sh) : flats (a ++ b) = flats a ++ flats b := by
  induction a with
  | nil => rw [flats_nil]; rfl
  | cons x a ih => rw [List.cons_append, flats_cons, flats_cons, ih, List.append_assoc]
mutual
/-- How many parts. -/
def ssize : Sh → Nat
  | .mk _ _ _ _ _ _ _ _ ps => 1 + ssizes ps
def ssizes : List Sh → Nat
  | [] => 0
  | x :: l => ssize x + ssizes l
end
theorem ssize_eq (t s b i a w : List UInt8) (n l : Nat) (ps : List Sh) : ssize (.mk t s b i a w n l ps) = 1 + ssizes ps := by rw [ssize]
theorem ssizes_nil : ssizes [] = 0 := by rw [ssizes]
theorem ssizes_cons (x : Sh) (l : List Sh) : ssizes (x :: l) = ssize x + ssizes l := by rw [ssizes]
mutual
theorem flat_len : ∀ x : Sh, (flat x).length = ssize x
  | .mk t s b i a w n l ps => by rw [flat_eq, ssize_eq, List.length_cons, flats_len ps]; omega
theorem flats_len : ∀ l : List Sh, (flats l).length = ssizes l
  | [] => by rw [flats_nil, ssizes_nil]; rfl
  | x :: l => by rw [flats_cons, ssizes_cons, List.length_append, flat_len x, flats_len l]
end
theorem shape_size (n : Nat) : ∀ m : Ml, msize m ≤ n → ∀ p, ssize (shapeOf m p) = msize m := by
  induction n with
  | zero => intro m h; have := msize_pos m; omega
  | succ n ih =>
    intro m hm p
    have hsz := msize_eq m
    rw [shapeOf_eq, ssize_eq, hsz]
    have : ∀ (l : List Ml) (i : Nat), msizes l ≤ n → ssizes (shapesOf l p i) = msizes l := by
      intro l
      induction l with
      | nil => intro i _; rw [shapesOf_nil, ssizes_nil, msizes]
      | cons k l ihl =>
        intro i hl
        rw [msizes] at hl ⊢
        rw [shapesOf_cons, ssizes_cons, ih k (by omega), ihl (i + 1) (by omega)]
    rw [this m.kids 0 (by omega)]
end Go.Proofs.YtjbbapodcngnaaaGreatDoor.Hdr
namespace Go.Proofs.YtjbbapodcngnaaaGreatDoor
open Go.RowKit

section
variable {P : Program} {ops : Array Oper} {md : Region.Mode} {C : World → Prop}

def forkB (md : Region.Mode) (ops : Array Oper) (rd : List Nat) (e1 : Nat) (segs1 : List (List Nat × Nat)) (rl1 : List Nat) (e2 : Nat) (segs2 : List (List Nat × Nat)) (rl2 : List Nat) (n : Nat) : Bool :=
  Region.noSelect ops && decide (n < ops.size) && decide (rd.length + (1 + segsLen rl1 segs1) = n) && decide (segsLen rl1 segs1 = segsLen rl2 segs2) && Region.sinkB md ops n && afterB md ops n && (ops.toList.drop (n + 1)).all pureOp &&
    looksM md ops n (fun l => decide (e1 < n) && decide (e2 < n) && decide (Region.ready md ops l = [e1, e2]) && segsM md ops n (ops.size - n - 1) rl1 segs1 (l.setIfInBounds e1 true) && segsM md ops n (ops.size - n - 1) rl2 segs2 (l.setIfInBounds e2 true)) rd (Array.replicate ops.size false)

theorem region_fork {id : Nat} {Q : Exit → Act → World → Prop} {a : Act} {w : World} {l : List Oper} (rd : List Nat) (e1 : Nat) (segs1 : List (List Nat × Nat)) (rl1 : List Nat) (e2 : Nat) (segs2 : List (List Nat × Nat)) (rl2 : List Nat) (n : Nat) (C : World → Prop) (hm : P.follows .mixedOrders = true)
    (hB : forkB .any l.toArray rd e1 segs1 rl1 e2 segs2 rl2 n = true) (hC : C w.drew)
    (h : wpLooks P l.toArray C (fun a' => wpList P l.toArray (EffPost C (wpSegs P l.toArray C Q (pick l rl1) (l.drop n) (segPick l segs1))) (pick l [e1]) a' w.drew ∧ wpList P l.toArray (EffPost C (wpSegs P l.toArray C Q (pick l rl2) (l.drop n) (segPick l segs2))) (pick l [e2]) a' w.drew) (pick l rd) a) : (Code.region id l.toArray true).wp P Q a w := by
  simp only [forkB, Bool.and_eq_true, decide_eq_true_eq] at hB
  obtain ⟨⟨⟨⟨⟨⟨⟨hsel, hn⟩, hlen1⟩, hlen2⟩, hs⟩, hc⟩, hp⟩, hlex⟩ := hB
  have hn' : n < l.length := by simpa using hn
  have inv0 : HeadInv .any l.toArray n (Array.replicate l.toArray.size false) :=
    ⟨by simp, fun j oj _ hl => (by rw [getD_replicate_false] at hl; cases hl), fun t _ ht => getD_in (by simpa using ht) (getD_replicate_false _ _)⟩
  have one : ∀ (e : Nat) (segs : List (List Nat × Nat)) (rl : List Nat) (listed' : Array Bool) (a' : Act), HeadInv .any l.toArray n listed' → e < n → e ∈ Region.ready .any l.toArray listed' → segsM .any l.toArray n (l.toArray.size - n - 1) rl segs (listed'.setIfInBounds e true) = true →
      wpList P l.toArray (EffPost C (wpSegs P l.toArray C Q (pick l rl) (l.drop n) (segPick l segs))) (pick l [e]) a' w.drew →
      wpOp P l.toArray (NoP Q) e (fun a'' w'' => C w'' ∧ wpAnyE P .any l.toArray (NoP Q) C n (fun listed' a' w' => MidAt .any l.toArray n (l.toArray.size - n - 1) listed' ∧ wpList P l.toArray Q (l.drop n) a' w') (segsLen rl segs) (listed'.setIfInBounds e true) a'' w'') a' w.drew := by
    intro e segs rl listed' a' inv' hen hr' hB' hK
    have hks : e < l.toArray.size := by omega
    have h0 : l.toArray[e]? = some l.toArray[e] := Array.getElem?_eq_getElem hks
    have hp : pick l [e] = [l.toArray[e]] := by
      unfold pick
      rw [List.filterMap_cons]
      have : l[e]? = some l.toArray[e] := by simp
      simp [this]
    rw [hp] at hK
    have hw2 : wpOp P l.toArray (EffPost C (wpSegs P l.toArray C Q (pick l rl) (l.drop n) (segPick l segs))) e (wpList P l.toArray (EffPost C (wpSegs P l.toArray C Q (pick l rl) (l.drop n) (segPick l segs))) []) a' w.drew := by
      unfold wpOp; simp only [h0]; exact hK
    refine wpOp_mono (fun a'' w'' h' => ?_) (wpOp_post (fun e a w hne h => absurd h.1 hne) hw2)
    obtain ⟨_, hC, h'⟩ := h'
    exact ⟨hC, wpAnyE_segs (P := P) (md := .any) (C := C) (g := l.toArray.size - n - 1) (Q := Q) rl hsel hs hc hn segs _ a'' w'' (inv'.set hr' hen) hB' hC h'⟩
  have H := wpAnyE_lk (P := P) (C := C) (f := 1 + segsLen rl1 segs1) (Q := Q) (L := fun listed' a' w' => MidAt .any l.toArray n (l.toArray.size - n - 1) listed' ∧ wpList P l.toArray Q (l.drop n) a' w') hsel hs hc hn (fun listed' a' w' hL j hj => by rw [hL.1.1] at hj; simp at hj; omega) rd _ a w.drew inv0 hlex hC (wpLooks.quiet h hC) (by
    intro listed' a' inv' hB' hK
    simp only [Bool.and_eq_true, decide_eq_true_eq] at hB'
    obtain ⟨⟨⟨⟨h1, h2⟩, hr⟩, s1⟩, s2⟩ := hB'
    rw [Nat.add_comm 1]
    refine ⟨fun h0 => (by rw [hr] at h0; cases h0), fun i hi => ?_⟩
    rw [hr] at hi
    rcases List.mem_cons.1 hi with rfl | hi
    · exact ⟨h1, one i segs1 rl1 listed' a' inv' h1 (by rw [hr]; simp) s1 hK.1⟩
    · obtain rfl := List.mem_singleton.1 hi
      rw [hlen2]
      exact ⟨h2, one i segs2 rl2 listed' a' inv' h2 (by rw [hr]; simp) s2 hK.2⟩)
  refine wp_region_any hm ?_
  have hdrop : l.drop n = l[n] :: l.drop (n + 1) := List.drop_eq_getElem_cons hn'
  have := wpAny_of_E (P := P) (md := .any) (Q := Q) (g := l.toArray.size - n - 1 + 1) (fun listed a' w' hL => by
    have hw := hL.2
    rw [hdrop] at hw
    exact wpAny_mid (md := .any) hsel (l.drop (n + 1)) (by simp; omega) (fun j => by simp [List.getElem?_drop]) (by simp [hn']) hp listed a' hL.1 hw) _ _ _ _ H
  rw [show rd.length + (1 + segsLen rl1 segs1) + (l.toArray.size - n - 1 + 1) = l.toArray.size by simp at hn ⊢; omega] at this
  exact this
end
end Go.Proofs.YtjbbapodcngnaaaGreatDoor
namespace Go.Proofs.YtjbbapodcngnaaaGreatDoor
open Go.RowKit

inductive FT where
  | leaf (segs : List (List Nat × Nat)) (rl : List Nat) : FT
  | fork (rd : List Nat) (e1 : Nat) (t1 : FT) (e2 : Nat) (t2 : FT) : FT

section
variable {P : Program} {ops : Array Oper} {md : Region.Mode} {C : World → Prop}

def FT.len : FT → Nat
  | .leaf segs rl => segsLen rl segs
  | .fork rd _ t1 _ _ => rd.length + (1 + t1.len)
def FT.ok (md : Region.Mode) (ops : Array Oper) (n g : Nat) : FT → Array Bool → Bool
  | .leaf segs rl, l => segsM md ops n g rl segs l
  | .fork rd e1 t1 e2 t2, l => looksM md ops n (fun l => decide (e1 < n) && decide (e2 < n) && decide (Region.ready md ops l = [e1, e2]) && decide (t1.len = t2.len) && FT.ok md ops n g t1 (l.setIfInBounds e1 true) && FT.ok md ops n g t2 (l.setIfInBounds e2 true)) rd l
def FT.wp (P : Program) (C : World → Prop) (Q : Exit → Act → World → Prop) (l : List Oper) (n : Nat) : FT → Act → World → Prop
  | .leaf segs rl, a, w => wpSegs P l.toArray C Q (pick l rl) (l.drop n) (segPick l segs) a w
  | .fork rd e1 t1 e2 t2, a, w => wpLooks P l.toArray C (fun a' => wpList P l.toArray (EffPost C (FT.wp P C Q l n t1)) (pick l [e1]) a' w ∧ wpList P l.toArray (EffPost C (FT.wp P C Q l n t2)) (pick l [e2]) a' w) (pick l rd) a

def treeB (md : Region.Mode) (ops : Array Oper) (t : FT) (n : Nat) : Bool :=
  Region.noSelect ops && decide (n < ops.size) && decide (t.len = n) && Region.sinkB md ops n && afterB md ops n && (ops.toList.drop (n + 1)).all pureOp && t.ok md ops n (ops.size - n - 1) (Array.replicate ops.size false)

theorem wpAnyE_tree {n : Nat} {Q : Exit → Act → World → Prop} {l : List Oper} (hsel : Region.noSelect l.toArray = true) (hs : Region.sinkB md l.toArray n = true) (hc : afterB md l.toArray n = true) (hn : n < l.toArray.size) :
    ∀ (t : FT) (listed : Array Bool) (a : Act) (w : World), HeadInv md l.toArray n listed → t.ok md l.toArray n (l.toArray.size - n - 1) listed = true → C w → t.wp P C Q l n a w →
      wpAnyE P md l.toArray (NoP Q) C n (fun listed' a' w' => MidAt md l.toArray n (l.toArray.size - n - 1) listed' ∧ wpList P l.toArray Q (l.drop n) a' w') t.len listed a w
  | .leaf segs rl, listed, a, w, inv, hB, hw, h => wpAnyE_segs (P := P) (md := md) (C := C) (g := l.toArray.size - n - 1) (Q := Q) rl hsel hs hc hn segs listed a w inv hB hw h
  | .fork rd e1 t1 e2 t2, listed, a, w, inv, hB, hw, h => by
    have one : ∀ (e : Nat) (t : FT) (listed' : Array Bool) (a' : Act), HeadInv md l.toArray n listed' → e < n → e ∈ Region.ready md l.toArray listed' →
        (∀ a'' w'', HeadInv md l.toArray n (listed'.setIfInBounds e true) → C w'' → t.wp P C Q l n a'' w'' → wpAnyE P md l.toArray (NoP Q) C n (fun listed' a' w' => MidAt md l.toArray n (l.toArray.size - n - 1) listed' ∧ wpList P l.toArray Q (l.drop n) a' w') t.len (listed'.setIfInBounds e true) a'' w'') →
        wpList P l.toArray (EffPost C (FT.wp P C Q l n t)) (pick l [e]) a' w →
        wpOp P l.toArray (NoP Q) e (fun a'' w'' => C w'' ∧ wpAnyE P md l.toArray (NoP Q) C n (fun listed' a' w' => MidAt md l.toArray n (l.toArray.size - n - 1) listed' ∧ wpList P l.toArray Q (l.drop n) a' w') t.len (listed'.setIfInBounds e true) a'' w'') a' w := by
      intro e t listed' a' inv' hen hr' IH hK
      have hks : e < l.toArray.size := by omega
      have h0 : l.toArray[e]? = some l.toArray[e] := Array.getElem?_eq_getElem hks
      have hp : pick l [e] = [l.toArray[e]] := by
        unfold pick
        rw [List.filterMap_cons]
        have : l[e]? = some l.toArray[e] := by simp
        simp [this]
      rw [hp] at hK
      have hw2 : wpOp P l.toArray (EffPost C (FT.wp P C Q l n t)) e (wpList P l.toArray (EffPost C (FT.wp P C Q l n t)) []) a' w := by
        unfold wpOp; simp only [h0]; exact hK
      refine wpOp_mono (fun a'' w'' h' => ?_) (wpOp_post (fun e a w hne h => absurd h.1 hne) hw2)
      obtain ⟨_, hC, h'⟩ := h'
      exact ⟨hC, IH a'' w'' (inv'.set hr' hen) hC h'⟩
    refine wpAnyE_lk (P := P) (C := C) (f := 1 + t1.len) (Q := Q) (L := fun listed' a' w' => MidAt md l.toArray n (l.toArray.size - n - 1) listed' ∧ wpList P l.toArray Q (l.drop n) a' w') hsel hs hc hn (fun listed' a' w' hL j hj => by rw [hL.1.1] at hj; simp at hj; omega) rd _ a w inv hB hw (wpLooks.quiet h hw) ?_
    intro listed' a' inv' hB' hK
    simp only [Bool.and_eq_true, decide_eq_true_eq] at hB'
    obtain ⟨⟨⟨⟨⟨h1, h2⟩, hr⟩, hlen⟩, s1⟩, s2⟩ := hB'
    rw [Nat.add_comm 1]
    refine ⟨fun h0 => (by rw [hr] at h0; cases h0), fun i hi => ?_⟩
    rw [hr] at hi
    rcases List.mem_cons.1 hi with rfl | hi
    · exact ⟨h1, one i t1 listed' a' inv' h1 (by rw [hr]; simp) (fun a'' w'' hi' hC' hw' => wpAnyE_tree hsel hs hc hn t1 _ a'' w'' hi' s1 hC' hw') hK.1⟩
    · obtain rfl := List.mem_singleton.1 hi
      rw [hlen]
      exact ⟨h2, one i t2 listed' a' inv' h2 (by rw [hr]; simp) (fun a'' w'' hi' hC' hw' => wpAnyE_tree hsel hs hc hn t2 _ a'' w'' hi' s2 hC' hw') hK.2⟩

theorem region_tree {id : Nat} {Q : Exit → Act → World → Prop} {a : Act} {w : World} {l : List Oper} (t : FT) (n : Nat) (C : World → Prop) (hm : P.follows .mixedOrders = true)
    (hB : treeB .any l.toArray t n = true) (hC : C w.drew) (h : t.wp P C Q l n a w.drew) : (Code.region id l.toArray true).wp P Q a w := by
  simp only [treeB, Bool.and_eq_true, decide_eq_true_eq] at hB
  obtain ⟨⟨⟨⟨⟨⟨hsel, hn⟩, hlen⟩, hs⟩, hc⟩, hp⟩, hlex⟩ := hB
  have hn' : n < l.length := by simpa using hn
  have inv0 : HeadInv .any l.toArray n (Array.replicate l.toArray.size false) :=
    ⟨by simp, fun j oj _ hl => (by rw [getD_replicate_false] at hl; cases hl), fun t _ ht => getD_in (by simpa using ht) (getD_replicate_false _ _)⟩
  have H := wpAnyE_tree (P := P) (md := .any) (C := C) (Q := Q) hsel hs hc hn t _ a w.drew inv0 hlex hC h
  refine wp_region_any hm ?_
  have hdrop : l.drop n = l[n] :: l.drop (n + 1) := List.drop_eq_getElem_cons hn'
  have := wpAny_of_E (P := P) (md := .any) (Q := Q) (g := l.toArray.size - n - 1 + 1) (fun listed a' w' hL => by
    have hw := hL.2
    rw [hdrop] at hw
    exact wpAny_mid (md := .any) hsel (l.drop (n + 1)) (by simp; omega) (fun j => by simp [List.getElem?_drop]) (by simp [hn']) hp listed a' hL.1 hw) _ _ _ _ H
  rw [hlen, show n + (l.toArray.size - n - 1 + 1) = l.toArray.size by simp; omega] at this
  exact this
end
end Go.Proofs.YtjbbapodcngnaaaGreatDoor
namespace Go.Proofs.YtjbbapodcngnaaaGreatDoor
open Go.RowKit Hdr

/-- A slice whose elements have these cells. -/
def RowsAt (w : World) (size : Nat) (v : Value) (css : List (List Value)) : Prop :=
  ∃ a cap, v = .slice a css.length cap ∧ css.length ≤ cap ∧ (a = none → cap = 0) ∧ (css = [] ∨ ∃ b o, a = some ⟨b, o, none⟩ ∧ b < w.heap.size ∧ ∀ (i : Nat) (cs : List Value), css[i]? = some cs → ∀ (j : Nat) (u : Value), cs[j]? = some u → w.cell? ⟨b, o + (i * size + j), none⟩ = some u)
theorem RowsAt.keep {w w' : World} {size : Nat} {v : Value} {css : List (List Value)} (h : RowsAt w size v css) (k : Keeps No w w') : RowsAt w' size v css := by
  obtain ⟨a, cap, h1, h2, h0, h3⟩ := h
  refine ⟨a, cap, h1, h2, h0, h3.imp (fun h => h) ?_⟩
  rintro ⟨b, o, e, h4, h5⟩
  exact ⟨b, o, e, Nat.lt_of_lt_of_le h4 k.size, fun i cs hi j u hu => k.cell (h5 i cs hi j u hu) (fun h => h)⟩
def hdC (h : Hd) : List Value := [str h.1, str h.2]
/-- What the reach of the argument's type says of it. -/
structure MlWf (head : List Hd) (kind : Int) (type sub id about way text : List UInt8) : Prop where
  hd : ∀ h ∈ head, h.1.length ≤ maxLen ∧ h.2.length ≤ maxLen
  hl : head.length ≤ maxLen
  kd : (Lit.int .i64 kind).wf = true
  l1 : type.length ≤ maxLen
  l2 : sub.length ≤ maxLen
  l3 : id.length ≤ maxLen
  l4 : about.length ≤ maxLen
  l5 : way.length ≤ maxLen
  l6 : text.length ≤ maxLen
mutual
/-- A message's cells. -/
def MlC (w : World) : Ml → List Value → Prop
  | .mk head kind ty sub id ab way text kids, cs => MlWf head kind ty sub id ab way text ∧ (∃ hv kv, cs = [hv, .int .i64 kind, str ty, str sub, str id, str ab, str way, str text, kv] ∧ RowsAt w 2 hv (head.map hdC) ∧ ∃ css, MlsC w kids css ∧ RowsAt w 9 kv css)
def MlsC (w : World) : List Ml → List (List Value) → Prop
  | [], css => css = []
  | m :: l, css => ∃ c r, css = c :: r ∧ MlC w m c ∧ MlsC w l r
end
theorem MlC_eq (w : World) (head : List Hd) (kind : Int) (ty sub id ab way text : List UInt8) (kids : List Ml) (cs : List Value) : MlC w (.mk head kind ty sub id ab way text kids) cs = (MlWf head kind ty sub id ab way text ∧ (∃ hv kv, cs = [hv, .int .i64 kind, str ty, str sub, str id, str ab, str way, str text, kv] ∧ RowsAt w 2 hv (head.map hdC) ∧ ∃ css, MlsC w kids css ∧ RowsAt w 9 kv css)) := by rw [MlC]
theorem MlsC_nil (w : World) (css : List (List Value)) : MlsC w [] css = (css = []) := by rw [MlsC]
theorem MlsC_cons (w : World) (m : Ml) (l : List Ml) (css : List (List Value)) : MlsC w (m :: l) css = (∃ c r, css = c :: r ∧ MlC w m c ∧ MlsC w l r) := by rw [MlsC]
mutual
theorem MlC.keep {w w' : World} (K : Keeps No w w') : ∀ (m : Ml) (cs : List Value), MlC w m cs → MlC w' m cs
  | .mk head kind ty sub id ab way text kids, cs, h => by
    rw [MlC_eq] at h ⊢
    obtain ⟨hw, hv, kv, h1, h2, css, h3, h4⟩ := h
    exact ⟨hw, hv, kv, h1, h2.keep K, css, MlsC.keep K kids css h3, h4.keep K⟩
theorem MlsC.keep {w w' : World} (K : Keeps No w w') : ∀ (l : List Ml) (css : List (List Value)), MlsC w l css → MlsC w' l css
  | [], css, h => by rw [MlsC_nil] at h ⊢; exact h
  | m :: l, css, h => by
    rw [MlsC_cons] at h ⊢
    obtain ⟨c, r, h1, h2, h3⟩ := h
    exact ⟨c, r, h1, MlC.keep K m c h2, MlsC.keep K l r h3⟩
end
theorem MlsC.len {w : World} : ∀ (l : List Ml) (css : List (List Value)), MlsC w l css → css.length = l.length
  | [], css, h => by rw [MlsC_nil] at h; subst h; rfl
  | m :: l, css, h => by
    rw [MlsC_cons] at h
    obtain ⟨c, r, rfl, _, h3⟩ := h
    rw [List.length_cons, List.length_cons, MlsC.len l r h3]
theorem MlsC.get {w : World} : ∀ (l : List Ml) (css : List (List Value)), MlsC w l css → ∀ (i : Nat) (m : Ml), l[i]? = some m → ∃ c, css[i]? = some c ∧ MlC w m c
  | x :: l, css, h, i, m, hi => by
    rw [MlsC_cons] at h
    obtain ⟨c, r, rfl, h2, h3⟩ := h
    cases i with
    | zero => simp at hi; subst hi; exact ⟨c, rfl, h2⟩
    | succ i => exact MlsC.get l r h3 i m (by simpa using hi)
end Go.Proofs.YtjbbapodcngnaaaGreatDoor
