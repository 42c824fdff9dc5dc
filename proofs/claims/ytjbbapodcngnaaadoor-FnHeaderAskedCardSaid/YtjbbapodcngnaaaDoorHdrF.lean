/- The specification's scan and the program's parse agree. No program in sight. -/
import Derived.Test.YtjbbapodcngnaaaDoorHdrE
namespace Go.Proofs.YtjbbapodcngnaaaDoor.Hdr

theorem put9_nil {s : HS} (h : s.ls = []) : put9 s = s := by unfold put9; rw [h]
theorem put9_ls (s : HS) : (put9 s).ls = [] := by
  unfold put9
  split
  · assumption
  · rfl
theorem put9_twice (s : HS) : put9 (put9 s) = put9 s := put9_nil (put9_ls s)

/-! ### The first line -/
theorem upto_cons {x : UInt8} {c : List UInt8} (h : x ≠ 10) : upto (x :: c) = x :: upto c := by
  unfold upto; rw [List.takeWhile_cons, if_pos (by simpa using h)]
theorem behind_cons {x : UInt8} {c : List UInt8} (h : x ≠ 10) : behind (x :: c) = behind c := by
  unfold behind; rw [List.dropWhile_cons, if_pos (by simpa using h)]
theorem upto_nl (c : List UInt8) : upto (10 :: c) = [] := by unfold upto; rw [List.takeWhile_cons, if_neg (by simp)]
theorem behind_nl (c : List UInt8) : behind (10 :: c) = 10 :: c := by unfold behind; rw [List.dropWhile_cons, if_neg (by simp)]
theorem chomp_mem {l : List UInt8} {x : UInt8} (h : x ∈ chomp l) : x ∈ l := by rw [chomp_take] at h; exact List.mem_of_mem_take h
theorem chomp_head (x : UInt8) (u : List UInt8) (h : chomp (x :: u) ≠ []) : spHead (chomp (x :: u)) = sp x := by
  have h2 := chomp_take (x :: u)
  cases hn : (chomp (x :: u)).length with
  | zero => exact absurd (List.length_eq_zero_iff.1 hn) h
  | succ n =>
    rw [hn] at h2
    rw [h2]
    rfl
theorem line1_head {c : List UInt8} (h : (line1 c).1 ≠ []) : spHead (line1 c).1 = spHead c := by
  cases c with
  | nil => rfl
  | cons x c =>
    by_cases hx : x = 10
    · subst hx
      exfalso
      apply h
      rw [line1_nl (behind_nl c), upto_nl]
      rfl
    · cases hb : behind (x :: c) with
      | nil => rw [line1_end hb]
      | cons y r =>
        rw [line1_nl hb, upto_cons hx] at h ⊢
        exact chomp_head x _ h
theorem line1_no (c : List UInt8) : (10 : UInt8) ∉ (line1 c).1 := by
  cases hb : behind c with
  | nil =>
    rw [line1_end hb]
    have h1 := upto_no c
    have h2 := split c
    rw [hb, List.append_nil] at h2
    rw [← h2] at h1
    exact h1
  | cons x r =>
    rw [line1_nl hb]
    exact fun h => upto_no c (chomp_mem h)
theorem line1_sp {c : List UInt8} (h : spHead c = true) : (line1 c).1 ≠ [] := by
  cases c with
  | nil => cases h
  | cons x c =>
    have hx : x ≠ 10 := by
      rintro rfl
      exact absurd h (by show ¬ sp 10 = true; decide)
    have hx2 : x ≠ 13 := by
      rintro rfl
      exact absurd h (by show ¬ sp 13 = true; decide)
    cases hb : behind (x :: c) with
    | nil => rw [line1_end hb]; simp
    | cons y r =>
      rw [line1_nl hb, upto_cons hx]
      intro hc
      change chomp (x :: upto c) = [] at hc
      unfold chomp at hc
      split at hc
      · rename_i hl
        cases hu : upto c with
        | nil => rw [hu] at hl; simp at hl; exact hx2 hl
        | cons z u => rw [hu] at hc; simp at hc
      · cases hc

/-! ### The lines that go on -/
def contsL (c : List UInt8) : List (List UInt8) :=
  if _h : spHead c = true then (line1 c).1 :: contsL (line1 c).2 else []
termination_by c.length
decreasing_by exact line1_lt (spHead_ne _h)
theorem contsL_yes {c : List UInt8} (h : spHead c = true) : contsL c = (line1 c).1 :: contsL (line1 c).2 := by rw [contsL, dif_pos h]
theorem contsL_no {c : List UInt8} (h : spHead c = false) : contsL c = [] := by rw [contsL, dif_neg (by rw [h]; decide)]
theorem raws_cons (l : List UInt8) (ls : List (List UInt8)) : raws (l :: ls) = l ++ 13 :: 10 :: raws ls := by simp [raws]

theorem contsL_all (c : List UInt8) : (conts c).1 = raws (contsL c) ∧ (∀ l ∈ contsL c, (10 : UInt8) ∉ l) ∧ spHead (conts c).2 = false := by
  induction hn : c.length using Nat.strongRecOn generalizing c with
  | _ n ih =>
    subst hn
    cases h : spHead c with
    | true =>
      obtain ⟨h1, h2, h3⟩ := ih _ (line1_lt (spHead_ne h)) (line1 c).2 rfl
      rw [conts_yes h, contsL_yes h]
      refine ⟨?_, ?_, h3⟩
      · show (line1 c).1 ++ [13, 10] ++ (conts (line1 c).2).1 = _
        rw [h1, raws_cons]
        simp
      · intro l hl
        rcases List.mem_cons.1 hl with rfl | hl
        · exact line1_no c
        · exact h2 l hl
    | false =>
      rw [conts_no h, contsL_no h]
      exact ⟨rfl, fun l hl => (by cases hl), h⟩

theorem scan9_conts (c : List UInt8) : ∀ s : HS, scan9 s c = none ∨ scan9 s c = scan9 ⟨s.ls ++ contsL c, s.bad, s.fs⟩ (conts c).2 := by
  induction hn : c.length using Nat.strongRecOn generalizing c with
  | _ n ih =>
    subst hn
    intro s
    cases h : spHead c with
    | true =>
      have hl := line1_sp h
      by_cases h13 : (13 : UInt8) ∈ (line1 c).1
      · exact .inl (scan9_ret (spHead_ne h) h13)
      · rw [scan9_more (spHead_ne h) h13 hl]
        have ha : add9 s (line1 c).1 = ⟨s.ls ++ [(line1 c).1], s.bad, s.fs⟩ := by
          unfold add9
          rw [line1_head hl, h, if_pos rfl]
        rw [ha]
        rcases ih _ (line1_lt (spHead_ne h)) (line1 c).2 rfl ⟨s.ls ++ [(line1 c).1], s.bad, s.fs⟩ with h1 | h1
        · exact .inl h1
        · right
          rw [h1, conts_yes h, contsL_yes h]
          simp
    | false =>
      right
      rw [conts_no h, contsL_no h, List.append_nil]

/-! ### A field at a time -/
/-- The scan with the last field put. -/
def fin (s : HS) (c : List UInt8) : Option (HS × List UInt8) := (scan9 s c).map fun r => (put9 r.1, r.2)

theorem fin_put (s : HS) {c : List UInt8} (h : spHead c = false) : fin s c = fin (put9 s) c := by
  unfold fin
  by_cases hc : c = []
  · subst hc
    rw [scan9_nil, scan9_nil]
    simp [put9_twice]
  by_cases h13 : (13 : UInt8) ∈ (line1 c).1
  · rw [scan9_ret hc h13, scan9_ret hc h13]
  by_cases hl : (line1 c).1 = []
  · rw [scan9_end hc hl, scan9_end hc hl]
    simp [put9_twice]
  · rw [scan9_more hc h13 hl, scan9_more hc h13 hl]
    have : add9 s (line1 c).1 = add9 (put9 s) (line1 c).1 := by
      unfold add9
      rw [line1_head hl, h, put9_twice]
      simp
    rw [this]

theorem fin_step (b : Bool) (f : List PF) {c : List UInt8} (hsp : spHead c = false) :
    ((kv c).1 = [] ∧ fin ⟨[], b, f⟩ c = some (⟨[], b, f⟩, (kv c).2)) ∨ fin ⟨[], b, f⟩ c = none ∨
    ∃ l0 ls, (10 : UInt8) ∉ l0 ∧ (∀ l ∈ ls, (10 : UInt8) ∉ l) ∧ (kv c).1 = raws (l0 :: ls) ∧ fin ⟨[], b, f⟩ c = fin (put9 ⟨l0 :: ls, b, f⟩) (kv c).2 ∧ spHead (kv c).2 = false ∧ (kv c).2.length < c.length := by
  by_cases hc : c = []
  · subst hc
    left
    rw [kv_nil]
    exact ⟨rfl, by unfold fin; rw [scan9_nil]; rfl⟩
  by_cases h13 : (13 : UInt8) ∈ (line1 c).1
  · right; left
    unfold fin
    rw [scan9_ret hc h13]
    rfl
  by_cases hl : (line1 c).1 = []
  · left
    unfold fin kv
    rw [scan9_end hc hl, if_pos hl]
    exact ⟨rfl, rfl⟩
  · right
    have ha : add9 ⟨[], b, f⟩ (line1 c).1 = ⟨[(line1 c).1], b, f⟩ := by
      unfold add9
      rw [line1_head hl, hsp]
      rfl
    have hf : fin ⟨[], b, f⟩ c = fin ⟨[(line1 c).1], b, f⟩ (line1 c).2 := by
      unfold fin
      rw [scan9_more hc h13 hl, ha]
    obtain ⟨c1, c2, c3⟩ := contsL_all (line1 c).2
    have hk : kv c = ((line1 c).1 ++ [13, 10] ++ (conts (line1 c).2).1, (conts (line1 c).2).2) := by unfold kv; rw [if_neg hl]
    rcases scan9_conts (line1 c).2 ⟨[(line1 c).1], b, f⟩ with h1 | h1
    · left
      rw [hf]
      unfold fin
      rw [h1]
      rfl
    · right
      refine ⟨(line1 c).1, contsL (line1 c).2, line1_no c, c2, ?_, ?_, ?_, kv_lt ?_⟩
      · rw [hk, raws_cons]
        show (line1 c).1 ++ [13, 10] ++ (conts (line1 c).2).1 = _
        rw [c1]
        simp
      · rw [hf, hk]
        show _ = fin (put9 ⟨(line1 c).1 :: contsL (line1 c).2, b, f⟩) (conts (line1 c).2).2
        rw [← fin_put _ c3]
        unfold fin
        rw [h1]
        rfl
      · rw [hk]; exact c3
      · rw [hk]; simp

/-! ### What a field says -/
theorem mem_dropWhile {p : UInt8 → Bool} {x : UInt8} {l : List UInt8} (hx : x ∈ l) (hs : p x = false) : x ∈ l.dropWhile p := by
  induction l with
  | nil => cases hx
  | cons y l ih =>
    rw [List.dropWhile_cons]
    split
    · rename_i hy
      rcases List.mem_cons.1 hx with rfl | h
      · rw [hs] at hy; cases hy
      · exact ih h
    · exact hx
theorem mem_trim {x : UInt8} {l : List UInt8} (hx : x ∈ l) (hs : sp x = false) : x ∈ trim l := by
  unfold trim trimR trimL
  rw [List.mem_reverse]
  exact mem_dropWhile (List.mem_reverse.2 (mem_dropWhile hx hs)) hs

theorem nl_upto {m : List UInt8} (h : (10 : UInt8) ∉ m) (r : List UInt8) : upto (m ++ 10 :: r) = m ∧ behind (m ++ 10 :: r) = 10 :: r := by
  have hp : ∀ x ∈ m, (x != 10) = true := fun x hx => by
    simp only [bne_iff_ne, ne_eq]
    rintro rfl
    exact h hx
  constructor
  · have h2 := upto_nl r
    unfold upto at *
    rw [List.takeWhile_append_of_pos hp, h2, List.append_nil]
  · have h2 := behind_nl r
    unfold behind at *
    rw [List.dropWhile_append_of_pos hp, h2]

theorem joins_raws : ∀ (ls : List (List UInt8)) (a : List UInt8), (∀ l ∈ ls, (10 : UInt8) ∉ l) → joins a (raws ls) = vals a ls
  | [], a, _ => by
    rw [show raws [] = [] from rfl, joins_end rfl, join_nil rfl]
    rfl
  | l :: ls, a, h => by
    have hl : (10 : UInt8) ∉ l ++ [13] := by
      simp only [List.mem_append, List.mem_singleton, not_or]
      exact ⟨h l (List.mem_cons_self ..), by decide⟩
    have e : raws (l :: ls) = (l ++ [13]) ++ 10 :: raws ls := by rw [raws_cons]; simp
    obtain ⟨h1, h2⟩ := nl_upto hl (raws ls)
    have hb : bare (l ++ [13]) = trim l := by unfold bare; rw [chomp_snoc, if_pos rfl]
    have hj : join a (l ++ [13]) = vals1 a l := by unfold join vals1; rw [hb]
    rw [e, joins_nl h2, h1, hj, joins_raws ls _ (fun x hx => h x (List.mem_cons_of_mem _ hx))]
    rfl

/-! ### Keys in canonical form stay -/
theorem cased_nat (up : Bool) (c : UInt8) : (cased up c).toNat = if up = true ∧ 97 ≤ c.toNat ∧ c.toNat ≤ 122 then c.toNat - 32 else if up = false ∧ 65 ≤ c.toNat ∧ c.toNat ≤ 90 then c.toNat + 32 else c.toNat := by
  have := c.toNat_lt
  unfold cased
  split
  · rw [UInt8.toNat_add, UInt8.toNat_sub]
    simp only [UInt8.reduceToNat]
    omega
  · split
    · rw [UInt8.toNat_add, UInt8.toNat_sub]
      simp only [UInt8.reduceToNat]
      omega
    · rfl
theorem cased_cases (up : Bool) (c : UInt8) : (up = true ∧ 97 ≤ c.toNat ∧ c.toNat ≤ 122 ∧ (cased up c).toNat = c.toNat - 32) ∨ (up = false ∧ 65 ≤ c.toNat ∧ c.toNat ≤ 90 ∧ (cased up c).toNat = c.toNat + 32) ∨
    ((up = true → ¬ (97 ≤ c.toNat ∧ c.toNat ≤ 122)) ∧ (up = false → ¬ (65 ≤ c.toNat ∧ c.toNat ≤ 90)) ∧ (cased up c).toNat = c.toNat) := by
  rw [cased_nat]
  by_cases h1 : up = true ∧ 97 ≤ c.toNat ∧ c.toNat ≤ 122
  · rw [if_pos h1]
    exact .inl ⟨h1.1, h1.2.1, h1.2.2, rfl⟩
  · rw [if_neg h1]
    by_cases h2 : up = false ∧ 65 ≤ c.toNat ∧ c.toNat ≤ 90
    · rw [if_pos h2]
      exact .inr (.inl ⟨h2.1, h2.2.1, h2.2.2, rfl⟩)
    · rw [if_neg h2]
      exact .inr (.inr ⟨fun h h3 => h1 ⟨h, h3⟩, fun h h3 => h2 ⟨h, h3⟩, rfl⟩)
theorem cased_cased (up : Bool) (c : UInt8) : cased up (cased up c) = cased up c := by
  apply UInt8.toNat.inj
  have h1 := cased_cases up c
  have h2 := cased_cases up (cased up c)
  cases up
  · simp only [Bool.false_eq_true, false_and, false_or, false_implies, true_and, forall_const] at h1 h2
    omega
  · simp only [Bool.true_eq_false, false_and, false_or, false_implies, true_and, forall_const] at h1 h2
    omega
theorem eq45 (c : UInt8) : (c == 45) = decide (c.toNat = 45) := by
  rw [Bool.eq_iff_iff]
  simp only [beq_iff_eq, decide_eq_true_eq]
  exact ⟨fun h => by rw [h]; rfl, fun h => UInt8.toNat.inj h⟩
theorem cased_dash (up : Bool) (c : UInt8) : (cased up c == 45) = (c == 45) := by
  rw [eq45, eq45, Bool.eq_iff_iff]
  simp only [decide_eq_true_eq]
  have h1 := cased_cases up c
  omega
theorem tok_cased (up : Bool) (c : UInt8) : tok (cased up c) = tok c := by
  unfold tok
  rw [Bool.eq_iff_iff]
  simp only [decide_eq_true_eq]
  have h1 := cased_cases up c
  generalize (cased up c).toNat = m at *
  generalize c.toNat = n at *
  unfold tokN signN
  rcases h1 with h | h | h
  · omega
  · omega
  · rw [h.2.2]
theorem canonGo_twice : ∀ (l : List UInt8) (up : Bool), canonGo up (canonGo up l) = canonGo up l
  | [], _ => rfl
  | c :: l, up => by
    show cased up (cased up c) :: canonGo (cased up c == 45) (canonGo (c == 45) l) = cased up c :: canonGo (c == 45) l
    rw [cased_cased, cased_dash, canonGo_twice l]
theorem canonGo_tok : ∀ (l : List UInt8) (up : Bool), (canonGo up l).all tok = l.all tok
  | [], _ => rfl
  | c :: l, up => by
    show (tok (cased up c) && (canonGo (c == 45) l).all tok) = (tok c && l.all tok)
    rw [tok_cased, canonGo_tok l]
theorem canon_canon (l : List UInt8) : canon (canon l) = canon l := by
  by_cases h : l.all tok = true
  · have e : canon l = canonGo true l := by unfold canon; rw [if_pos h]
    rw [e]
    unfold canon
    rw [canonGo_tok, if_pos h, canonGo_twice]
  · have e : canon l = l := by unfold canon; rw [if_neg h]
    rw [e, e]

/-! ### A field, in both -/
theorem drop_ahead {a d l : List UInt8} (h : l = a ++ 58 :: d) : l.drop (a.length + 1) = d := by
  subst h
  rw [show a.length + 1 = (a ++ [58]).length by simp, show a ++ 58 :: d = (a ++ [58]) ++ d by simp, List.drop_left]

theorem field_rh (l0 : List UInt8) (ls : List (List UInt8)) (c : List UInt8) (hkv : (kv c).1 = raws (l0 :: ls)) (h0 : (10 : UInt8) ∉ l0) (hls : ∀ l ∈ ls, (10 : UInt8) ∉ l) :
    (okOf l0 = false → rh c = none) ∧ (okOf l0 = true → trim (tillC l0) = [] → rh c = rh (kv c).2) ∧
    (okOf l0 = true → trim (tillC l0) ≠ [] → rh c = (rh (kv c).2).map fun r => (pfOf l0 ls :: r.1, r.2)) := by
  have hne : (kv c).1 ≠ [] := by rw [hkv, raws_cons]; simp
  have hno := colon_no l0
  by_cases hcol : (58 : UInt8) ∈ l0
  · obtain ⟨d, hd⟩ : ∃ d, l0 = tillC l0 ++ 58 :: d := by
      have h1 := colon_split l0
      cases hd : l0.dropWhile (· != 58) with
      | nil =>
        rw [hd, List.append_nil] at h1
        rw [← h1] at hno
        exact absurd hcol hno
      | cons x d =>
        have := colon_head hd
        subst this
        rw [hd] at h1
        exact ⟨d, h1⟩
    have hdrop := drop_ahead hd
    have hp : ∀ x ∈ tillC l0, (x != 58) = true := fun x hx => by
      simp only [bne_iff_ne, ne_eq]
      rintro rfl
      exact hno hx
    have hk : (kv c).1 = tillC l0 ++ 58 :: raws (d :: ls) := by
      rw [hkv, raws_cons, raws_cons]
      conv => lhs; rw [hd]
      simp
    have ht : (kv c).1.takeWhile (· != 58) = tillC l0 := by
      rw [hk, List.takeWhile_append_of_pos hp, List.takeWhile_cons, if_neg (by simp), List.append_nil]
    have hdw : (kv c).1.dropWhile (· != 58) = 58 :: raws (d :: ls) := by
      rw [hk, List.dropWhile_append_of_pos hp, List.dropWhile_cons, if_neg (by simp)]
    have hal : (tillC l0).length ≠ l0.length := by
      have := congrArg List.length hd
      simp at this
      omega
    have hok : okOf l0 = (trim (tillC l0)).all keyb := by unfold okOf; rw [decide_eq_false hal]; rfl
    have hdl : ∀ l ∈ d :: ls, (10 : UInt8) ∉ l := by
      intro l hl
      rcases List.mem_cons.1 hl with rfl | hl
      · intro h
        apply h0
        rw [hd]
        simp [h]
      · exact hls l hl
    refine ⟨fun h => ?_, fun _ h => ?_, fun h1 h2 => ?_⟩
    · exact rh_bad hne hdw (by rw [ht, ← hok, h])
    · exact rh_skip hne hdw (by rw [ht, h])
    · rw [rh_more hne hdw (by rw [ht, ← hok, h1]) (by rw [ht]; exact h2), ht, joins_raws _ _ hdl, canon_canon, hkv]
      unfold pfOf
      rw [hdrop]
  · have ha := tillC_none hcol
    have hok : okOf l0 = false := by unfold okOf; rw [ha, decide_eq_true rfl]; rfl
    refine ⟨fun _ => ?_, fun h => (by rw [hok] at h; cases h), fun h => (by rw [hok] at h; cases h)⟩
    cases hdw : (kv c).1.dropWhile (· != 58) with
    | nil => exact rh_no hne hdw
    | cons x b =>
      refine rh_bad hne hdw ?_
      have hp : ∀ x ∈ l0, (x != 58) = true := fun x hx => by
        simp only [bne_iff_ne, ne_eq]
        rintro rfl
        exact hcol hx
      have hm : (13 : UInt8) ∈ (kv c).1.takeWhile (· != 58) := by
        rw [hkv, raws_cons, List.takeWhile_append_of_pos hp, List.takeWhile_cons, if_pos (by decide)]
        simp
      have hm2 := mem_trim hm (by decide)
      cases hq : (trim ((kv c).1.takeWhile (· != 58))).all keyb with
      | false => rfl
      | true =>
        rw [List.all_eq_true] at hq
        exact absurd (hq _ hm2) (by decide)

/-! ### The whole -/
theorem fin_bad (c : List UInt8) : spHead c = false → ∀ f s' r, fin ⟨[], true, f⟩ c = some (s', r) → s'.bad = true := by
  induction hn : c.length using Nat.strongRecOn generalizing c with
  | _ n ih =>
    subst hn
    intro hsp f s' r h
    rcases fin_step true f hsp with ⟨_, h2⟩ | h2 | ⟨l0, ls, _, _, _, h5, h6, h7⟩
    · rw [h2] at h
      cases h
      rfl
    · rw [h2] at h; cases h
    · rw [h5] at h
      exact ih _ h7 _ rfl h6 _ _ _ h

theorem fin_rh (c : List UInt8) : spHead c = false → ∀ b f s' r, fin ⟨[], b, f⟩ c = some (s', r) → (rh c = none → s'.bad = true) ∧ (∀ ps r', rh c = some (ps, r') → r' = r ∧ s'.fs = f ++ ps ∧ s'.bad = b) := by
  induction hn : c.length using Nat.strongRecOn generalizing c with
  | _ n ih =>
    subst hn
    intro hsp b f s' r h
    rcases fin_step b f hsp with ⟨h1, h2⟩ | h2 | ⟨l0, ls, h1, h2, h3, h5, h6, h7⟩
    · rw [h2] at h
      cases h
      rw [rh_end h1]
      refine ⟨fun h => (by cases h), fun ps r' h => ?_⟩
      cases h
      exact ⟨rfl, by simp, rfl⟩
    · rw [h2] at h; cases h
    · rw [h5] at h
      obtain ⟨f1, f2, f3⟩ := field_rh l0 ls c h3 h1 h2
      have hput : put9 ⟨l0 :: ls, b, f⟩ = ⟨[], b || !okOf l0, if okOf l0 = true ∧ trim (tillC l0) ≠ [] then f ++ [pfOf l0 ls] else f⟩ := rfl
      rw [hput] at h
      cases hok : okOf l0 with
      | false =>
        rw [hok] at h
        have hb := fin_bad _ h6 _ _ _ (by simpa using h)
        rw [f1 hok]
        exact ⟨fun _ => hb, fun ps r' h => (by cases h)⟩
      | true =>
        rw [hok] at h
        by_cases ht : trim (tillC l0) = []
        · simp only [ht, ne_eq, not_true_eq_false, and_false, if_false, Bool.not_true, Bool.or_false] at h
          rw [f2 hok ht]
          exact ih _ h7 _ rfl h6 b f s' r h
        · simp only [ht, ne_eq, not_false_eq_true, and_true, if_true, Bool.not_true, Bool.or_false] at h
          obtain ⟨g1, g2⟩ := ih _ h7 _ rfl h6 b _ s' r h
          rw [f3 hok ht]
          refine ⟨fun hq => g1 ?_, fun ps r' hq => ?_⟩
          · cases hr : rh (kv c).2 with
            | none => rfl
            | some x => rw [hr] at hq; cases hq
          · cases hr : rh (kv c).2 with
            | none => rw [hr] at hq; cases hq
            | some x =>
              obtain ⟨ps2, r2⟩ := x
              rw [hr] at hq
              simp only [Option.map_some, Option.some.injEq, Prod.mk.injEq] at hq
              obtain ⟨rfl, rfl⟩ := hq
              obtain ⟨k1, k2, k3⟩ := g2 _ _ hr
              exact ⟨k1, by rw [k2]; simp, k3⟩

/-- Where the specification is sure, the program answers the same. -/
theorem h9_rhd (c : List UInt8) (h : (h9 c).sure = true) : (rhd c = none → (h9 c).ok = false) ∧ (∀ ps r, rhd c = some (ps, r) → (h9 c).ok = true ∧ (h9 c).fs = ps ∧ (h9 c).taken = c.length - r.length) := by
  unfold rhd
  cases hsp : spHead c with
  | true =>
    rw [if_pos rfl]
    unfold h9
    rw [hsp, if_pos rfl]
    exact ⟨fun _ => rfl, fun ps r h => (by cases h)⟩
  | false =>
    rw [if_neg (by decide)]
    unfold h9 at h ⊢
    rw [hsp, if_neg (by decide)] at h
    rw [hsp, if_neg (by decide)]
    cases hs : scan9 ⟨[], false, []⟩ c with
    | none => rw [hs] at h; cases h
    | some x =>
      obtain ⟨s, r⟩ := x
      have hf : fin ⟨[], false, []⟩ c = some (put9 s, r) := by unfold fin; rw [hs]; rfl
      obtain ⟨g1, g2⟩ := fin_rh c hsp _ _ _ _ hf
      refine ⟨fun h => ?_, fun ps r' h => ?_⟩
      · show (!(put9 s).bad) = false
        rw [g1 h]; rfl
      · obtain ⟨rfl, k2, k3⟩ := g2 ps r' h
        refine ⟨?_, ?_, rfl⟩
        · show (!(put9 s).bad) = true
          rw [k3]; rfl
        · show (put9 s).fs = ps
          rw [k2]; rfl

theorem rh_len (c : List UInt8) : ∀ ps r, rh c = some (ps, r) → ps.length + r.length ≤ c.length := by
  induction hn : c.length using Nat.strongRecOn generalizing c with
  | _ n ih =>
    subst hn
    intro ps r h
    by_cases hk : (kv c).1 = []
    · rw [rh_end hk] at h
      cases h
      have := (kv_len c).2
      simpa using this
    · have hlt := kv_lt hk
      cases hd : (kv c).1.dropWhile (· != 58) with
      | nil => rw [rh_no hk hd] at h; cases h
      | cons x b =>
        cases ha : (trim ((kv c).1.takeWhile (· != 58))).all keyb with
        | false => rw [rh_bad hk hd ha] at h; cases h
        | true =>
          by_cases ht : trim ((kv c).1.takeWhile (· != 58)) = []
          · rw [rh_skip hk hd ht] at h
            have := ih _ hlt _ rfl ps r h
            omega
          · rw [rh_more hk hd ha ht] at h
            cases hr : rh (kv c).2 with
            | none => rw [hr] at h; cases h
            | some y =>
              obtain ⟨ps2, r2⟩ := y
              rw [hr] at h
              simp only [Option.map_some, Option.some.injEq, Prod.mk.injEq] at h
              obtain ⟨rfl, rfl⟩ := h
              have := ih _ hlt _ rfl ps2 r2 hr
              simp only [List.length_cons]
              omega
theorem rhd_len {c : List UInt8} {ps : List PF} {r : List UInt8} (h : rhd c = some (ps, r)) : ps.length + r.length ≤ c.length := by
  unfold rhd at h
  split at h
  · cases h
  · exact rh_len c ps r h
theorem short_of_len {c : List UInt8} (h : c.length ≤ 4000) : Short c := by
  intro b hb
  have h1 := List.IsSuffix.length_le hb
  have h2 := congrArg List.length (split b)
  simp at h2
  omega

/-- 'A: b', and the empty line. -/
theorem rhd_ab : ∃ ps, rhd [65, 58, 32, 98, 13, 10, 13, 10] = some (ps, []) := by
  have k1 : kv [65, 58, 32, 98, 13, 10, 13, 10] = ([65, 58, 32, 98, 13, 10], [13, 10]) := by
    have h : line1 [65, 58, 32, 98, 13, 10, 13, 10] = ([65, 58, 32, 98], [13, 10]) := by decide
    unfold kv
    rw [h]
    simp only
    rw [conts_no (by decide)]
    rfl
  have k2 : kv [13, 10] = ([], []) := by
    have h : line1 [13, 10] = ([], []) := by decide
    unfold kv
    rw [h]
    rfl
  unfold rhd
  rw [if_neg (by decide), rh_more (x := 58) (b := [32, 98, 13, 10]) (by rw [k1]; decide) (by rw [k1]; decide) (by rw [k1]; decide) (by rw [k1]; decide), k1]
  simp only
  rw [rh_end (by rw [k2]), k2]
  exact ⟨_, rfl⟩
end Go.Proofs.YtjbbapodcngnaaaDoor.Hdr
