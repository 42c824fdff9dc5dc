/- What is written is read again: fields as lines. No program in sight. What the steps of a script do to fields, in plain lists. stepped. headerField.raw of a field that has no bytes. From a header that was read to one that may be changed, and back. A script in plain lists: what it keeps of the fields. spec: bytes9 of any field, told9, written9, without9. Steps in memory. spec: stepped9. spec: Token9. -/
import Derived.Test.YtjbbapodcngnaaaGreatDoorZqaa
import Derived.Test.YtjbbapodcngnaaaGreatDoorZqaf
import Derived.Test.YtjbbapodcngnaaaGreatDoorZqad
import Derived.Laws.RangeAny
import Derived.Laws.AppendOwnNone
namespace Go.Proofs.YtjbbapodcngnaaaGreatDoor.Hdr

/-- Bytes that are a field's lines. -/
def Lines (b l0 : List UInt8) (ls : List (List UInt8)) : Prop :=
  b = raws (l0 :: ls) ∧ (10 : UInt8) ∉ l0 ∧ (∀ l ∈ ls, (10 : UInt8) ∉ l ∧ spHead l = true) ∧ l0 ≠ [] ∧ spHead l0 = false

theorem line1_crlf (l r : List UInt8) (h : (10 : UInt8) ∉ l) : line1 (l ++ 13 :: 10 :: r) = (l, r) := by
  have hl : (10 : UInt8) ∉ l ++ [13] := by
    simp only [List.mem_append, List.mem_singleton, not_or]
    exact ⟨h, by decide⟩
  obtain ⟨h1, h2⟩ := nl_upto hl r
  have e : l ++ 13 :: 10 :: r = (l ++ [13]) ++ 10 :: r := by simp
  rw [e, line1_nl h2, h1, chomp_snoc, if_pos rfl]
theorem conts_raws : ∀ (ls : List (List UInt8)) (r : List UInt8), (∀ l ∈ ls, (10 : UInt8) ∉ l ∧ spHead l = true) → spHead r = false → conts (raws ls ++ r) = (raws ls, r)
  | [], r, _, hr => by
    rw [show raws [] = [] from rfl, List.nil_append, conts_no hr]
  | l :: ls, r, h, hr => by
    obtain ⟨h1, h2⟩ := h l (List.mem_cons_self ..)
    have e : raws (l :: ls) ++ r = l ++ 13 :: 10 :: (raws ls ++ r) := by rw [raws_cons]; simp
    have hs : spHead (raws (l :: ls) ++ r) = true := by
      rw [e]
      cases l with
      | nil => cases h2
      | cons x l => exact h2
    rw [conts_yes hs, e, line1_crlf _ _ h1, conts_raws ls r (fun x hx => h x (List.mem_cons_of_mem _ hx)) hr, raws_cons]
    simp
theorem kv_lines {b l0 : List UInt8} {ls : List (List UInt8)} (h : Lines b l0 ls) {r : List UInt8} (hr : spHead r = false) : kv (b ++ r) = (b, r) := by
  obtain ⟨rfl, h1, h2, h3, h4⟩ := h
  have e : raws (l0 :: ls) ++ r = l0 ++ 13 :: 10 :: (raws ls ++ r) := by rw [raws_cons]; simp
  have hl := line1_crlf l0 (raws ls ++ r) h1
  unfold kv
  rw [e, hl, conts_raws ls r h2 hr]
  simp only [if_neg h3]
  rw [raws_cons]
  simp

/-- Bytes that are read as one field of this key. -/
def Wr (N : Nat) (k b : List UInt8) : Prop := ∃ l0 ls, Lines b l0 ls ∧ okOf l0 = true ∧ trim (tillC l0) ≠ [] ∧ canon (trim (tillC l0)) = k ∧ ∀ l ∈ l0 :: ls, l.length ≤ N
theorem Wr.mono {N M : Nat} {k b : List UInt8} (h : Wr N k b) (hn : N ≤ M) : Wr M k b := by
  obtain ⟨l0, ls, h1, h2, h3, h4, h5⟩ := h
  exact ⟨l0, ls, h1, h2, h3, h4, fun l hl => Nat.le_trans (h5 l hl) hn⟩

theorem Lines.head {b l0 : List UInt8} {ls : List (List UInt8)} (h : Lines b l0 ls) (r : List UInt8) : spHead (b ++ r) = false := by
  obtain ⟨rfl, h1, h2, h3, h4⟩ := h
  rw [raws_cons]
  cases l0 with
  | nil => exact absurd rfl h3
  | cons x l => exact h4
theorem rh_written (N : Nat) : ∀ (l : List (List UInt8 × List UInt8)), (∀ x ∈ l, Wr N x.1 x.2) → spHead (l.flatMap (·.2) ++ [13, 10]) = false ∧ ∃ ps, rh (l.flatMap (·.2) ++ [13, 10]) = some (ps, []) ∧ ps.map (fun p => (p.k, p.raw)) = l
  | [], _ => by
    refine ⟨by decide, [], ?_, rfl⟩
    have h := line1_crlf [] [] (by simp)
    have hk : kv [13, 10] = ([], []) := by
      unfold kv
      rw [show ([13, 10] : List UInt8) = [] ++ 13 :: 10 :: [] from rfl, h]
      simp
    show rh [13, 10] = _
    rw [rh_end (by rw [hk]), hk]
  | x :: l, h => by
    obtain ⟨hs, ps, h1, h2⟩ := rh_written N l (fun y hy => h y (List.mem_cons_of_mem _ hy))
    obtain ⟨l0, ls, hL, hok, hne, hk, _⟩ := h x (List.mem_cons_self ..)
    have e : (x :: l).flatMap (·.2) ++ [13, 10] = x.2 ++ (l.flatMap (·.2) ++ [13, 10]) := by simp
    have hkv := kv_lines hL hs
    refine ⟨by rw [e]; exact hL.head _, pfOf l0 ls :: ps, ?_, ?_⟩
    · rw [e, (field_rh l0 ls _ (by rw [hkv]; exact hL.1) hL.2.1 (fun y hy => (hL.2.2.1 y hy).1)).2.2 hok hne, hkv]
      simp only
      rw [h1]
      rfl
    · rw [List.map_cons, h2]
      unfold pfOf
      simp only [hk, ← hL.1]

/-! ### Fields that were read -/
theorem contsL_sp (c : List UInt8) : ∀ l ∈ contsL c, spHead l = true := by
  induction hn : c.length using Nat.strongRecOn generalizing c with
  | _ n ih =>
    subst hn
    intro l hl
    cases h : spHead c with
    | true =>
      rw [contsL_yes h] at hl
      rcases List.mem_cons.1 hl with rfl | hl
      · rw [line1_head (line1_sp h), h]
      · exact ih _ (line1_lt (spHead_ne h)) _ rfl l hl
    | false =>
      rw [contsL_no h] at hl
      cases hl
theorem contsL_len (c : List UInt8) : ∀ l ∈ contsL c, l.length ≤ c.length := by
  induction hn : c.length using Nat.strongRecOn generalizing c with
  | _ n ih =>
    subst hn
    intro l hl
    cases h : spHead c with
    | true =>
      have h1 := line1_lt (spHead_ne h)
      have h2 := line1_len c
      rw [contsL_yes h] at hl
      rcases List.mem_cons.1 hl with rfl | hl
      · omega
      · have := ih _ h1 _ rfl l hl
        omega
    | false =>
      rw [contsL_no h] at hl
      cases hl
theorem kv_open {c : List UInt8} (hc : spHead c = false) (h : (kv c).1 ≠ []) : Lines (kv c).1 (line1 c).1 (contsL (line1 c).2) ∧ spHead (kv c).2 = false := by
  obtain ⟨h1, h2, h3⟩ := contsL_all (line1 c).2
  by_cases hl : (line1 c).1 = []
  · unfold kv at h
    rw [if_pos hl] at h
    exact absurd rfl h
  · have hk : kv c = ((line1 c).1 ++ [13, 10] ++ (conts (line1 c).2).1, (conts (line1 c).2).2) := by unfold kv; rw [if_neg hl]
    rw [hk]
    refine ⟨⟨?_, line1_no c, fun l hl => ⟨h2 l hl, contsL_sp _ l hl⟩, hl, by rw [line1_head hl, hc]⟩, h3⟩
    simp only
    rw [h1, raws_cons]
    simp
/-- A field that is read: its bytes, its key, its value. -/
def ReadF (N : Nat) (p : PF) : Prop := (Wr N p.k p.raw ∧ p.raw.length ≤ 3 * N + 2) ∧ ∃ A B, p.raw = A ++ 58 :: B ∧ (58 : UInt8) ∉ A ∧ p.k = canon (trim A) ∧ p.v = joins [] B
theorem rh_read (c : List UInt8) : spHead c = false → ∀ ps r, rh c = some (ps, r) → ∀ p ∈ ps, ReadF c.length p := by
  induction hn : c.length using Nat.strongRecOn generalizing c with
  | _ n ih =>
    subst hn
    intro hc ps r h p hp
    by_cases hk : (kv c).1 = []
    · rw [rh_end hk] at h
      cases h
      cases hp
    · obtain ⟨hL, h2⟩ := kv_open hc hk
      have hih := ih _ (kv_lt hk) _ rfl h2
      have hlt := kv_lt hk
      obtain ⟨f1, f2, f3⟩ := field_rh _ _ c hL.1 hL.2.1 (fun y hy => (hL.2.2.1 y hy).1)
      cases hok : okOf (line1 c).1 with
      | false => rw [f1 hok] at h; cases h
      | true =>
        by_cases ht : trim (tillC (line1 c).1) = []
        · rw [f2 hok ht] at h
          have := hih ps r h p hp
          have h1 := this.1.2
          exact ⟨⟨this.1.1.mono (by omega), by omega⟩, this.2⟩
        · rw [f3 hok ht] at h
          cases hr : rh (kv c).2 with
          | none => rw [hr] at h; cases h
          | some x =>
            rw [hr] at h
            simp only [Option.map_some, Option.some.injEq, Prod.mk.injEq] at h
            obtain ⟨rfl, rfl⟩ := h
            rcases List.mem_cons.1 hp with rfl | hp
            · refine ⟨⟨⟨(line1 c).1, contsL (line1 c).2, ?_, hok, ht, rfl, fun l hl => ?_⟩, ?_⟩, ?_⟩
              · have e : (pfOf (line1 c).1 (contsL (line1 c).2)).raw = (kv c).1 := hL.1.symm
                rw [e]
                exact hL
              · have h3 := line1_len c
                rcases List.mem_cons.1 hl with rfl | hl
                · omega
                · have := contsL_len _ l hl
                  omega
              · have e : (pfOf (line1 c).1 (contsL (line1 c).2)).raw = (kv c).1 := hL.1.symm
                rw [e]
                exact (kv_len c).1
              · have e : (pfOf (line1 c).1 (contsL (line1 c).2)).raw = (kv c).1 := hL.1.symm
                have hs := colon_split (kv c).1
                cases hd : (kv c).1.dropWhile (· != 58) with
                | nil =>
                  have := rh_no hk hd
                  rw [f3 hok ht, hr] at this
                  cases this
                | cons y b =>
                  have hy := colon_head hd
                  subst hy
                  rw [hd] at hs
                  have hq : (trim ((kv c).1.takeWhile (· != 58))).all keyb = true := by
                    cases hq : (trim ((kv c).1.takeWhile (· != 58))).all keyb with
                    | true => rfl
                    | false =>
                      have := rh_bad hk hd hq
                      rw [f3 hok ht, hr] at this
                      cases this
                  have hm : trim ((kv c).1.takeWhile (· != 58)) ≠ [] := fun hm => by
                    have := rh_skip hk hd hm
                    rw [f3 hok ht, hr] at this
                    have := congrArg (fun o => (o.map fun q : List PF × List UInt8 => q.1.length)) this
                    simp at this
                  have := rh_more hk hd hq hm
                  rw [f3 hok ht, hr] at this
                  simp only [Option.map_some, Option.some.injEq, Prod.mk.injEq, List.cons.injEq, and_true] at this
                  refine ⟨_, b, by rw [e]; exact hs, colon_no _, ?_, ?_⟩
                  · rw [this]
                    exact canon_canon _
                  · rw [this]
            · have := hih x.1 x.2 hr p hp
              have h1 := this.1.2
              exact ⟨⟨this.1.1.mono (by omega), by omega⟩, this.2⟩
theorem rhd_read {c : List UInt8} {ps : List PF} {r : List UInt8} (h : rhd c = some (ps, r)) : ∀ p ∈ ps, ReadF c.length p := by
  unfold rhd at h
  split at h
  · cases h
  · rename_i hc
    exact rh_read c (by simpa using hc) ps r h

/-! ### Fields that are folded -/
theorem foldGo_lines (v : List UInt8) : ∀ (ahead : Nat) (pre : List UInt8), v ≠ [] → ahead ≤ 990 → (10 : UInt8) ∉ pre → (10 : UInt8) ∉ v →
    ∃ t ls, pre ++ foldGo ahead v = raws ((pre ++ v.take 1 ++ t) :: ls) ∧ (10 : UInt8) ∉ t ∧ t.length < v.length ∧ ∀ l ∈ ls, ((10 : UInt8) ∉ l ∧ spHead l = true) ∧ l.length ≤ v.length + 1 := by
  induction hn : v.length using Nat.strongRecOn generalizing v with
  | _ n ih =>
    subst hn
    intro ahead pre hv ha hp hx
    have hlt := piece_lt hv ha
    obtain ⟨x, v', rfl⟩ : ∃ x v', v = x :: v' := by
      cases v with
      | nil => exact absurd rfl hv
      | cons x v' => exact ⟨x, v', rfl⟩
    have hx' : (10 : UInt8) ∉ v' := fun h => hx (List.mem_cons_of_mem _ h)
    have hbrk : ∀ room a b, brk (x :: v') room = some (a, b) → (∃ t, a = x :: t ∧ (10 : UInt8) ∉ t ∧ t.length ≤ v'.length) ∧ (b = [] ∨ spHead b = true) := fun room a b hb => by
      unfold brk at hb
      split at hb
      · cases hb
        exact ⟨⟨v', rfl, hx', Nat.le_refl _⟩, .inl rfl⟩
      · split at hb
        · rename_i k hk
          cases hb
          refine ⟨⟨v'.take k, by simp, fun h => hx' (List.mem_of_mem_take h), by simp; omega⟩, ?_⟩
          have h2 := (lastBl_some hk).2
          rw [List.drop_succ_cons]
          cases hd : v'.drop k with
          | nil => exact .inl rfl
          | cons y d =>
            right
            have : (x :: v').getD (k + 1) 0 = y := by
              rw [List.getD_cons_succ, List.getD_eq_getElem?_getD, ← List.head?_drop, hd]
              rfl
            rw [this] at h2
            exact h2
        · cases hb
    have hone : ∀ room a b, brk (x :: v') room = some (a, b) → piece ahead (x :: v') = (a ++ [13, 10], b) → ∃ t ls, pre ++ foldGo ahead (x :: v') = raws ((pre ++ (x :: v').take 1 ++ t) :: ls) ∧ (10 : UInt8) ∉ t ∧ t.length < (x :: v').length ∧ ∀ l ∈ ls, ((10 : UInt8) ∉ l ∧ spHead l = true) ∧ l.length ≤ (x :: v').length + 1 := fun room a b hb hpc => by
      obtain ⟨⟨t, rfl, ht, htl⟩, hb2⟩ := hbrk room a b hb
      rw [foldGo_cons hv ha, hpc]
      rw [hpc] at hlt
      simp only at hlt ⊢
      have hbx : (10 : UInt8) ∉ b := by
        have := piece_no (ahead := ahead) hx
        rw [hpc] at this
        exact this
      by_cases hbn : b = []
      · subst hbn
        refine ⟨t, [], ?_, ht, by simp; omega, fun l hl => by cases hl⟩
        rw [foldGo_nil, raws_cons]
        simp [raws]
      · obtain ⟨t2, ls2, e2, h3, h3l, h4⟩ := ih b.length hlt b rfl 0 [] hbn (by omega) (by simp) hbx
        rw [List.nil_append] at e2
        refine ⟨t, (b.take 1 ++ t2) :: ls2, ?_, ht, by simp; omega, fun l hl => ?_⟩
        · rw [e2, raws_cons (pre ++ List.take 1 (x :: v') ++ t)]
          simp
        · rcases List.mem_cons.1 hl with rfl | hl
          · cases b with
            | nil => exact absurd rfl hbn
            | cons y b' =>
              refine ⟨⟨?_, ?_⟩, by simp at hlt h3l ⊢; omega⟩
              · simp only [List.take_succ_cons, List.take_zero, List.cons_append, List.nil_append, List.mem_cons, not_or]
                exact ⟨fun h => hbx (by rw [h]; exact List.mem_cons_self ..), h3⟩
              · rcases hb2 with hb2 | hb2
                · cases hb2
                · exact hb2
          · have := h4 l hl
            exact ⟨this.1, by omega⟩
    cases h1 : brk (x :: v') (76 - ahead) with
    | some ab =>
      obtain ⟨a, b⟩ := ab
      exact hone _ a b h1 (by unfold piece; rw [h1])
    | none =>
      cases h2 : brk (x :: v') (998 - ahead) with
      | some ab =>
        obtain ⟨a, b⟩ := ab
        exact hone _ a b h2 (by unfold piece; rw [h1]; simp only; rw [h2])
      | none =>
        have hpc : piece ahead (x :: v') = ((x :: v').take (cutN (x :: v') (998 - ahead)) ++ [13, 10, 32], (x :: v').drop (cutN (x :: v') (998 - ahead))) := by
          unfold piece
          rw [h1]
          simp only
          rw [h2]
        have hr := brk_none h2
        have hcut : ∃ c, cutN (x :: v') (998 - ahead) = c + 1 ∧ c + 1 < (x :: v').length := by
          refine ⟨cutN (x :: v') (998 - ahead) - 1, ?_, ?_⟩
          · unfold cutN; split <;> omega
          · unfold cutN; split <;> omega
        obtain ⟨c, hc, hcl⟩ := hcut
        rw [hc] at hpc
        rw [foldGo_cons hv ha, hpc]
        rw [hpc] at hlt
        simp only [List.take_succ_cons, List.drop_succ_cons] at hlt ⊢
        have hbn : v'.drop c ≠ [] := fun h => by
          have := congrArg List.length h
          simp at this hcl
          omega
        obtain ⟨t2, ls2, e2, h3, h3l, h4⟩ := ih _ hlt (v'.drop c) rfl 0 [32] hbn (by omega) (by decide) (fun h => hx' (List.mem_of_mem_drop h))
        refine ⟨v'.take c, ([32] ++ (v'.drop c).take 1 ++ t2) :: ls2, ?_, fun h => hx' (List.mem_of_mem_take h), by simp; omega, fun l hl => ?_⟩
        · rw [raws_cons, ← e2]
          simp
        · rcases List.mem_cons.1 hl with rfl | hl
          · refine ⟨⟨?_, rfl⟩, by simp at hlt h3l ⊢; omega⟩
            simp only [List.cons_append, List.nil_append, List.mem_cons, List.mem_append, not_or]
            exact ⟨by decide, fun h => hx' (List.mem_of_mem_drop (List.mem_of_mem_take h)), h3⟩
          · have := h4 l hl
            exact ⟨this.1, by omega⟩

theorem keyb_not_sp {c : UInt8} (h : keyb c = true) : sp c = false ∧ c ≠ 58 ∧ c ≠ 10 := by
  have h1 := of_decide_eq_true h
  unfold keyN at h1
  refine ⟨?_, ?_, ?_⟩
  · unfold sp
    cases h2 : (c == 32 || c == 9) with
    | false => rfl
    | true =>
      simp only [Bool.or_eq_true, beq_iff_eq] at h2
      rcases h2 with rfl | rfl <;> simp at h1
  · rintro rfl; simp at h1
  · rintro rfl; simp at h1
theorem dropWhile_none {p : UInt8 → Bool} : ∀ {l : List UInt8}, (∀ c ∈ l, p c = false) → l.dropWhile p = l
  | [], _ => rfl
  | c :: l, h => by rw [List.dropWhile_cons, if_neg (by rw [h c (List.mem_cons_self ..)]; decide)]
theorem trim_self {k : List UInt8} (h : ∀ c ∈ k, sp c = false) : trim k = k := by
  unfold trim trimL trimR
  rw [dropWhile_none h, dropWhile_none (fun c hc => h c (List.mem_reverse.1 hc)), List.reverse_reverse]
/-- A folded field is read again. -/
theorem fold_wr (k v : List UInt8) (hk : ∀ c ∈ k, keyb c = true) (hne : k ≠ []) (hkl : k.length ≤ 900) (hc : canon k = k) (hv : (10 : UInt8) ∉ v) : Wr (k.length + v.length + 3) k (fold k v) := by
  have hk10 : (10 : UInt8) ∉ k := fun h => (keyb_not_sp (hk _ h)).2.2 rfl
  have main : ∃ t ls, fold k v = raws ((k ++ [58, 32] ++ t) :: ls) ∧ (10 : UInt8) ∉ t ∧ t.length ≤ v.length ∧ ∀ l ∈ ls, ((10 : UInt8) ∉ l ∧ spHead l = true) ∧ l.length ≤ v.length + 1 := by
    unfold fold
    by_cases h : v = []
    · rw [if_pos h]
      exact ⟨[], [], by simp [raws], by simp, by simp, fun l hl => by cases hl⟩
    · rw [if_neg h]
      obtain ⟨t, ls, e, h1, h1l, h2⟩ := foldGo_lines v (k.length + 2) (k ++ [58, 32]) h (by omega) (by
        simp only [List.mem_append, not_or]
        exact ⟨hk10, by decide⟩) hv
      refine ⟨v.take 1 ++ t, ls, by rw [e]; simp, ?_, by simp; omega, h2⟩
      simp only [List.mem_append, not_or]
      exact ⟨fun h => hv (List.mem_of_mem_take h), h1⟩
  obtain ⟨t, ls, e, h1, h1l, h2⟩ := main
  have htc : tillC (k ++ [58, 32] ++ t) = k := by
    unfold tillC
    rw [List.append_assoc, List.takeWhile_append_of_pos (fun c hc => by simp only [bne_iff_ne, ne_eq]; exact (keyb_not_sp (hk c hc)).2.1)]
    simp
  have htr : trim k = k := trim_self fun c hc => (keyb_not_sp (hk c hc)).1
  refine ⟨_, ls, ⟨e, ?_, fun l hl => (h2 l hl).1, by simp, ?_⟩, ?_, by rw [htc, htr]; exact hne, by rw [htc, htr, hc], fun l hl => ?_⟩
  · simp only [List.mem_append, not_or]
    exact ⟨⟨hk10, by decide⟩, h1⟩
  · cases k with
    | nil => exact absurd rfl hne
    | cons x k => exact (keyb_not_sp (hk x (List.mem_cons_self ..))).1
  · unfold okOf
    rw [htc, htr, List.all_eq_true.2 hk, decide_eq_false (by simp)]
    rfl
  · rcases List.mem_cons.1 hl with rfl | hl
    · simp; omega
    · have := (h2 l hl).2
      omega
/-! ### Lines that are short -/
theorem short_line {l c : List UInt8} (hl : (10 : UInt8) ∉ l) (hn : l.length ≤ 4000) (hc : Short c) : Short (l ++ 13 :: 10 :: c) := by
  intro b hb
  have hl' : (10 : UInt8) ∉ l ++ [13] := by
    simp only [List.mem_append, List.mem_singleton, not_or]
    exact ⟨hl, by decide⟩
  have e : l ++ 13 :: 10 :: c = (l ++ [13]) ++ 10 :: c := by simp
  rw [e] at hb
  obtain ⟨a, ha⟩ := hb
  rcases List.append_eq_append_iff.1 ha with ⟨d, h1, h2⟩ | ⟨d, h1, h2⟩
  · have hd : (10 : UInt8) ∉ d := fun h => hl' (by rw [h1]; exact List.mem_append_right _ h)
    rw [h2, (nl_upto hd c).1]
    have := congrArg List.length h1
    simp at this
    omega
  · cases d with
    | nil =>
      rw [List.nil_append] at h2
      rw [← h2, upto_nl]
      decide
    | cons x d =>
      rw [List.cons_append, List.cons.injEq] at h2
      exact hc b ⟨d, h2.2.symm⟩
theorem short_raws : ∀ (ls : List (List UInt8)) (c : List UInt8), (∀ l ∈ ls, (10 : UInt8) ∉ l ∧ l.length ≤ 4000) → Short c → Short (raws ls ++ c)
  | [], c, _, hc => hc
  | l :: ls, c, h, hc => by
    obtain ⟨h1, h2⟩ := h l (List.mem_cons_self ..)
    rw [raws_cons, List.append_assoc]
    exact short_line h1 h2 (short_raws ls c (fun y hy => h y (List.mem_cons_of_mem _ hy)) hc)
theorem short_written {N : Nat} (hN : N ≤ 4000) : ∀ (l : List (List UInt8 × List UInt8)), (∀ x ∈ l, Wr N x.1 x.2) → Short (l.flatMap (·.2) ++ [13, 10])
  | [], _ => short_of_len (by decide)
  | x :: l, h => by
    obtain ⟨l0, ls, hL, _, _, _, hl⟩ := h x (List.mem_cons_self ..)
    have ih := short_written hN l (fun y hy => h y (List.mem_cons_of_mem _ hy))
    have e : (x :: l).flatMap (·.2) ++ [13, 10] = x.2 ++ (l.flatMap (·.2) ++ [13, 10]) := by simp
    rw [e, hL.1]
    refine short_raws _ _ (fun y hy => ⟨?_, Nat.le_trans (hl y hy) hN⟩) ih
    rcases List.mem_cons.1 hy with rfl | hy
    · exact hL.2.1
    · exact (hL.2.2.1 y hy).1
end Go.Proofs.YtjbbapodcngnaaaGreatDoor.Hdr
namespace Go.Proofs.YtjbbapodcngnaaaGreatDoor
open Go.RowKit Hdr

/-- A field as it is told: its key, its value, its bytes (none: it has none). -/
structure Ab where
  k : List UInt8
  v : List UInt8
  raw : Option (List UInt8)
def Fd.ab (f : Fd) : Ab := ⟨f.k, f.v, f.raw⟩
/-- Without the n-th one of a key. -/
def eraseKey (k : List UInt8) : Nat → List Ab → List Ab
  | _, [] => []
  | n, x :: l => if x.k = k then (if n = 0 then l else x :: eraseKey k (n - 1) l) else x :: eraseKey k n l

theorem filter_ab (fs : List Fd) (k : List UInt8) : (fs.filter (fun f => decide (f.k ≠ k))).map Fd.ab = (fs.map Fd.ab).filter (fun x => decide (x.k ≠ k)) := by
  induction fs with
  | nil => rfl
  | cons f fs ih =>
    by_cases h : f.k = k
    · rw [List.filter_cons_of_neg (by simp [h]), List.map_cons, List.filter_cons_of_neg (by simp [Fd.ab, h]), ih]
    · rw [List.filter_cons_of_pos (by simp [h]), List.map_cons, List.map_cons, List.filter_cons_of_pos (by simp [Fd.ab, h]), ih]
theorem eraseKey_ab : ∀ (fs : List Fd) (k : List UInt8) (n : Nat) (f : Fd), (fs.map (·.blk)).Nodup → (fs.filter (fun h => decide (h.k = k)))[n]? = some f → (fs.filter (fun h => decide (h.blk ≠ f.blk))).map Fd.ab = eraseKey k n (fs.map Fd.ab)
  | [], _, _, _, _, h => by simp at h
  | x :: fs, k, n, f, hN, h => by
    simp only [List.map_cons, List.nodup_cons] at hN
    have hx : ∀ y ∈ fs, y.blk ≠ x.blk := fun y hy e => hN.1 (e ▸ List.mem_map_of_mem (f := Fd.blk) hy)
    by_cases hk : x.k = k
    · rw [List.filter_cons_of_pos (by simp [hk])] at h
      cases n with
      | zero =>
        have hfx : x = f := by simpa using h
        subst hfx
        rw [List.filter_cons_of_neg (by simp), List.filter_eq_self.2 (fun y hy => decide_eq_true (hx y hy)), List.map_cons, eraseKey, if_pos (by simpa [Fd.ab] using hk), if_pos rfl]
      | succ n =>
        rw [List.getElem?_cons_succ] at h
        have hf : f ∈ fs := (List.mem_filter.1 (List.mem_of_getElem? h)).1
        rw [List.filter_cons_of_pos (by simpa using (hx f hf).symm), List.map_cons, List.map_cons, eraseKey, if_pos (by simpa [Fd.ab] using hk), if_neg (by omega), Nat.add_sub_cancel, eraseKey_ab fs k n f hN.2 h]
    · rw [List.filter_cons_of_neg (by simp [hk])] at h
      have hf : f ∈ fs := (List.mem_filter.1 (List.mem_of_getElem? h)).1
      rw [List.filter_cons_of_pos (by simpa using (hx f hf).symm), List.map_cons, List.map_cons, eraseKey, if_neg (by simpa [Fd.ab] using hk), eraseKey_ab fs k n f hN.2 h]

/-- A step: its number, its key, its value, its place. -/
structure St where
  op : Int
  key : List UInt8
  val : List UInt8
  n : Int
/-- It may be done, and what is there then. -/
def stepOk (s : St) (l l' : List Ab) : Prop :=
  (s.op = 1 ∧ l' = ⟨canon s.key, s.val, none⟩ :: l) ∨ (s.op = 2 ∧ l' = ⟨canon s.key, s.val, none⟩ :: l.filter (fun x => decide (x.k ≠ canon s.key))) ∨ (s.op = 3 ∧ l' = l.filter (fun x => decide (x.k ≠ canon s.key))) ∨
    (s.op = 4 ∧ ∃ p r, (h9 s.val).sure = true ∧ rhd s.val = some ([p], r) ∧ p.raw = s.val ∧ l' = ⟨p.k, p.v, some p.raw⟩ :: l) ∨ (s.op = 5 ∧ ∃ m : Nat, s.n = m ∧ m < l.length ∧ l' = l.eraseIdx m) ∨ (s.op = 6 ∧ ∃ m : Nat, s.n = m ∧ m < (l.filter (fun x => decide (x.k = canon s.key))).length ∧ l' = eraseKey (canon s.key) m l)
end Go.Proofs.YtjbbapodcngnaaaGreatDoor
namespace Go.Proofs.YtjbbapodcngnaaaGreatDoor
open Go.RowKit Hdr

/-- What a step leaves. -/
def StepPost (own : List Nat) (hb : Nat) (l' : List Ab) (w : World) (e : Ending) (w' : World) : Prop :=
  e = .returned (.bool true) ∧ ∃ fs', fs'.map Fd.ab = l' ∧ MuTo own hb w w' fs'

theorem HMut.keep_no {w w' : World} {own : List Nat} {hb : Nat} {fs : List Fd} (h : HMut w own hb fs) (k : Keeps No w w') : HMut w' own hb fs := by
  obtain ⟨lb, cap, m, M⟩ := h
  exact ⟨lb, cap, m, M.keep_no k⟩
theorem MuTo.before {own : List Nat} {hb : Nat} {w w1 w2 : World} {fs : List Fd} (h : MuTo own hb w1 w2 fs) (k : Keeps No w w1) : MuTo own hb w w2 fs :=
  h.after k.of_no (fun _ h => .inl h)
theorem step_end {own : List Nat} {hb : Nat} {w w' : World} {fs : List Fd} {f : Fd} {k v : List UInt8} {raw : Option (List UInt8)} {l' : List Ab} (hl : l' = ⟨k, v, raw⟩ :: fs.map Fd.ab) (h1 : f.k = k) (h2 : f.v = v) (h3 : f.raw = raw) (h : MuTo own hb w w' (f :: fs)) : StepPost own hb l' w (.returned (.bool true)) w' :=
  ⟨rfl, f :: fs, by rw [hl, ← h1, ← h2, ← h3]; rfl, h⟩

def stepV (s : St) : Value := .agg #[.int .i64 s.op, str s.key, str s.val, .int .i64 s.n]

/-- '[]byte(s)', and its room. -/
theorem run_bytes_cap (w : World) (l : List UInt8) : ∃ cap W, (convert 9 85 (str l)).run Tryz.prog w = .ok (.slice (some ⟨w.heap.size, 0, none⟩) l.length cap) W ∧ Row W w.heap.size l ∧ l.length ≤ cap ∧ Keeps No w W ∧ W.heap.size = w.heap.size + 1 :=
  ⟨_, _, Lib.run_convert_string_bytes w 9 85 5 ⟨l.toArray⟩ (u := .string) Tryz.underlying9 Tryz.underlying85 Tryz.underlying5, Row.new w ⟨l.toArray⟩, grownCap_ge w l.length 0 5, bytesWorld_keeps w _ _ _, Lib.bytesWorld_size w _ _⟩

theorem erase_ab : ∀ (fs : List Fd) (n : Nat), (fs.map Fd.ab).eraseIdx n = (fs.eraseIdx n).map Fd.ab
  | [], _ => rfl
  | _ :: _, 0 => rfl
  | f :: fs, n + 1 => by
    show f.ab :: (fs.map Fd.ab).eraseIdx n = f.ab :: (fs.eraseIdx n).map Fd.ab
    rw [erase_ab fs n]
/-- An iterator over the fields of a key, and the n-th one taken away. -/
theorem step_del6 (hb ib : Nat) (ck : List UInt8) (w W : World) (fs : List Fd) (own : List Nat) (N : Nat) (f : Fd) (h : HMut w own hb fs) (kA : Keeps No w W) (hB : Blk W ib [.pointer (some ⟨hb, 0, none⟩), str ck, .int .i64 (-1)] 192) (hib : w.heap.size ≤ ib) (hf : (fs.filter (fun h => decide (h.k = ck)))[N]? = some f) (hn : fs.length ≤ 1000000) :
    Calls Tryz.prog 77 #[.iface 190 (.pointer (some ⟨ib, 0, none⟩)), .int .i64 N] W fun e w' => e = .returned (.bool true) ∧ MuTo own hb w w' (fs.filter (fun h => decide (h.blk ≠ f.blk))) := by
  have h2 := h
  obtain ⟨lb, cap, m, M⟩ := h2
  have hno : ib ∉ own := fun hc => by have := M.lt _ hc; omega
  refine (deletedKey_any ib hb N ck fs own W f (h.keep_no kA) hB hno (fun f hf => (M.F f hf).step kA (fun _ _ h => h.elim) (fun x hx => by
    rcases List.mem_cons.1 hx with rfl | hx
    · exact .inr hib
    · exact .inl hx)) hf hn).mono ?_
  rintro e w' ⟨rfl, own', h1, k, ho⟩
  have hs := kA.size
  refine ⟨rfl, own', h1, kA.of_no.trans k (fun i hi hc => ?_), fun x hx => ?_⟩
  · simp only [In, List.mem_cons] at hc ⊢
    rcases hc with rfl | hc
    · omega
    · exact hc
  · rcases ho x hx with h | h
    · exact .inl h
    · exact .inr (by omega)
/-- A new iterator over all fields, and the n-th one taken away. -/
theorem step_del5 (hb : Nat) (W : World) (fs : List Fd) (own : List Nat) (N : Nat) (h : HMut W own hb fs) (hN : N < fs.length) (hn : fs.length ≤ 1000000) :
    Calls Tryz.prog 77 #[.iface 155 (.pointer (some ⟨W.heap.size, 0, none⟩)), .int .i64 N] (W.alloc (.cells #[.pointer (some ⟨hb, 0, none⟩), .int .i64 (-1)] 157)) fun e w' => e = .returned (.bool true) ∧ MuTo own hb W w' (fs.eraseIdx N) := by
  have kA : Keeps No W (W.alloc (.cells #[.pointer (some ⟨hb, 0, none⟩), .int .i64 (-1)] 157)) := (Keeps.refl No W).alloc _
  have h2 := h
  obtain ⟨lb, cap, m, M⟩ := h2
  have hno : W.heap.size ∉ own := fun hc => by have := M.lt _ hc; omega
  refine (deletedAt_any W.heap.size hb N fs own _ (h.keep_no kA) (Blk.new W [.pointer (some ⟨hb, 0, none⟩), .int .i64 (-1)] _) hno (fun f hf => (M.F f hf).step kA (fun _ _ h => h.elim) (fun x hx => by
    rcases List.mem_cons.1 hx with rfl | hx
    · exact .inr (Nat.le_refl _)
    · exact .inl hx)) hN hn).mono ?_
  rintro e w' ⟨rfl, own', h1, k, ho⟩
  have hs := kA.size
  refine ⟨rfl, own', h1, kA.of_no.trans k (fun i hi hc => ?_), fun x hx => ?_⟩
  · simp only [In, List.mem_cons] at hc ⊢
    rcases hc with rfl | hc
    · omega
    · exact hc
  · rcases ho x hx with h | h
    · exact .inl h
    · exact .inr (by omega)

set_option maxRecDepth 100000 in
set_option maxHeartbeats 2000000 in
theorem stepped_any (hb : Nat) (s : St) (fs : List Fd) (l' : List Ab) (own : List Nat) (w : World) (h : HMut w own hb fs) (hs : stepOk s (fs.map Fd.ab) l') (hk : s.op ≠ 5 → s.key.length ≤ 1000000) (hv : s.val.length ≤ 1000000) (hn : fs.length ≤ 1000000) :
    Calls Tryz.prog 53 #[.pointer (some ⟨hb, 0, none⟩), stepV s] w (StepPost own hb l' w) := by
  obtain ⟨op, key, val, n⟩ := s
  unfold stepV
  simp only at hk hv
  have H := Lib.hid h
  clear h
  rcases hs with ⟨hop, hl⟩ | ⟨hop, hl⟩ | ⟨hop, hl⟩ | ⟨hop, p, r, -, hrd, hraw, hl⟩ | ⟨hop, N, hnN, hlt, hl⟩ | ⟨hop, N, hnN, hlt, hl⟩
  · simp only at hop hl
    subst hop
    have hk := hk (by decide)
    have HL := Lib.hid hl
    clear hl
    go_enter Tryz.func53, Tryz.ntmps53
    go_wp2_with (fail)
    refine (Add_any hb key val fs own _ (H.out.keep_no ((Keeps.refl No w).alloc _)) (by omega) hn).mono ?_
    rintro e w1 ⟨rfl, f, h1, h2, h3, h4⟩
    have HR := Lib.hid (step_end HL.out h1 h2 h3 (h4.before ((Keeps.refl No w).alloc _)))
    clear h1 h2 h3 h4
    go_wp2
    go_ret
    exact HR.out
  · simp only at hop hl
    subst hop
    have hk := hk (by decide)
    rw [← filter_ab] at hl
    have HL := Lib.hid hl
    clear hl
    go_enter Tryz.func53, Tryz.ntmps53
    go_wp2_with (fail)
    refine (Set_any hb key val fs own _ (H.out.keep_no ((Keeps.refl No w).alloc _)) (by omega) hn).mono ?_
    rintro e w1 ⟨rfl, f, h1, h2, h3, h4⟩
    have HR := Lib.hid (step_end HL.out h1 h2 h3 (h4.before ((Keeps.refl No w).alloc _)))
    clear h1 h2 h3 h4
    go_wp2
    go_ret
    exact HR.out
  · simp only at hop hl
    subst hop
    have hk := hk (by decide)
    rw [← filter_ab] at hl
    have HL := Lib.hid hl
    clear hl
    go_enter Tryz.func53, Tryz.ntmps53
    go_wp2_with (fail)
    refine (Del_any hb key fs own _ (H.out.keep_no ((Keeps.refl No w).alloc _)) (by omega) hn).mono ?_
    rintro e w1 ⟨rfl, h4⟩
    have HR := Lib.hid (show StepPost own hb l' w (.returned (.bool true)) w1 from ⟨rfl, _, HL.out.symm, h4.before ((Keeps.refl No w).alloc _)⟩)
    clear h4
    go_wp2
    go_ret
    exact HR.out
  · simp only at hop hl hrd hraw
    subst hop
    have hk := hk (by decide)
    obtain ⟨A, B, hval, hA, hpk, hpv⟩ := (rhd_read hrd p (List.mem_singleton.2 rfl)).2
    rw [hraw] at hval hl
    rw [hpk, hpv] at hl
    clear hrd hraw hpk hpv
    have HL := Lib.hid hl
    obtain ⟨cap, W, hcv, hrow, hcap, K, hsz⟩ := run_bytes_cap (w.alloc (.cells #[.int .i64 4, str key, str val, .int .i64 n] 56)) val
    have K1 : Keeps No w W := ((Keeps.refl No w).alloc _).trans' K
    have hkb : w.heap.size + 1 ∉ own := fun hc => by
      obtain ⟨lb, cp, m, M⟩ := H.out
      have := M.lt _ hc
      omega
    have hs1 : (w.alloc (.cells #[.int .i64 4, str key, str val, .int .i64 n] 56)).heap.size = w.heap.size + 1 := by simp
    rw [hs1] at hcv hrow
    have HADD := Lib.hid (AddRaw_any hb (w.heap.size + 1) cap val A B hval hA fs own W (H.out.keep_no K1) hrow.bytes hkb hcap hv hn)
    have HK1 := Lib.hid K1
    clear hl hval hA hrow hcap K hsz K1 hkb hs1
    go_enter Tryz.func53, Tryz.ntmps53
    go_wp2_with (fail)
    refine HADD.out.mono ?_
    rintro e w1 ⟨rfl, f, h1, h2, h3, h4⟩
    have HR := Lib.hid (step_end HL.out h1 h2 h3 (h4.before HK1.out))
    clear h1 h2 h3 h4
    go_wp2
    go_ret
    exact HR.out
  · simp only at hop hl hnN
    subst hop
    subst hnN
    rw [List.length_map] at hlt
    have hl2 : (fs.eraseIdx N).map Fd.ab = l' := by rw [hl]; exact (erase_ab fs N).symm
    have HL := Lib.hid hl2
    have HLT := Lib.hid hlt
    have HBX := Lib.hid (Blk.new w [.int .i64 5, str key, str val, .int .i64 N] 56)
    have hsz1 : (w.alloc (.cells #[.int .i64 5, str key, str val, .int .i64 N] 56)).heap.size = w.heap.size + 1 := by simp
    have kA : Keeps No w (w.alloc (.cells #[.int .i64 5, str key, str val, .int .i64 N] 56)).drew := ((Keeps.refl No w).alloc _).drew
    have D : Calls Tryz.prog 77 #[.iface 155 (.pointer (some ⟨w.heap.size + 1, 0, none⟩)), .int .i64 N] ((w.alloc (.cells #[.int .i64 5, str key, str val, .int .i64 N] 56)).alloc (.cells #[.pointer (some ⟨hb, 0, none⟩), .int .i64 (-1)] 157)).drew (fun e w' => e = .returned (.bool true) ∧ StepPost own hb l' w e w') := by
      have := step_del5 hb (w.alloc (.cells #[.int .i64 5, str key, str val, .int .i64 N] 56)).drew fs own N (H.out.keep_no kA) hlt hn
      rw [show (w.alloc (.cells #[.int .i64 5, str key, str val, .int .i64 N] 56)).drew.heap.size = w.heap.size + 1 by simp] at this
      exact this.mono fun e w' ⟨h1, h2⟩ => ⟨h1, h1, _, hl2, h2.before kA⟩
    have HD := Lib.hid D
    clear hl hl2 hlt hk kA D
    go_enter Tryz.func53, Tryz.ntmps53
    go_upto_region 12 with (fail)
    refine region_segs [([0, 2, 3], 1)] [] 4 (fun W => W.cell? ⟨w.heap.size, 3, none⟩ = some (.int .i64 N)) (by kernel_rfl) (by kernel_rfl) ?_ ?_
    · exact HBX.out.drew.cell 3
    simp only [segPick, List.map_cons, List.map_nil, pick, List.filterMap_cons, List.filterMap_nil, List.getElem?_cons_succ, List.getElem?_cons_zero, List.drop_succ_cons, List.drop_zero]
    rw [wpSegs]
    intro ι F hne hF
    have d1 := fun j => hF j
    clear hF
    repeat (quiet_step (fail))
    refine wpQuiet_nil ?_
    clear d1 hne F ι
    go_wp2_with (fail)
    refine (fields_any hb _).mono ?_
    rintro e w1 ⟨rfl, rfl⟩
    go_wp2
    refine EffPost.intro ((HBX.out.drew.alloc _).cell 3) ?_
    rw [wpSegs]
    intro ι F hne hF
    clear hF
    repeat (quiet_step (fail))
    refine wpQuiet_nil ?_
    clear hne F ι
    go_wp2_with (fail)
    refine HD.out.mono ?_
    rintro e w2 ⟨rfl, hp⟩
    have HP := Lib.hid hp
    clear hp
    go_wp2
    go_ret
    exact HP.out
  · simp only at hop hl hnN
    subst hop
    subst hnN
    have hk := hk (by decide)
    obtain ⟨f, hf, hl2⟩ : ∃ f, (fs.filter (fun h => decide (h.k = canon key)))[N]? = some f ∧ (fs.filter (fun h => decide (h.blk ≠ f.blk))).map Fd.ab = l' := by
      have hlen : N < (fs.filter (fun h => decide (h.k = canon key))).length := by
        have h1 : (fs.map Fd.ab).filter (fun x => decide (x.k = canon key)) = (fs.filter (fun h => decide (h.k = canon key))).map Fd.ab := by
          rw [List.filter_map]
          rfl
        rw [h1, List.length_map] at hlt
        exact hlt
      obtain ⟨lb, cap, m, M⟩ := H.out
      have hg := List.getElem?_eq_getElem hlen
      exact ⟨_, hg, by rw [hl]; exact eraseKey_ab fs (canon key) N _ M.N hg⟩
    have HBX := Lib.hid (Blk.new w [.int .i64 6, str key, str val, .int .i64 N] 56)
    have kA : Keeps No w (w.alloc (.cells #[.int .i64 6, str key, str val, .int .i64 N] 56)).drew := ((Keeps.refl No w).alloc _).drew
    have D : ∀ ib w1, (w.alloc (.cells #[.int .i64 6, str key, str val, .int .i64 N] 56)).drew.heap.size ≤ ib → Blk w1 ib [.pointer (some ⟨hb, 0, none⟩), str (canon key), .int .i64 (-1)] 192 → Keeps No (w.alloc (.cells #[.int .i64 6, str key, str val, .int .i64 N] 56)).drew w1 →
        Calls Tryz.prog 77 #[.iface 190 (.pointer (some ⟨ib, 0, none⟩)), .int .i64 N] w1 (fun e w' => e = .returned (.bool true) ∧ StepPost own hb l' w e w') := fun ib w1 hib hB K => by
      have hib' : w.heap.size ≤ ib := Nat.le_trans kA.size hib
      exact (step_del6 hb ib (canon key) w w1 fs own N f H.out (kA.trans' K) hB hib' hf hn).mono fun e w' ⟨h1, h2⟩ => ⟨h1, h1, _, hl2, h2⟩
    have HD := Lib.hid D
    clear hl hl2 hlt hf D kA
    go_enter Tryz.func53, Tryz.ntmps53
    go_upto_region 14 with (fail)
    refine region_segs [([0, 1, 2, 4, 5], 3)] [] 6 (fun W => W.cell? ⟨w.heap.size, 1, none⟩ = some (str key) ∧ W.cell? ⟨w.heap.size, 3, none⟩ = some (.int .i64 N)) (by kernel_rfl) (by kernel_rfl) ?_ ?_
    · exact ⟨HBX.out.drew.cell 1, HBX.out.drew.cell 3⟩
    simp only [segPick, List.map_cons, List.map_nil, pick, List.filterMap_cons, List.filterMap_nil, List.getElem?_cons_succ, List.getElem?_cons_zero, List.drop_succ_cons, List.drop_zero]
    rw [wpSegs]
    intro ι F hne hF
    have d1 := fun j => (hF j).1
    have d2 := fun j => (hF j).2
    clear hF
    repeat (quiet_step (fail))
    refine wpQuiet_nil ?_
    clear d1 d2 hne F ι
    go_wp2_with (fail)
    refine (byKey_any hb key _ (by omega)).mono ?_
    rintro e w1 ⟨ib, rfl, hib, hB, K⟩
    have HD1 := Lib.hid (HD.out ib w1 hib hB K)
    have HBX1 := Lib.hid (HBX.out.drew.keep_no K)
    clear hib hB K
    go_wp2
    refine EffPost.intro ⟨HBX1.out.cell 1, HBX1.out.cell 3⟩ ?_
    rw [wpSegs]
    intro ι F hne hF
    clear hF
    repeat (quiet_step (fail))
    refine wpQuiet_nil ?_
    clear hne F ι
    go_wp2_with (fail)
    refine HD1.out.mono ?_
    rintro e w2 ⟨rfl, hp⟩
    have HP := Lib.hid hp
    clear hp
    go_wp2
    go_ret
    exact HP.out
end Go.Proofs.YtjbbapodcngnaaaGreatDoor
namespace Go.Proofs.YtjbbapodcngnaaaGreatDoor
open Go.RowKit Hdr

/-- A string that is ranged over. -/
def ItS (w : World) (k : Nat) (s : ByteArray) (p : Nat) : Prop := w.heap[k]? = some (.stringIter s p)
theorem ItS.lt {w : World} {k : Nat} {s : ByteArray} {p : Nat} (h : ItS w k s p) : k < w.heap.size := (Array.getElem?_eq_some_iff.1 h).1
theorem ItS.keep {S : Nat → Prop} {w w' : World} {k : Nat} {s : ByteArray} {p : Nat} (h : ItS w k s p) (hk : Keeps S w w') (hS : ¬ S k) : ItS w' k s p := (hk.block k h.lt hS).trans h
theorem ItS.new (w : World) (s : ByteArray) : ItS (w.iter s 0) w.heap.size s 0 := World.iter_heap w s 0
theorem iter_keeps (w : World) (s : ByteArray) (p : Nat) : Keeps No w (w.iter s p) := (Keeps.refl No w).alloc _
theorem ItS.set {w : World} {k : Nat} {s : ByteArray} {p : Nat} (h : ItS w k s p) (q : Nat) : ItS (setM w k (.stringIter s q)) k s q := setM_same _ h.lt

theorem run_next_at (w : World) (k : Nat) (s : ByteArray) (p : Nat) (ty : TypeId) (h : ItS w k s p) (hp : p < s.size) :
    (Instr.next (.pointer (some ⟨k, 0, none⟩)) true ty).run Tryz.prog w = .ok (.tuple #[.bool true, .int .i64 p, .int .i32 (Utf8.decode s p).1]) (setM w k (.stringIter s (p + (Utf8.decode s p).2))) := by
  unfold ItS at h
  simp [Instr.next, getObj, setObj, Sem.run_bind, Sem.run, h, Result.andThen, hp, goInt, setM]
theorem run_next_out (w : World) (k : Nat) (s : ByteArray) (p : Nat) (ty : TypeId) (h : ItS w k s p) (hp : ¬ p < s.size) :
    (Instr.next (.pointer (some ⟨k, 0, none⟩)) true ty).run Tryz.prog w = .ok (.tuple #[.bool false]) w := by
  unfold ItS at h
  simp [Instr.next, getObj, Sem.run, h, hp]

theorem decode_pos (s : ByteArray) (p : Nat) (h : p < s.size) : 1 ≤ (Utf8.decode s p).2 := by
  by_cases ha : (s[p]'h).toNat < 128
  · rw [decode_ascii s p h ha]; exact Nat.le_refl _
  · exact (decode_high s p h (by omega)).2
theorem decode_ne (l : List UInt8) (p : Nat) (h : p < (⟨l.toArray⟩ : ByteArray).size) (c : UInt8) (hc : c.toNat < 128) (hno : c ∉ l) : (Utf8.decode ⟨l.toArray⟩ p).1 ≠ c.toNat := by
  have hl : p < l.length := by rw [str_len] at h; exact h
  by_cases ha : ((⟨l.toArray⟩ : ByteArray)[p]'h).toNat < 128
  · rw [decode_ascii _ p h ha]
    intro he
    have h1 : l[p] = c := UInt8.toNat.inj he
    exact hno (h1 ▸ List.getElem_mem hl)
  · have := (decode_high _ p h (by omega)).1
    omega

set_option maxRecDepth 100000 in
set_option maxHeartbeats 2000000 in
theorem indexAny_no (l : List UInt8) (w : World) (h13 : (13 : UInt8) ∉ l) (h10 : (10 : UInt8) ∉ l) (hlen : l.length ≤ 100000) :
    Calls Tryz.prog 108 #[str l, .string ⟨#[13, 10]⟩] w fun e w' => e = .returned (.int .i64 (-1)) ∧ Keeps No w w' := by
  have hls := str_len l
  have H13 := Lib.hid h13
  have H10 := Lib.hid h10
  clear h13 h10
  go_enter Tryz.func108, Tryz.ntmps108
  go_wp2
  have hI0 := ItS.new w ⟨l.toArray⟩
  have hK0 := iter_keeps w ⟨l.toArray⟩ 0
  generalize w.iter ⟨l.toArray⟩ 0 = w0 at *
  have HI0 := Lib.hid hI0
  clear hI0
  go_loopg [] l.length (fun n wr => ∃ p : Nat, n = l.length - p ∧ ItS wr w.heap.size ⟨l.toArray⟩ p ∧ Keeps (Up w.heap.size []) w wr)
  case atStart => exact ⟨0, by omega, HI0.out, hK0.of_no⟩
  case round =>
    obtain ⟨p, hn, hI, K⟩ := hrel
    have HN := Lib.hid hn
    have hlt := hI.lt
    clear hn
    by_cases hp : p < l.length
    · have hps : p < (⟨l.toArray⟩ : ByteArray).size := by rw [hls]; exact hp
      have hnx := fun ty => run_next_at wr w.heap.size ⟨l.toArray⟩ p ty hI hps
      have hr13 := decode_ne l p hps 13 (by decide) H13.out
      have hr10 := decode_ne l p hps 10 (by decide) H10.out
      have hsz := decode_pos ⟨l.toArray⟩ p hps
      have hset := hI.set (p + (Utf8.decode ⟨l.toArray⟩ p).2)
      generalize (Utf8.decode ⟨l.toArray⟩ p).1 = r at *
      generalize (Utf8.decode ⟨l.toArray⟩ p).2 = d at *
      have e13 : ((r : Int) == 13) = false := by rw [beq_eq_false_iff_ne]; intro h; exact hr13 (by show r = 13; omega)
      have e10 : ((r : Int) == 10) = false := by rw [beq_eq_false_iff_ne]; intro h; exact hr10 (by show r = 10; omega)
      have K1 := K.trans' ((setM_keeps wr w.heap.size (.stringIter ⟨l.toArray⟩ (p + d))).mono (fun x _ h => .inr (by simp [In] at h; omega)))
      have HSET := Lib.hid hset
      have hw1 := (setM_keeps wr w.heap.size (.stringIter ⟨l.toArray⟩ (p + d))).size
      clear hr13 hr10 hset hI
      generalize setM wr w.heap.size (.stringIter ⟨l.toArray⟩ (p + d)) = w1 at *
      go_wp2
      have hI1 := ItS.new w1 ⟨#[13, 10]⟩
      have hK1 := iter_keeps w1 ⟨#[13, 10]⟩ 0
      generalize w1.iter ⟨#[13, 10]⟩ 0 = w2 at *
      have hO1 := HSET.out.keep hK1 (fun h => h)
      have HI1 := Lib.hid hI1
      have HO1 := Lib.hid hO1
      clear hI1 hO1
      go_loopg [] 2 (fun n wr => ∃ q : Nat, q + n = 2 ∧ ItS wr w1.heap.size ⟨#[13, 10]⟩ q ∧ ItS wr w.heap.size ⟨l.toArray⟩ (p + d) ∧ Keeps (Up w1.heap.size []) w1 wr)
      case atStart => exact ⟨0, rfl, HI1.out, HO1.out, hK1.of_no⟩
      case round =>
        obtain ⟨q, hq, hJ, hO, KJ⟩ := hrel
        have hlt1 := hJ.lt
        have hq3 : q = 0 ∨ q = 1 ∨ q = 2 := by omega
        rcases hq3 with rfl | rfl | rfl
        · have hnx := fun ty => run_next_at wr w1.heap.size ⟨#[13, 10]⟩ 0 ty hJ (by decide)
          have hdc : Utf8.decode ⟨#[13, 10]⟩ 0 = (13, 1) := decode_ascii ⟨#[13, 10]⟩ 0 (by decide) (by decide)
          rw [hdc] at hnx
          have hs := hJ.set 1
          have ho := hO.keep (setM_keeps wr w1.heap.size (.stringIter ⟨#[13, 10]⟩ 1)) (fun h => by simp [In] at h; omega)
          have kk := KJ.trans' ((setM_keeps wr w1.heap.size (.stringIter ⟨#[13, 10]⟩ 1)).mono (fun x _ h => .inr (by simp [In] at h; omega)))
          have HS := Lib.hid hs
          have HO := Lib.hid ho
          clear hdc hs ho hJ hO
          go_wp2
          go_roundg (gk - 1)
          case measure => omega
          case rel => exact ⟨1, by omega, HS.out, HO.out, kk⟩
        · have hnx := fun ty => run_next_at wr w1.heap.size ⟨#[13, 10]⟩ 1 ty hJ (by decide)
          have hdc : Utf8.decode ⟨#[13, 10]⟩ 1 = (10, 1) := decode_ascii ⟨#[13, 10]⟩ 1 (by decide) (by decide)
          rw [hdc] at hnx
          have hs := hJ.set 2
          have ho := hO.keep (setM_keeps wr w1.heap.size (.stringIter ⟨#[13, 10]⟩ 2)) (fun h => by simp [In] at h; omega)
          have kk := KJ.trans' ((setM_keeps wr w1.heap.size (.stringIter ⟨#[13, 10]⟩ 2)).mono (fun x _ h => .inr (by simp [In] at h; omega)))
          have HS := Lib.hid hs
          have HO := Lib.hid ho
          clear hdc hs ho hJ hO
          go_wp2
          go_roundg (gk - 1)
          case measure => omega
          case rel => exact ⟨2, by omega, HS.out, HO.out, kk⟩
        · have hnx := fun ty => run_next_out wr w1.heap.size ⟨#[13, 10]⟩ 2 ty hJ (by decide)
          have HO := Lib.hid hO
          clear hJ hO
          go_wp2
          go_roundg (l.length - (p + d))
          case measure => have := HN.out; omega
          case rel => exact ⟨p + d, rfl, HO.out, K1.trans KJ (fun x _ h => .inr (by rcases h with h | h; cases h; have := K1.size; omega))⟩
    · have hps : ¬ p < (⟨l.toArray⟩ : ByteArray).size := by rw [hls]; exact hp
      have hnx := fun ty => run_next_out wr w.heap.size ⟨l.toArray⟩ p ty hI hps
      clear hI
      go_wp2
      go_ret
      exact ⟨rfl, (K.down (Nat.le_refl _)).mono (fun _ _ h => by cases h)⟩

theorem tok_keyb {c : UInt8} (h : tok c = true) : keyb c = true := by
  unfold tok at h
  unfold keyb
  have h1 := of_decide_eq_true h
  refine decide_eq_true ?_
  unfold tokN signN at h1
  unfold keyN
  omega

/-- What raw leaves of a field without bytes. -/
def NewRaw (b : List UInt8) (w : World) (e : Ending) (w' : World) : Prop :=
  ∃ rb cap : Nat, e = .returned (.tuple #[.slice (some ⟨rb, 0, none⟩) b.length cap, .nilIface]) ∧ BytesAt w' rb 0 b ∧ Keeps No w w' ∧ w.heap.size ≤ rb

set_option maxRecDepth 100000 in
set_option maxHeartbeats 2000000 in
theorem fieldRaw_none (fb : Nat) (k v : List UInt8) (w : World) (h : Blk w fb [.slice none 0 0, str k, str v] 185) (hk : k.length ≤ 40) (hkb : ∀ c ∈ k, keyb c = true) (h13 : (13 : UInt8) ∉ v) (h10 : (10 : UInt8) ∉ v) (hlen : v.length ≤ 20000) :
    Calls Tryz.prog 84 #[.pointer (some ⟨fb, 0, none⟩)] w (NewRaw (fold k v) w) := by
  have H := Lib.hid h
  have HKB := Lib.hid hkb
  have HX := Lib.hid (fun w => indexAny_no v w h13 h10 (by omega))
  have HFM := Lib.hid (fun w => format_any k v w hk h10 (by omega))
  have hfl := fold_len k v
  generalize fold k v = out at *
  have c0 : w.cell? ⟨fb, 0, none⟩ = some (.slice none 0 0) := h.cell 0
  have c1 : w.cell? ⟨fb, 1, none⟩ = some (str k) := h.cell 1
  have hlk := str_len k
  have hfw := h.lt
  clear h hkb h13 h10
  go_enter Tryz.func84, Tryz.ntmps84
  go_wp2
  have hI0 := ItS.new w ⟨k.toArray⟩
  have hK0 := iter_keeps w ⟨k.toArray⟩ 0
  generalize w.iter ⟨k.toArray⟩ 0 = w0 at *
  have HI0 := Lib.hid hI0
  clear hI0 c0 c1
  go_wp2
  go_loopg [] k.length (fun n wr => ∃ p : Nat, p + n = k.length ∧ ItS wr w.heap.size ⟨k.toArray⟩ p ∧ Keeps (Up w.heap.size []) w wr)
  case atStart => exact ⟨0, by omega, HI0.out, hK0.of_no⟩
  case round =>
    obtain ⟨p, hn, hI, K⟩ := hrel
    have HN := Lib.hid hn
    have hlt := hI.lt
    have hpl : p ≤ k.length := by omega
    clear hn
    by_cases hp : p < k.length
    · have hps : p < (⟨k.toArray⟩ : ByteArray).size := by rw [hlk]; exact hp
      have hkc := HKB.out k[p] (List.getElem_mem _)
      have hget : ((⟨k.toArray⟩ : ByteArray)[p]'hps) = k[p] := rfl
      generalize k[p] = c at *
      have hkn := of_decide_eq_true hkc
      unfold keyN at hkn
      have hdc : Utf8.decode ⟨k.toArray⟩ p = (c.toNat, 1) := by
        rw [decode_ascii ⟨k.toArray⟩ p hps (by rw [hget]; omega), hget]
      have hnx := fun ty => run_next_at w w.heap.size ⟨k.toArray⟩ p ty
      have hnx := fun ty => run_next_at wr w.heap.size ⟨k.toArray⟩ p ty hI hps
      rw [hdc] at hnx
      have hset := hI.set (p + 1)
      have K1 := K.trans' ((setM_keeps wr w.heap.size (.stringIter ⟨k.toArray⟩ (p + 1))).mono (fun x _ h => .inr (by simp [In] at h; omega)))
      have HSET := Lib.hid hset
      have a1 : decide ((33 : Int) ≤ (c.toNat : Int)) = true := decide_eq_true (by omega)
      have a3 : decide ((c.toNat : Int) ≤ 126) = true := decide_eq_true (by omega)
      have a4 : c.toNat < 58 ∨ (58 < c.toNat ∧ ¬ c.toNat < 58) := by omega
      clear hdc hset hI hkc hkn hget
      rcases a4 with ha | ⟨ha, hb⟩
      · have a2 : decide ((c.toNat : Int) < 58) = true := decide_eq_true (by omega)
        have HA := Lib.hid ha
        clear ha
        go_wp2
        go_roundg (gk - 1)
        case measure => have := HN.out; omega
        case rel => exact ⟨p + 1, by have := HN.out; omega, HSET.out, K1⟩
      · have a2 : decide ((c.toNat : Int) < 58) = false := decide_eq_false (by omega)
        have a5 : decide ((58 : Int) < (c.toNat : Int)) = true := decide_eq_true (by omega)
        clear ha hb
        go_wp2
        go_roundg (gk - 1)
        case measure => have := HN.out; omega
        case rel => exact ⟨p + 1, by have := HN.out; omega, HSET.out, K1⟩
    · have hps : ¬ p < (⟨k.toArray⟩ : ByteArray).size := by rw [hlk]; exact hp
      have hnx := fun ty => run_next_out wr w.heap.size ⟨k.toArray⟩ p ty hI hps
      clear hI
      have hKW : Keeps No w wr := (K.down (Nat.le_refl _)).mono (fun _ _ h => by cases h)
      have hB2 := H.out.keep_no hKW
      have c2 : wr.cell? ⟨fb, 2, none⟩ = some (str v) := hB2.cell 2
      have HB2 := Lib.hid hB2
      clear hB2
      go_wp2_with (fail)
      refine (HX.out _).mono ?_
      rintro e w3 ⟨rfl, K3⟩
      have hB3 := HB2.out.keep_no K3
      have d1 : w3.cell? ⟨fb, 1, none⟩ = some (str k) := hB3.cell 1
      have d2 : w3.cell? ⟨fb, 2, none⟩ = some (str v) := hB3.cell 2
      have HB3 := Lib.hid hB3
      have KW3 := hKW.trans' K3
      clear hB3 c2
      go_upto_region 11 with (fail)
      refine region_segs [([0, 1, 2, 3, 4, 5, 6, 7], 8)] [] 9 (fun W => W.cell? ⟨fb, 1, none⟩ = some (str k) ∧ W.cell? ⟨fb, 2, none⟩ = some (str v)) (by kernel_rfl) (by kernel_rfl) ?_ ?_
      · exact ⟨d1, d2⟩
      simp only [segPick, List.map_cons, List.map_nil, pick, List.filterMap_cons, List.filterMap_nil, List.getElem?_cons_succ, List.getElem?_cons_zero, List.drop_succ_cons, List.drop_zero]
      rw [wpSegs]
      intro ι F hne hF
      have e1 := fun i => (hF i).1
      have e2 := fun i => (hF i).2
      clear hF
      repeat (quiet_step (fail))
      refine wpQuiet_nil ?_
      clear e1 e2 hne F ι
      go_wp2_with (fail)
      refine (HFM.out _).mono ?_
      rintro e w4 ⟨rfl, q, rfl⟩
      have hw4 : w3.drew.drewN q = w3.drewN (1 + q) := World.drewN_drewN _ _ _
      rw [hw4]
      go_wp2
      refine EffPost.intro ⟨d1, d2⟩ ?_
      rw [wpSegs]
      intro ι F hne hF
      clear hF
      repeat (quiet_step (fail))
      refine wpQuiet_nil ?_
      clear hne F ι
      obtain ⟨cap, W, hcv, hrow, KB, hsz⟩ := run_bytes_of (w3.drewN (1 + q)) out
      unfold str at hcv
      have HROW := Lib.hid hrow
      clear hrow
      go_wp2
      go_ret2
      exact ⟨(w3.drewN (1 + q)).heap.size, cap, rfl, HROW.out.bytes, (KW3.drewN _).trans' KB, KW3.size⟩
end Go.Proofs.YtjbbapodcngnaaaGreatDoor
namespace Go.Proofs.YtjbbapodcngnaaaGreatDoor
open Go.RowKit Hdr

theorem PS.typed {w : World} {base : Nat} {v : Value} {l : List Nat} {g : Nat} (h : PS w base v l) (hg : v.ownBlock = some g) : Typed w g 160 := by
  rcases h.2 with ⟨rfl, _⟩ | ⟨g', cap, cur, rfl, _, hc, _⟩
  · cases hg
  · simp only [Value.ownBlock, Option.some.injEq] at hg
    subst hg
    exact ⟨_, _, hc⟩
theorem MapE.untyped {w : World} {mb : Nat} {gs : List Grp} (h : MapE w mb gs) {b : Nat} {t : TypeId} (h' : Typed w b t) : b ≠ mb := by
  obtain ⟨cs, f, hc⟩ := h'
  exact (h.ne hc).symm

theorem mut_of {w : World} {lo hb lb cap : Nat} {m : Option Nat} {fs : List Fd} (hB : Blk w hb [.slice (some ⟨lb, 0, none⟩) fs.length cap, .map m] 74) (hn : NB fs cap) (hp : POwn w lb cap (fs.reverse.map (·.blk))) (hm : HMap w (lb + 1) m fs.reverse) (hf : Fds w lo w.heap.size fs) (hlo : lo ≤ hb) (hlb : lo ≤ lb) :
    ∃ own, HMut w own hb fs ∧ ∀ x ∈ own, lo ≤ x := by
  have ht := hp.ptrs.typed
  have hlt := hp.ptrs.lt
  have key : ∃ own, hb ∈ own ∧ lb ∈ own ∧ (∀ x ∈ own, lo ≤ x ∧ x < w.heap.size) ∧ (∀ b t, Typed w b t → t ≠ 74 → t ≠ 160 → b ∉ own) ∧ ((m = none ∧ fs = []) ∨ ∃ mb gs, m = some mb ∧ MG w own lb mb gs fs.reverse) := by
    rcases hm with ⟨h1, h2⟩ | ⟨mb, gs, h1, h2, h3, h4⟩
    · refine ⟨[hb, lb], by simp, by simp, fun x hx => ?_, fun b t h a1 a2 hc => ?_, .inl ⟨h1, by simpa using h2⟩⟩
      · simp at hx
        rcases hx with rfl | rfl
        · exact ⟨hlo, hB.lt⟩
        · exact ⟨hlb, hlt⟩
      · simp at hc
        rcases hc with rfl | rfl
        · exact h.ne hB.typed a1 rfl
        · exact h.ne ht a2 rfl
    · refine ⟨hb :: lb :: mb :: gs.filterMap (fun x => x.v.ownBlock), by simp, by simp, fun x hx => ?_, fun b t h a1 a2 hc => ?_, .inr ⟨mb, gs, h1, h3, ⟨h4.keys, h4.apart, fun x hx => PS.mono (h4.own x hx) (Nat.zero_le _), h4.some_, h4.of, h4.all⟩, by simp, fun x hx g hg => ⟨?_, ?_⟩⟩⟩
      · simp only [List.mem_cons, List.mem_filterMap] at hx
        rcases hx with rfl | rfl | rfl | ⟨y, hy, hg⟩
        · exact ⟨hlo, hB.lt⟩
        · exact ⟨hlb, hlt⟩
        · exact ⟨by omega, h3.lt⟩
        · have := (h4.own y hy).lt _ hg
          omega
      · simp only [List.mem_cons, List.mem_filterMap] at hc
        rcases hc with rfl | rfl | rfl | ⟨y, hy, hg⟩
        · exact h.ne hB.typed a1 rfl
        · exact h.ne ht a2 rfl
        · exact h3.untyped h rfl
        · exact h.ne ((h4.own y hy).typed hg) a2 rfl
      · simp only [List.mem_cons, List.mem_filterMap]
        exact .inr (.inr (.inr ⟨x, hx, hg⟩))
      · have := ((h4.own x hx).lt _ hg).1
        omega
  obtain ⟨own, k1, k2, k3, k4, k5⟩ := key
  refine ⟨own, ⟨lb, cap, m, hB, hp.po, k5, fun f hff => ?_, k1, k2, fun x hx => (k3 x hx).2, hn.2⟩, fun x hx => (k3 x hx).1⟩
  have h := hf f hff
  refine ⟨k4 _ _ h.B.typed (by decide) (by decide), h.B, ?_⟩
  have hR := h.R
  cases hr : f.raw with
  | none => rw [hr] at hR; exact hR
  | some l =>
    rw [hr] at hR
    obtain ⟨rb, ro, cp, e1, e2, e3, e4, e5, e6⟩ := hR
    exact ⟨rb, ro, cp, e1, k4 _ _ e6 (by decide) (by decide), e5⟩

/-- A header as it is read: its list, its fields. -/
structure HRd (w : World) (lb cap : Nat) (fs : List Fd) : Prop where
  L : POwn w lb cap (fs.reverse.map (·.blk))
  F : ∀ f ∈ fs, FdP w [] f
theorem FdP.bare {w : World} {own : List Nat} {f : Fd} (h : FdP w own f) : FdP w [] f := h.step (Keeps.refl No w) (fun _ _ h => h.elim) (fun _ h => by cases h)
theorem HRd.of_mu {w : World} {own : List Nat} {hb lb cap : Nat} {m : Option Nat} {fs : List Fd} (h : Mu w own hb lb cap m fs) : HRd w lb cap fs := ⟨h.L.own, fun f hf => (h.F f hf).bare⟩
theorem HRd.keep_no {w w' : World} {lb cap : Nat} {fs : List Fd} (h : HRd w lb cap fs) (k : Keeps No w w') : HRd w' lb cap fs :=
  ⟨h.L.keep k (fun h => h), fun f hf => (h.F f hf).step k (fun _ _ h => h.elim) (fun _ h => by cases h)⟩
/-- While another header is changed. -/
theorem HRd.keep {w w' : World} {T : List Nat} {lb cap : Nat} {fs : List Fd} (h : HRd w lb cap fs) (k : Keeps (In T) w w') (hlb : lb ∉ T) (hF : ∀ f ∈ fs, FdP w T f) : HRd w' lb cap fs :=
  ⟨h.L.keep k hlb, fun f hf => (hF f hf).step k (fun _ _ h => h) (fun _ h => by cases h)⟩
theorem HRd.of_hdr {w : World} {lo : Nat} {hv : Value} {fs : List Fd} (h : HdrAt w lo hv fs) : ∃ lb cap m, hv = .agg #[.slice (some ⟨lb, 0, none⟩) fs.length cap, .map m] ∧ HRd w lb cap fs := by
  obtain ⟨lb, cap, m, rfl, h2, h3, h4, h5, h6⟩ := h
  refine ⟨lb, cap, m, rfl, h4, fun f hf => ⟨by simp, (h6 f hf).B, ?_⟩⟩
  have hR := (h6 f hf).R
  cases hr : f.raw with
  | none => rw [hr] at hR; exact hR
  | some l =>
    rw [hr] at hR
    obtain ⟨rb, ro, cp, e1, e2, e3, e4, e5, e6⟩ := hR
    exact ⟨rb, ro, cp, e1, by simp, e5⟩

/-- The bytes of a field as it is written. -/
def Ab.bytes (x : Ab) : List UInt8 := match x.raw with | none => fold x.k x.v | some l => l
/-- A field that can be written. -/
def Ab.fine (x : Ab) : Prop := x.raw = none → x.k.length ≤ 40 ∧ (∀ c ∈ x.k, keyb c = true) ∧ (13 : UInt8) ∉ x.v ∧ (10 : UInt8) ∉ x.v ∧ x.v.length ≤ 2000
/-- A header as it is written. -/
def wrb (l : List Ab) : List UInt8 := l.flatMap Ab.bytes ++ [13, 10]

/-- A field's bytes, old or new. -/
theorem fieldBytes_any (f : Fd) (w0 w : World) (h : FdP w0 [] f) (k : Keeps No w0 w) (hf : f.ab.fine) :
    Calls Tryz.prog 84 #[.pointer (some ⟨f.blk, 0, none⟩)] w fun e w' =>
      ∃ rb ro cap : Nat, e = .returned (.tuple #[.slice (some ⟨rb, ro, none⟩) f.ab.bytes.length cap, .nilIface]) ∧ BytesAt w' rb ro f.ab.bytes ∧ Keeps No w w' ∧ (rb < w0.heap.size ∨ w.heap.size ≤ rb) := by
  have hB := h.B.keep_no k
  have hR := h.R
  unfold Ab.fine at hf
  cases hr : f.raw with
  | none =>
    rw [hr] at hR
    have hR' : f.rv = .slice none 0 0 := hR
    rw [hR'] at hB
    obtain ⟨a1, a2, a3, a4, a5⟩ := hf hr
    have hb : f.ab.bytes = fold f.k f.v := by unfold Ab.bytes Fd.ab; simp only [hr]
    rw [hb]
    refine (fieldRaw_none f.blk f.k f.v w hB a1 a2 a3 a4 (Nat.le_trans a5 (by decide))).mono ?_
    rintro e w' ⟨rb, cap, rfl, h1, h2, h3⟩
    exact ⟨rb, 0, cap, rfl, h1, h2, .inr h3⟩
  | some l =>
    rw [hr] at hR
    obtain ⟨rb, ro, cap, h1, _, h3⟩ := hR
    rw [h1] at hB
    have hb : f.ab.bytes = l := by unfold Ab.bytes Fd.ab; simp only [hr]
    rw [hb]
    refine (fieldRaw_some f.blk ⟨rb, ro, none⟩ l.length cap f.k f.v w hB).mono ?_
    rintro e w' ⟨rfl, rfl⟩
    exact ⟨rb, ro, cap, rfl, h3.keep k (fun h => h), Keeps.refl _ _, .inl h3.lt⟩
end Go.Proofs.YtjbbapodcngnaaaGreatDoor
namespace Go.Proofs.YtjbbapodcngnaaaGreatDoor
open Go.RowKit Hdr

/-- What a script asks of a step beside its being possible. -/
def stepGood (s : St) : Prop := s.val.length ≤ 1200 ∧ (s.op ≠ 5 → s.key.length ≤ 40) ∧ (s.op = 1 ∨ s.op = 2 → s.key.all tok = true ∧ s.key ≠ [] ∧ (13 : UInt8) ∉ s.val ∧ (10 : UInt8) ∉ s.val)
/-- Some steps, one behind the other. -/
def Chain : List St → List Ab → List Ab → Prop
  | [], l, l' => l = l'
  | s :: ss, l, l'' => ∃ l', stepOk s l l' ∧ stepGood s ∧ Chain ss l' l''
theorem Chain.snoc : ∀ {ss : List St} {l l' l'' : List Ab} {s : St}, Chain ss l l' → stepOk s l' l'' → stepGood s → Chain (ss ++ [s]) l l''
  | [], _, _, _, _, h, h1, h2 => by
    cases h
    exact ⟨_, h1, h2, rfl⟩
  | _ :: _, _, _, _, _, ⟨m, a, b, c⟩, h1, h2 => ⟨m, a, b, Chain.snoc c h1 h2⟩
/-- The chain up to a place, and the step there. -/
theorem Chain.at : ∀ {ss : List St} {l l' : List Ab}, Chain ss l l' → ∀ (i : Nat) (hi : i < ss.length), ∃ m m', Chain (ss.take i) l m ∧ stepOk ss[i] m m' ∧ stepGood ss[i] ∧ Chain (ss.drop (i + 1)) m' l'
  | [], _, _, _, i, hi => by simp at hi
  | s :: ss, _, _, ⟨m, a, b, c⟩, 0, _ => ⟨_, m, rfl, a, b, c⟩
  | s :: ss, _, _, ⟨m, a, b, c⟩, i + 1, hi => by
    obtain ⟨m1, m2, h1, h2, h3, h4⟩ := Chain.at c i (by simpa using hi)
    exact ⟨m1, m2, ⟨m, a, b, h1⟩, h2, h3, h4⟩

/-- A field that can be written and is read again. -/
def Ab.good (x : Ab) : Prop := (x.fine ∧ x.bytes.length ≤ 9000) ∧ Wr 2000 x.k x.bytes

theorem eraseKey_sub (k : List UInt8) : ∀ (n : Nat) (l : List Ab), ∀ x ∈ eraseKey k n l, x ∈ l
  | _, [], x, h => by cases h
  | n, y :: l, x, h => by
    unfold eraseKey at h
    split at h
    · split at h
      · exact List.mem_cons_of_mem _ h
      · rcases List.mem_cons.1 h with rfl | h
        · exact List.mem_cons_self ..
        · exact List.mem_cons_of_mem _ (eraseKey_sub k _ l x h)
    · rcases List.mem_cons.1 h with rfl | h
      · exact List.mem_cons_self ..
      · exact List.mem_cons_of_mem _ (eraseKey_sub k _ l x h)
theorem eraseKey_len (k : List UInt8) : ∀ (n : Nat) (l : List Ab), (eraseKey k n l).length ≤ l.length
  | _, [] => Nat.le_refl _
  | n, y :: l => by
    unfold eraseKey
    have h1 := eraseKey_len k n l
    have h2 := eraseKey_len k (n - 1) l
    split
    · split <;> simp <;> omega
    · simp; omega

theorem added_good {k v : List UInt8} (h1 : k.all tok = true) (h2 : k ≠ []) (h3 : k.length ≤ 40) (h4 : (13 : UInt8) ∉ v) (h5 : (10 : UInt8) ∉ v) (h6 : v.length ≤ 1200) : Ab.good ⟨canon k, v, none⟩ := by
  have hc : (canon k).all tok = true := by
    unfold canon
    rw [if_pos h1, canonGo_tok, h1]
  have hkb : ∀ c ∈ canon k, keyb c = true := fun c hc' => tok_keyb (List.all_eq_true.1 hc c hc')
  have hl := canon_len k
  have hne : canon k ≠ [] := fun h => by
    rw [h] at hl
    exact h2 (List.eq_nil_of_length_eq_zero hl.symm)
  have hfl := fold_len (canon k) v
  exact ⟨⟨fun _ => ⟨by simp only; omega, hkb, h4, h5, by simp only; omega⟩, by show (fold (canon k) v).length ≤ 9000; omega⟩, (fold_wr (canon k) v hkb hne (by omega) (canon_canon k) h5).mono (by omega)⟩
theorem read_good {N : Nat} {p : PF} (h : ReadF N p) (hN : N ≤ 2000) : Ab.good ⟨p.k, p.v, some p.raw⟩ := ⟨⟨(fun h => by cases h), by have := h.1.2; show p.raw.length ≤ 9000; omega⟩, h.1.1.mono hN⟩
theorem step_good {s : St} {l l' : List Ab} (h : stepOk s l l') (hg : stepGood s) (hl : ∀ x ∈ l, x.good) : (∀ x ∈ l', x.good) ∧ l'.length ≤ l.length + 1 := by
  obtain ⟨g1, g2, g3⟩ := hg
  have hf : ∀ k : List UInt8, (∀ x ∈ l.filter (fun x => decide (x.k ≠ k)), x.good) ∧ (l.filter (fun x => decide (x.k ≠ k))).length ≤ l.length := fun k => ⟨fun x hx => hl x (List.mem_filter.1 hx).1, List.length_filter_le _ _⟩
  have hadd : s.op = 1 ∨ s.op = 2 → Ab.good ⟨canon s.key, s.val, none⟩ := fun h => by
    obtain ⟨a, b, c, d⟩ := g3 h
    exact added_good a b (g2 (by omega)) c d g1
  rcases h with ⟨hop, rfl⟩ | ⟨hop, rfl⟩ | ⟨hop, rfl⟩ | ⟨hop, p, r, -, hr, hraw, rfl⟩ | ⟨hop, m, hm, hlt, rfl⟩ | ⟨hop, m, hm, hlt, rfl⟩
  · refine ⟨fun x hx => ?_, by simp⟩
    rcases List.mem_cons.1 hx with rfl | hx
    · exact hadd (.inl hop)
    · exact hl x hx
  · have := hf (canon s.key)
    refine ⟨fun x hx => ?_, by simp only [List.length_cons]; omega⟩
    rcases List.mem_cons.1 hx with rfl | hx
    · exact hadd (.inr hop)
    · exact this.1 x hx
  · have := hf (canon s.key)
    exact ⟨this.1, by omega⟩
  · refine ⟨fun x hx => ?_, by simp⟩
    rcases List.mem_cons.1 hx with rfl | hx
    · exact read_good (N := s.val.length) (rhd_read hr p (List.mem_singleton.2 rfl)) (by omega)
    · exact hl x hx
  · refine ⟨fun x hx => hl x (List.mem_of_mem_eraseIdx hx), ?_⟩
    have := List.length_eraseIdx_le l m
    omega
  · refine ⟨fun x hx => hl x (eraseKey_sub _ _ _ x hx), ?_⟩
    have := eraseKey_len (canon s.key) m l
    omega
theorem chain_good : ∀ {ss : List St} {l l' : List Ab}, Chain ss l l' → (∀ x ∈ l, x.good) → (∀ x ∈ l', x.good) ∧ l'.length ≤ l.length + ss.length
  | [], _, _, h, hl => by
    cases h
    exact ⟨hl, Nat.le_refl _⟩
  | _ :: _, _, _, ⟨m, a, b, c⟩, hl => by
    obtain ⟨h1, h2⟩ := step_good a b hl
    obtain ⟨h3, h4⟩ := chain_good c h1
    exact ⟨h3, by simp only [List.length_cons]; omega⟩

/-- Fields that are told, as they were read. -/
def abP (p : PF) : Ab := ⟨p.k, p.v, some p.raw⟩
theorem tells_ab : ∀ {fs : List Fd} {ps : List PF}, Tells fs ps → fs.map Fd.ab = ps.map abP
  | [], [], _ => rfl
  | [], _ :: _, h => h.elim
  | _ :: _, [], h => h.elim
  | f :: fs, p :: ps, h => by
    obtain ⟨⟨h1, h2, h3⟩, h4⟩ := h
    rw [List.map_cons, List.map_cons, tells_ab h4]
    unfold Fd.ab abP
    rw [h1, h2, h3]
/-- A field as it is told. -/
def Ab.pf (x : Ab) : PF := ⟨x.k, x.v, x.bytes⟩
end Go.Proofs.YtjbbapodcngnaaaGreatDoor
namespace Go.Proofs.YtjbbapodcngnaaaGreatDoor
open Go.RowKit Hdr

/-- A field as the specification holds it. -/
def abF (x : Ab) : F9 := ⟨x.k, x.v, x.raw.getD [], x.raw.isSome⟩

set_option maxRecDepth 100000 in
theorem bytes9_fold (k v : List UInt8) (w : World) (hk : k.length ≤ 40) (hlen : v.length ≤ 100000) :
    Calls Tryz.prog 49 #[F9.val ⟨k, v, [], false⟩] w (B9Post (fold k v) w) := by
  unfold F9.val
  go_enter Tryz.func49, Tryz.ntmps49
  go_wp2_with (fail)
  refine (folded9_any k v _ hk hlen).mono ?_
  rintro e w1 ⟨rfl, q, rfl⟩
  go_wp2
  go_ret
  exact ⟨rfl, ((Keeps.refl No w).alloc _).drewN q⟩
theorem bytes9_any (x : Ab) (hf : x.fine) (w : World) : Calls Tryz.prog 49 #[(abF x).val] w (B9Post x.bytes w) := by
  obtain ⟨k, v, raw⟩ := x
  cases raw with
  | none =>
    obtain ⟨h1, _, _, _, h5⟩ := hf rfl
    exact bytes9_fold k v w h1 (Nat.le_trans h5 (by decide))
  | some l => exact bytes9_raw k v l w
/-- What a field of the specification is written as. -/
def B9 (p : F9) : List UInt8 := if p.has then p.raw else fold p.k p.v
theorem B9_abF (x : Ab) : B9 (abF x) = x.bytes := by
  obtain ⟨k, v, raw⟩ := x
  cases raw <;> rfl
theorem bytes9_of {l : List Ab} (hf : ∀ x ∈ l, x.fine) : ∀ p ∈ l.map abF, ∀ w, Calls Tryz.prog 49 #[p.val] w (B9Post (B9 p) w) := by
  intro p hp w
  obtain ⟨x, hx, rfl⟩ := List.mem_map.1 hp
  rw [B9_abF]
  exact bytes9_any x (hf x hx) w
theorem told9_ab (l : List Ab) (hf : ∀ x ∈ l, x.fine) (v : Value) (w : World) (h : Row9 w v (l.map abF)) (hn : l.length ≤ 100000) :
    Calls Tryz.prog 23 #[v] w (T9LPost (l.map Ab.pf) w) := by
  have := told9_any B9 (l.map abF) v w h (by rw [List.length_map]; exact hn) (bytes9_of hf)
  rw [List.map_map] at this
  have e : (fun p : F9 => (⟨p.k, p.v, B9 p⟩ : PF)) ∘ abF = Ab.pf := by
    funext x
    show (⟨x.k, x.v, B9 (abF x)⟩ : PF) = _
    rw [B9_abF]
    rfl
  rw [e] at this
  exact this

/-- The cells of a row's place. -/
theorem Row9.shape {w : World} {v : Value} {l : List F9} (h : Row9 w v l) : ∃ a cap, v = .slice a l.length cap := by
  rcases h with ⟨rfl, rfl⟩ | ⟨g, cap, rfl, _⟩
  · exact ⟨none, 0, rfl⟩
  · exact ⟨_, _, rfl⟩
theorem Row9.keep {w w' : World} {v : Value} {l : List F9} (h : Row9 w v l) (k : Keeps No w w') : Row9 w' v l := by
  rcases h with h | ⟨g, cap, h1, h2, cs, f, h3, h4⟩
  · exact .inl h
  · exact .inr ⟨g, cap, h1, h2, cs, f, (k.block g (Array.getElem?_eq_some_iff.1 h3).1 (fun h => h)).trans h3, h4⟩
theorem Row9.cells {w : World} {a : Option Addr} {n cap : Nat} {l : List F9} (h : Row9 w (.slice a n cap) l) {j : Nat} (hj : j < l.length) :
    ∃ g, a = some ⟨g, 0, none⟩ ∧ n = l.length ∧ n ≤ cap ∧ g < w.heap.size ∧ ∀ W, Keeps No w W → W.cell? ⟨g, j * 4, none⟩ = some (str l[j].k) ∧ W.cell? ⟨g, j * 4 + 1, none⟩ = some (str l[j].v) ∧ W.cell? ⟨g, j * 4 + 2, none⟩ = some (str l[j].raw) ∧ W.cell? ⟨g, j * 4 + 3, none⟩ = some (.bool l[j].has) := by
  rcases h with ⟨h1, h2⟩ | ⟨g, cap', h1, h2, cs, f, h3, h4⟩
  · subst h2; simp at hj
  · injection h1 with h1 h5 h6
    subst h1
    subst h5
    subst h6
    have hglt := (Array.getElem?_eq_some_iff.1 h3).1
    have hcell : ∀ W, Keeps No w W → ∀ i u, (f9c l)[i]? = some u → W.cell? ⟨g, i, none⟩ = some u := fun W hk i u hu => by
      have h1 := (hk.block g hglt (fun h => h)).trans h3
      have hil : i < (f9c l).length := (List.getElem?_eq_some_iff.1 hu).1
      rw [← h4] at hu hil
      rw [List.length_take] at hil
      rw [List.getElem?_take, if_pos (by omega)] at hu
      simp only [World.cell?, h1]
      simpa using hu
    obtain ⟨a1, a2, a3, a4⟩ := f9c_at l j hj
    exact ⟨g, rfl, rfl, h2, hglt, fun W hk => ⟨hcell W hk _ _ a1, hcell W hk _ _ a2, hcell W hk _ _ a3, hcell W hk _ _ a4⟩⟩

set_option maxRecDepth 100000 in
set_option maxHeartbeats 1000000 in
theorem written9_any (l : List Ab) (hf : ∀ x ∈ l, x.fine) (v : Value) (w : World) (h : Row9 w v (l.map abF)) (hn : l.length ≤ 100000) (hwl : (wrb l).length ≤ 100000000) :
    Calls Tryz.prog 29 #[v] w (B9Post (wrb l) w) := by
  obtain ⟨va, cap, hv⟩ := h.shape
  rw [List.length_map] at hv
  subst hv
  have H := Lib.hid h
  have HF := Lib.hid hf
  have hpre : ∀ i, ((l.take i).flatMap Ab.bytes).length + 2 ≤ 100000000 := fun i => by
    have h1 : l.flatMap Ab.bytes = (l.take i).flatMap Ab.bytes ++ (l.drop i).flatMap Ab.bytes := by rw [← List.flatMap_append, List.take_append_drop]
    unfold wrb at hwl
    rw [h1] at hwl
    simp only [List.length_append, List.length_cons, List.length_nil] at hwl
    omega
  have HPR := Lib.hid hpre
  clear h hf hwl hpre
  generalize hnl : l.length = n at *
  have HN := Lib.hid hnl
  clear hnl
  go_enter Tryz.func29, Tryz.ntmps29
  go_wp2
  go_loopg [3, 7] n (fun q s3 s7 wr => ∃ (j : Nat) (b : List UInt8), s7 = .int .i64 (j : Int) ∧ s3 = str b ∧ j + q = n ∧ b = (l.take j).flatMap Ab.bytes ∧ Keeps No w wr)
  case atStart => exact ⟨0, [], rfl, rfl, by omega, rfl, Keeps.refl _ _⟩
  case round =>
    obtain ⟨j, b, rfl, rfl, hjn, hb, K⟩ := hrel
    have HJN := Lib.hid hjn
    have HB := Lib.hid hb
    have hjl : j ≤ n := by omega
    clear hjn hb
    by_cases hj : j < n
    · have hjj : (j : Int) < (n : Int) := by omega
      have hjl2 : j < l.length := by have := HN.out; omega
      have hjl3 : j < (l.map abF).length := by rw [List.length_map]; exact hjl2
      obtain ⟨g, rfl, hn1, hcc, hglt, hcl⟩ := H.out.cells hjl3
      obtain ⟨c0, c1, c2, c3⟩ := hcl wr K
      have hx : (l.map abF)[j] = abF l[j] := List.getElem_map ..
      rw [hx] at c0 c1 c2 c3
      have hbx := HF.out l[j] (List.getElem_mem _)
      have htk : l.take (j + 1) = l.take j ++ [l[j]] := List.take_succ_eq_append_getElem hjl2
      generalize l[j] = x at *
      have HBX := Lib.hid (bytes9_any x hbx)
      have HTK := Lib.hid htk
      have HK := Lib.hid K
      have hnew : b ++ x.bytes = (l.take (j + 1)).flatMap Ab.bytes := by rw [htk, List.flatMap_append, ← HB.out]; simp
      have hle : b.length + x.bytes.length ≤ 100000000 := by
        have := HPR.out (j + 1)
        rw [← hnew, List.length_append] at this
        omega
      have happ := str_app b x.bytes
      have HNEW := Lib.hid hnew
      unfold F9.val at HBX
      unfold abF at HBX c0 c1 c2 c3
      clear hx hbx htk hn1 hcl K hnew
      go_wp2_with (fail)
      refine (HBX.out _).mono ?_
      rintro e w5 ⟨rfl, K5⟩
      have HK5 := Lib.hid (HK.out.trans' K5)
      clear K5 c0 c1 c2 c3
      go_wp2
      go_roundg (gk - 1)
      case measure => have := HJN.out; omega
      case rel =>
        exact ⟨j + 1, b ++ x.bytes, by simp, rfl, by have := HJN.out; omega, HNEW.out, HK5.out⟩
    · have hjn : j = n := by omega
      have e1 : decide ((j : Int) < (n : Int)) = false := decide_eq_false (by omega)
      have hfull : l.take j = l := List.take_of_length_le (by have := HN.out; omega)
      have HFL := Lib.hid hfull
      have hout : b ++ [13, 10] = wrb l := by
        have hb := HB.out
        rw [hfull] at hb
        rw [hb]
        rfl
      have hle : b.length + [13, 10].length ≤ 100000000 := by
        have h1 := HPR.out j
        rw [← HB.out] at h1
        exact h1
      have happ := str_app b [13, 10]
      have hle2 : b.length + 2 ≤ 100000000 := hle
      have HO := Lib.hid hout
      clear hjn hfull hout
      go_wp2
      go_ret
      exact ⟨by rw [← HO.out]; rfl, K⟩

/-! ### without9 -/
def wo (key : List UInt8) (one n : Int) : Int → List Ab → List Ab
  | _, [] => []
  | m, x :: l => if x.k = key then (if one = 0 ∨ m = n then wo key one n (m + 1) l else x :: wo key one n (m + 1) l) else x :: wo key one n m l
theorem wo_all (key : List UInt8) (n : Int) : ∀ (l : List Ab) (m : Int), wo key 0 n m l = l.filter (fun x => decide (x.k ≠ key))
  | [], _ => rfl
  | x :: l, m => by
    unfold wo
    by_cases h : x.k = key
    · rw [if_pos h, if_pos (.inl rfl), wo_all key n l, List.filter_cons_of_neg (by simp [h])]
    · rw [if_neg h, wo_all key n l, List.filter_cons_of_pos (by simp [h])]
theorem wo_past (key : List UInt8) (n : Int) : ∀ (l : List Ab) (m : Int), n < m → wo key 1 n m l = l
  | [], _, _ => rfl
  | x :: l, m, h => by
    unfold wo
    by_cases hk : x.k = key
    · rw [if_pos hk, if_neg (by omega), wo_past key n l (m + 1) (by omega)]
    · rw [if_neg hk, wo_past key n l m h]
theorem wo_one (key : List UInt8) (n : Nat) : ∀ (l : List Ab) (m : Nat), m ≤ n → wo key 1 n m l = eraseKey key (n - m) l
  | [], _, _ => rfl
  | x :: l, m, h => by
    unfold wo eraseKey
    by_cases hk : x.k = key
    · rw [if_pos hk, if_pos hk]
      by_cases hm : m = n
      · subst hm
        rw [if_pos (.inr rfl), if_pos (by omega), wo_past key m l _ (by omega)]
      · have := wo_one key n l (m + 1) (by omega)
        rw [if_neg (by omega), if_neg (by omega), show (m : Int) + 1 = ((m + 1 : Nat) : Int) by omega, this, show n - m - 1 = n - (m + 1) by omega]
    · rw [if_neg hk, if_neg hk, wo_one key n l m h]

/-- Where a row of fields is read from. -/
def Src9 (w : World) (v : Value) (l : List F9) : Prop := (v = .slice none 0 0 ∧ l = []) ∨ ∃ ad cap, v = .slice (some ad) l.length cap ∧ ∀ j u, (f9c l)[j]? = some u → w.cell? (ad.add j) = some u
theorem f9c_one (l : List F9) : ∀ u ∈ f9c l, u.oneCell' = true := by
  intro u hu
  simp only [f9c, List.mem_flatMap, List.mem_cons, List.not_mem_nil, or_false] at hu
  obtain ⟨p, _, rfl | rfl | rfl | rfl⟩ := hu <;> rfl
theorem f9c_append (l m : List F9) : f9c (l ++ m) = f9c l ++ f9c m := by simp [f9c]
theorem wpList_append_f9 {ops : Array Oper} {rest : List Oper} {o : Oper} {a : Act} {w : World} {Q : Exit → Act → World → Prop} (hgd : o.guard = none) (s x : Operand)
    (ho : o.op = .call { callee := .builtin .append, args := #[s, x], argTypes := #[58, 58] }) (base : Nat) (v : Value) (l : List F9) (hs : a.eval s = v) (hown : w.ownsRow base 63 4 v l.length (f9c l))
    (src : Value) (m : List F9) (hx : a.eval x = src) (hsrc : Src9 w src m) (hl : l.length + m.length ≤ 1000000) (hbase : base ≤ w.heap.size)
    (h : ∀ v' w', w'.ownsRow base 63 4 v' (l ++ m).length (f9c (l ++ m)) → w.grownBy w' v.ownBlock → wpList Tryz.prog ops Q rest (a.put o.dst v') w') : wpList Tryz.prog ops Q (o :: rest) a w := by
  obtain ⟨i0, hi, hz0, hz1, hz2⟩ := info_parts info_f9
  rcases hsrc with ⟨rfl, rfl⟩ | ⟨ad, cap, rfl, hc⟩
  · refine wpList_append_own_none hgd s x 58 ho base 63 i0 4 Tryz.underlying58 hi v l.length (f9c l) hs hown hx (h v w ?_ ⟨rfl, rfl, rfl, Nat.le_refl _, fun _ _ _ => rfl⟩)
    rw [List.append_nil]
    exact hown
  · refine wpList_append_own w hgd s x 58 ho base 63 i0 (.agg #[.string ⟨#[]⟩, .string ⟨#[]⟩, .string ⟨#[]⟩, .bool false]) 4 56 Tryz.underlying58 hi hz0 hz1 hz2 rfl (by decide) v l.length (f9c l) hs hown ad m.length cap (f9c m) hx (f9c_length m) hc (f9c_one m) (by unfold maxLen; omega) (by omega) hbase ?_
    intro v' w' h1 h2 _
    refine h v' w' ?_ h2
    rw [List.length_append, f9c_append]
    exact h1

/-- What without9 leaves. -/
def R9Post (l : List Ab) (w : World) (e : Ending) (w' : World) : Prop := ∃ v, e = .returned v ∧ w'.ownsRow w.heap.size 63 4 v l.length (f9c (l.map abF)) ∧ Keeps No w w'
theorem src_box (w : World) (p : F9) : Src9 (w.alloc (.cells #[str p.k, str p.v, str p.raw, .bool p.has] 63)) (.slice (some ⟨w.heap.size, 0, none⟩) 1 1) [p] := by
  refine .inr ⟨⟨w.heap.size, 0, none⟩, 1, rfl, fun j u hu => ?_⟩
  have hb := Blk.new w [str p.k, str p.v, str p.raw, .bool p.has] 63
  rw [addr_at]
  exact (hb.cell j).trans hu

set_option maxRecDepth 100000 in
set_option maxHeartbeats 2000000 in
theorem without9_any (l : List Ab) (key : List UInt8) (one n : Int) (h01 : one = 0 ∨ one = 1) (v : Value) (w : World) (h : Row9 w v (l.map abF)) (hn : l.length ≤ 100000) :
    Calls Tryz.prog 27 #[v, str key, .int .i64 one, .int .i64 n] w (R9Post (wo key one n 0 l) w) := by
  obtain ⟨va, cap, hv⟩ := h.shape
  rw [List.length_map] at hv
  subst hv
  have H := Lib.hid h
  clear h
  generalize hnl : l.length = c at *
  have HN := Lib.hid hnl
  have hone : ((one == 0) = true ∧ one = 0) ∨ ((one == 0) = false ∧ one = 1) := by
    rcases h01 with rfl | rfl
    · exact .inl ⟨rfl, rfl⟩
    · exact .inr ⟨rfl, rfl⟩
  have HONE := Lib.hid hone
  clear hnl h01 hone
  go_enter Tryz.func27, Tryz.ntmps27
  go_wp2
  go_loopg [9, 10, 14] c (fun q s9 s10 s14 wr => ∃ (j m : Nat) (pre : List Ab), s14 = .int .i64 (j : Int) ∧ s10 = .int .i64 (m : Int) ∧ j + q = c ∧ m ≤ j ∧ pre.length ≤ j ∧ wr.ownsRow w.heap.size 63 4 s9 pre.length (f9c (pre.map abF)) ∧ wo key one n 0 l = pre ++ wo key one n m (l.drop j) ∧ Keeps No w wr)
  case atStart => exact ⟨0, 0, [], rfl, rfl, by omega, Nat.le_refl _, Nat.le_refl _, World.ownsRow_nil _ _ _ _, by simp, Keeps.refl _ _⟩
  case round =>
    obtain ⟨j, m, pre, rfl, rfl, hjn, hmj, hpj, hrow, hwo, K⟩ := hrel
    have HJN := Lib.hid hjn
    have HWO := Lib.hid hwo
    have hjl : j ≤ c := by omega
    obtain ⟨oa, oc, rfl⟩ := ownsRow_shape hrow
    have HROW := Lib.hid hrow
    clear hjn hwo hrow
    by_cases hj : j < c
    · have hjj : (j : Int) < (c : Int) := by omega
      have hjl2 : j < l.length := by have := HN.out; omega
      have hjl3 : j < (l.map abF).length := by rw [List.length_map]; exact hjl2
      obtain ⟨g, rfl, hn1, hcc, hglt, hcl⟩ := H.out.cells hjl3
      obtain ⟨c0, c1, c2, c3⟩ := hcl wr K
      have hx : (l.map abF)[j] = abF l[j] := List.getElem_map ..
      rw [hx] at c0 c1 c2 c3
      have hdr : l.drop j = l[j] :: l.drop (j + 1) := List.drop_eq_getElem_cons hjl2
      generalize l[j] = x at *
      have hstep := HWO.out
      rw [hdr] at hstep
      have e5 : IntKind.i64.wrap ((m : Int) + 1) = (m : Int) + 1 := by rw [IntKind.wrap_i64]; omega
      have e6 : IntKind.i64.wrap ((m : Int) + 1 - 1) = (m : Int) := by rw [IntKind.wrap_i64]; omega
      have hsk : (x.k == key) = decide (x.k = key) := by rw [Bool.eq_iff_iff]; simp
      have hsrc := src_box wr (abF x)
      unfold abF at c0 c1 c2 c3
      have HSR := Lib.hid hsrc
      have HST := Lib.hid hstep
      have HK := Lib.hid K
      clear hx hdr hn1 hcl hstep hsrc K
      have hrowL : (wr.alloc (.cells #[str x.k, str x.v, str (x.raw.getD []), .bool x.raw.isSome] 63)).ownsRow w.heap.size 63 4 (.slice oa pre.length oc) (pre.map abF).length (f9c (pre.map abF)) := by
        rw [List.length_map]
        exact HROW.out.alloc _
      have HROWL := Lib.hid hrowL
      have hszw := HK.out.size
      clear hrowL
      by_cases hkey : x.k = key
      · rw [decide_eq_true hkey] at hsk
        have HKY := Lib.hid hkey
        clear hkey
        rcases HONE.out with ⟨ho1, ho2⟩ | ⟨ho1, ho2⟩
        · have HO2 := Lib.hid ho2
          clear ho2
          go_wp2
          go_roundg (gk - 1)
          case measure => have := HJN.out; omega
          case rel =>
            refine ⟨j + 1, m + 1, pre, by simp, by simp, by have := HJN.out; omega, by omega, by omega, HROW.out, ?_, HK.out⟩
            rw [HST.out, wo, if_pos HKY.out, if_pos (.inl HO2.out)]
            simp
        · by_cases hmn : (m : Int) = n
          · have e7 : ((m : Int) == n) = true := by simpa using hmn
            have HMN := Lib.hid hmn
            have HO2 := Lib.hid ho2
            clear hmn ho2
            go_wp2
            go_roundg (gk - 1)
            case measure => have := HJN.out; omega
            case rel =>
              refine ⟨j + 1, m + 1, pre, by simp, by simp, by have := HJN.out; omega, by omega, by omega, HROW.out, ?_, HK.out⟩
              rw [HST.out, wo, if_pos HKY.out, if_pos (.inr HMN.out)]
              simp
          · have e7 : ((m : Int) == n) = false := by simpa using hmn
            have HMN := Lib.hid hmn
            have HO2 := Lib.hid ho2
            clear hmn ho2
            go_wp2_with (at_builtin; refine wpList_append_f9 rfl (.tmp 34) (.tmp 39) rfl w.heap.size _ (pre.map abF) rfl (HROWL.out) _ [abF x] rfl HSR.out (by simp; omega) (by simp; omega) ?_; intro v' W hrow' hgr; have HRW := Lib.hid hrow'; have KW := (HK.out.alloc (.cells #[str x.k, str x.v, str (x.raw.getD []), .bool x.raw.isSome] 63)).grown hgr (fun k hk => .inr (HROW.out.lt k hk).1); clear hrow' hgr)
            go_roundg (gk - 1)
            case measure => have := HJN.out; omega
            case rel =>
              have h2 := HRW.out
              rw [show [abF x] = [x].map abF from rfl, ← List.map_append, List.length_map] at h2
              refine ⟨j + 1, m + 1, pre ++ [x], by simp, by simp, by have := HJN.out; omega, by omega, by simp; omega, h2, ?_, KW⟩
              rw [HST.out, List.append_assoc, List.singleton_append]
              rw [wo, if_pos HKY.out, if_neg (by have h1 := HMN.out; have h2 := HO2.out; omega)]; simp
      · rw [decide_eq_false hkey] at hsk
        have HKY := Lib.hid hkey
        clear hkey
        go_wp2_with (at_builtin; refine wpList_append_f9 rfl (.tmp 34) (.tmp 39) rfl w.heap.size _ (pre.map abF) rfl (HROWL.out) _ [abF x] rfl HSR.out (by simp; omega) (by simp; omega) ?_; intro v' W hrow' hgr; have HRW := Lib.hid hrow'; have KW := (HK.out.alloc (.cells #[str x.k, str x.v, str (x.raw.getD []), .bool x.raw.isSome] 63)).grown hgr (fun k hk => .inr (HROW.out.lt k hk).1); clear hrow' hgr)
        go_roundg (gk - 1)
        case measure => have := HJN.out; omega
        case rel =>
          have h2 := HRW.out
          rw [show [abF x] = [x].map abF from rfl, ← List.map_append, List.length_map] at h2
          refine ⟨j + 1, m, pre ++ [x], by simp, by simp, by have := HJN.out; omega, by omega, by simp; omega, h2, ?_, KW⟩
          rw [HST.out, List.append_assoc, List.singleton_append]
          rw [wo, if_neg HKY.out]
    · have hjn : j = c := by omega
      have e1 : decide ((j : Int) < (c : Int)) = false := decide_eq_false (by omega)
      have hfull : l.drop j = [] := List.drop_eq_nil_of_le (by have := HN.out; omega)
      have HFL := Lib.hid hfull
      clear hjn hfull
      go_wp2
      go_ret
      have h1 := HWO.out
      rw [HFL.out] at h1
      have h2 : wo key one n 0 l = pre := by rw [h1]; simp [wo]
      rw [h2]
      exact ⟨_, rfl, HROW.out, K⟩
end Go.Proofs.YtjbbapodcngnaaaGreatDoor
namespace Go.Proofs.YtjbbapodcngnaaaGreatDoor
open Go.RowKit Hdr

/-- The cells of steps. -/
def stc (ss : List St) : List Value := ss.flatMap fun s => [.int .i64 s.op, str s.key, str s.val, .int .i64 s.n]
/-- Steps in memory, behind a slice. -/
def StepsAt (w : World) (v : Value) (ss : List St) : Prop :=
  ∃ a cap, v = .slice a ss.length cap ∧ (ss = [] ∨ ∃ sb so, a = some ⟨sb, so, none⟩ ∧ ss.length ≤ cap ∧ sb < w.heap.size ∧ ∀ i u, (stc ss)[i]? = some u → w.cell? ⟨sb, so + i, none⟩ = some u)
theorem StepsAt.keep {w w' : World} {v : Value} {ss : List St} (h : StepsAt w v ss) (k : Keeps No w w') : StepsAt w' v ss := by
  obtain ⟨a, cap, h1, h2⟩ := h
  refine ⟨a, cap, h1, h2.imp id ?_⟩
  rintro ⟨sb, so, e, h3, h4, h5⟩
  exact ⟨sb, so, e, h3, Nat.lt_of_lt_of_le h4 k.size, fun i u hu => k.cell (h5 i u hu) (fun h => h)⟩
theorem stc_at : ∀ (l : List St) (i : Nat) (h : i < l.length), (stc l)[i * 4]? = some (.int .i64 l[i].op) ∧ (stc l)[i * 4 + 1]? = some (str l[i].key) ∧ (stc l)[i * 4 + 2]? = some (str l[i].val) ∧ (stc l)[i * 4 + 3]? = some (.int .i64 l[i].n)
  | p :: l, 0, _ => ⟨rfl, rfl, rfl, rfl⟩
  | p :: l, i + 1, h => by
    have ih := stc_at l i (by simpa using h)
    have e : stc (p :: l) = .int .i64 p.op :: str p.key :: str p.val :: .int .i64 p.n :: stc l := rfl
    rw [e, show (i + 1) * 4 = i * 4 + 1 + 1 + 1 + 1 by omega]
    simp only [List.getElem?_cons_succ, List.getElem_cons_succ]
    exact ih
/-- The cells of the i-th step. -/
theorem StepsAt.cells {w : World} {a : Option Addr} {n cap : Nat} {ss : List St} (h : StepsAt w (.slice a n cap) ss) {i : Nat} (hi : i < ss.length) :
    ∃ sb so, a = some ⟨sb, so, none⟩ ∧ n = ss.length ∧ n ≤ cap ∧ w.cell? ⟨sb, so + i * 4, none⟩ = some (.int .i64 ss[i].op) ∧ w.cell? ⟨sb, so + i * 4 + 1, none⟩ = some (str ss[i].key) ∧ w.cell? ⟨sb, so + i * 4 + 2, none⟩ = some (str ss[i].val) ∧ w.cell? ⟨sb, so + i * 4 + 3, none⟩ = some (.int .i64 ss[i].n) := by
  obtain ⟨a', cap', h1, h2⟩ := h
  injection h1 with h1 h3 h4
  subst h1
  subst h3
  subst h4
  rcases h2 with rfl | ⟨sb, so, rfl, h5, h6, h7⟩
  · simp at hi
  · obtain ⟨c0, c1, c2, c3⟩ := stc_at ss i hi
    exact ⟨sb, so, rfl, rfl, h5, h7 _ _ c0, h7 _ _ c1, h7 _ _ c2, h7 _ _ c3⟩
end Go.Proofs.YtjbbapodcngnaaaGreatDoor
namespace Go.Proofs.YtjbbapodcngnaaaGreatDoor
open Go.RowKit Hdr

theorem row_one (w : World) (base : Nat) (hb : base ≤ w.heap.size) (p : F9) : (w.alloc (.cells #[str p.k, str p.v, str p.raw, .bool p.has] 63)).ownsRow base 63 4 (.slice (some ⟨w.heap.size, 0, none⟩) 1 1) [p].length (f9c [p]) :=
  ⟨rfl, .inr ⟨w.heap.size, 1, _, rfl, hb, heap_alloc_new w _, Nat.le_refl _, by unfold maxLen; omega, rfl, rfl⟩⟩
theorem Row9.src {w : World} {v : Value} {l : List F9} (h : Row9 w v l) : Src9 w v l := by
  rcases h with h | ⟨g, cap, h1, h2, cs, f, h3, h4⟩
  · exact .inl h
  · refine .inr ⟨⟨g, 0, none⟩, cap, h1, fun j u hu => ?_⟩
    rw [addr_at]
    have hil : j < (f9c l).length := (List.getElem?_eq_some_iff.1 hu).1
    rw [← h4] at hu hil
    rw [List.length_take] at hil
    rw [List.getElem?_take, if_pos (by omega)] at hu
    simp only [World.cell?, h3]
    simpa using hu

theorem f9c_drop (l : List F9) (k : Nat) (hk : k ≤ l.length) : f9c (l.drop k) = (f9c l).drop (k * 4) := by
  have h : f9c l = f9c (l.take k) ++ f9c (l.drop k) := by rw [← f9c_append, List.take_append_drop]
  rw [h, List.drop_left' (by rw [f9c_length, List.length_take]; omega)]
theorem f9c_take (l : List F9) (k : Nat) (hk : k ≤ l.length) : f9c (l.take k) = (f9c l).take (k * 4) := by
  have h : f9c l = f9c (l.take k) ++ f9c (l.drop k) := by rw [← f9c_append, List.take_append_drop]
  rw [h, List.take_left' (by rw [f9c_length, List.length_take]; omega)]
theorem src_cells {w : World} {g n cap : Nat} {l : List F9} (h : Row9 w (.slice (some ⟨g, 0, none⟩) n cap) l) : n = l.length ∧ n ≤ cap ∧ ∀ j u, (f9c l)[j]? = some u → w.cell? ⟨g, j, none⟩ = some u := by
  rcases h with ⟨h1, _⟩ | ⟨g', cap', h1, h2, cs, f, h3, h4⟩
  · cases h1
  · injection h1 with h1 h5 h6
    injection h1 with h1
    injection h1 with h1
    subst h1
    subst h5
    subst h6
    refine ⟨rfl, h2, fun j u hu => ?_⟩
    have hil : j < (f9c l).length := (List.getElem?_eq_some_iff.1 hu).1
    rw [← h4] at hu hil
    rw [List.length_take] at hil
    rw [List.getElem?_take, if_pos (by omega)] at hu
    simp only [World.cell?, h3]
    simpa using hu
theorem src_take {w : World} {g n cap N : Nat} {l : List F9} (h : Row9 w (.slice (some ⟨g, 0, none⟩) n cap) l) (hN : N ≤ l.length) : Src9 w (.slice (some ⟨g, 0, none⟩) N cap) (l.take N) := by
  obtain ⟨h1, h2, h3⟩ := src_cells h
  refine .inr ⟨⟨g, 0, none⟩, cap, by rw [List.length_take, Nat.min_eq_left hN], fun j u hu => ?_⟩
  rw [f9c_take l N hN, List.getElem?_take] at hu
  rw [addr_at]
  split at hu
  · exact h3 j u hu
  · cases hu
theorem src_drop {w : World} {g n cap N : Nat} {l : List F9} (h : Row9 w (.slice (some ⟨g, 0, none⟩) n cap) l) (hN : N ≤ l.length) : Src9 w (.slice (some ⟨g, cutAt 0 N cap 4, none⟩) (n - N) (cap - N)) (l.drop N) := by
  obtain ⟨h1, h2, h3⟩ := src_cells h
  refine .inr ⟨⟨g, cutAt 0 N cap 4, none⟩, cap - N, by rw [List.length_drop, h1], fun j u hu => ?_⟩
  have hj : j < (f9c (l.drop N)).length := (List.getElem?_eq_some_iff.1 hu).1
  rw [f9c_length, List.length_drop] at hj
  rw [f9c_drop l N hN, List.getElem?_drop] at hu
  rw [cutAt_lt (by omega), Nat.zero_add]
  have := h3 _ u hu
  unfold Addr.add
  split
  · simp_all
  · exact this

set_option maxRecDepth 100000 in
theorem top_any (x : Ab) (l : List Ab) (v : Value) (w : World) (h : Row9 w v (l.map abF)) (hn : l.length ≤ 100000) :
    Calls Tryz.prog 50 #[(abF x).val, v] w (R9Post (x :: l) w) := by
  obtain ⟨va, cap, hv⟩ := h.shape
  have hsz : (w.alloc (.cells #[str x.k, str x.v, str (x.raw.getD []), .bool x.raw.isSome] 63)).heap.size = w.heap.size + 1 := by simp
  have hO := row_one (w.alloc (.cells #[str x.k, str x.v, str (x.raw.getD []), .bool x.raw.isSome] 63)) w.heap.size (by simp) (abF x)
  rw [hsz] at hO
  have kk : Keeps No w ((w.alloc (.cells #[str x.k, str x.v, str (x.raw.getD []), .bool x.raw.isSome] 63)).alloc (.cells #[str x.k, str x.v, str (x.raw.getD []), .bool x.raw.isSome] 63)) := ((Keeps.refl No w).alloc _).alloc _
  have HO := Lib.hid hO
  have HS := Lib.hid (h.keep kk).src
  have HK := Lib.hid kk
  subst hv
  clear h hsz hO kk
  unfold F9.val abF
  go_enter Tryz.func50, Tryz.ntmps50
  go_wp2_with (at_builtin; refine wpList_append_f9 rfl (.tmp 6) (.tmp 7) rfl w.heap.size _ [abF x] rfl HO.out _ (l.map abF) rfl HS.out (by simp; omega) (by simp; omega) ?_; intro v' W hrow' hgr; have HRW := Lib.hid hrow'; have KW := HK.out.grown hgr (fun k hk => .inr (HO.out.lt k hk).1); clear hrow' hgr)
  go_ret
  have h2 := HRW.out
  rw [show [abF x] ++ l.map abF = (x :: l).map abF from rfl, List.length_map] at h2
  exact ⟨_, rfl, h2, KW⟩

theorem row9_of {w : World} {base : Nat} {v : Value} {l : List Ab} (h : w.ownsRow base 63 4 v l.length (f9c (l.map abF))) : Row9 w v (l.map abF) := by
  have : (l.map abF).length = l.length := List.length_map ..
  exact Row9.of_row (by rw [this]; exact h)
theorem R9Post.before {l : List Ab} {w w1 w2 : World} {e : Ending} (h : R9Post l w1 e w2) (k : Keeps No w w1) : R9Post l w e w2 := by
  obtain ⟨v, h1, h2, h3⟩ := h
  exact ⟨v, h1, ownsRow_mono h2 k.size, k.trans' h3⟩

set_option maxRecDepth 100000 in
set_option maxHeartbeats 2000000 in
theorem stepped9_any (s : St) (l l' : List Ab) (hs : stepOk s l l') (hk : s.key.length ≤ 3000000000) (hvl : s.val.length ≤ 100000) (v : Value) (w : World) (h : Row9 w v (l.map abF)) (hn : l.length ≤ 99999) :
    Calls Tryz.prog 24 #[v, stepV s] w (R9Post l' w) := by
  obtain ⟨op, key, val, n⟩ := s
  unfold stepV
  simp only at hk hvl
  obtain ⟨va, cap, hv⟩ := h.shape
  rw [List.length_map] at hv
  subst hv
  have H := Lib.hid h
  have hbox := Blk.new w [.int .i64 op, str key, str val, .int .i64 n] 56
  have HBX := Lib.hid hbox
  have kA : Keeps No w (w.alloc (.cells #[.int .i64 op, str key, str val, .int .i64 n] 56)) := (Keeps.refl No w).alloc _
  have HKA := Lib.hid kA
  clear h hbox kA
  rcases hs with ⟨hop, hl⟩ | ⟨hop, hl⟩ | ⟨hop, hl⟩ | ⟨hop, p, r, hsure, hrd, hraw, hl⟩ | ⟨hop, N, hnN, hlt, hl⟩ | ⟨hop, N, hnN, hlt, hl⟩
  · simp only at hop hl
    subst hop
    have HL := Lib.hid hl
    clear hl
    go_enter Tryz.func24, Tryz.ntmps24
    go_wp2_with (fail)
    refine (canonical9_any key _ (by omega)).mono ?_
    rintro e w1 ⟨rfl, K⟩
    have HK1 := Lib.hid (HKA.out.trans' K)
    have b2 := (HBX.out.keep_no K).cell 2
    have b0 := (HBX.out.keep_no K).cell 0
    clear K
    go_wp2_with (fail)
    refine (top_any ⟨canon key, val, none⟩ l _ _ (H.out.keep HK1.out) (by omega)).mono ?_
    intro e w2 hp
    obtain ⟨v2, rfl, hrow, K2⟩ := hp.before HK1.out
    have HR := Lib.hid hrow
    clear hrow hp
    go_wp2
    go_ret
    rw [HL.out]
    exact ⟨_, rfl, HR.out, K2⟩
  · simp only at hop hl
    subst hop
    have hwo : wo (canon key) 0 0 0 l = l.filter (fun x => decide (x.k ≠ canon key)) := wo_all _ _ _ _
    have hwl := List.length_filter_le (fun x : Ab => decide (x.k ≠ canon key)) l
    rw [← hwo] at hl hwl
    have HL := Lib.hid hl
    clear hl hwo
    go_enter Tryz.func24, Tryz.ntmps24
    go_wp2_with (fail)
    refine (canonical9_any key _ (by omega)).mono ?_
    rintro e w1 ⟨rfl, K⟩
    have HK1 := Lib.hid (HKA.out.trans' K)
    have HB1 := Lib.hid (HBX.out.keep_no K)
    have b0 := HB1.out.cell 0
    clear K
    have b2 := HB1.out.cell 2
    go_upto_region 7 with (fail)
    refine region_segs [([0, 1, 2, 3, 4, 5, 6], 7)] [] 8 (fun W => W.cell? ⟨w.heap.size, 2, none⟩ = some (str val)) (by kernel_rfl) (by kernel_rfl) ?_ ?_
    · exact HB1.out.drew.cell 2
    simp only [segPick, List.map_cons, List.map_nil, pick, List.filterMap_cons, List.filterMap_nil, List.getElem?_cons_succ, List.getElem?_cons_zero, List.drop_succ_cons, List.drop_zero]
    rw [wpSegs]
    intro ι F hne hF
    have d1 := fun j => hF j
    clear hF b0 b2
    repeat (quiet_step (fail))
    refine wpQuiet_nil ?_
    clear d1 hne F ι
    go_wp2_with (fail)
    refine (without9_any l (canon key) 0 0 (.inl rfl) _ _ (H.out.keep HK1.out.drew) (by omega)).mono ?_
    rintro e w2 ⟨v2, rfl, hrow, K2⟩
    obtain ⟨oa, oc, rfl⟩ := ownsRow_shape hrow
    have HR2 := Lib.hid (row9_of hrow)
    have HB2 := Lib.hid (HB1.out.drew.keep_no K2)
    have HK2 := Lib.hid (HK1.out.drew.trans' K2)
    clear hrow K2
    go_wp2
    refine EffPost.intro (HB2.out.cell 2) ?_
    rw [wpSegs]
    intro ι F hne hF
    clear hF
    repeat (quiet_step (fail))
    refine wpQuiet_nil ?_
    clear hne F ι
    go_wp2_with (fail)
    refine (top_any ⟨canon key, val, none⟩ _ _ _ HR2.out (by omega)).mono ?_
    intro e w3 hp
    obtain ⟨v3, rfl, hrow, K3⟩ := hp.before HK2.out
    have HR3 := Lib.hid hrow
    clear hrow hp
    go_wp2
    go_ret
    rw [HL.out]
    exact ⟨_, rfl, HR3.out, K3⟩
  · simp only at hop hl
    subst hop
    have hwo : wo (canon key) 0 0 0 l = l.filter (fun x => decide (x.k ≠ canon key)) := wo_all _ _ _ _
    rw [← hwo] at hl
    have HL := Lib.hid hl
    clear hl hwo
    go_enter Tryz.func24, Tryz.ntmps24
    go_wp2_with (fail)
    refine (canonical9_any key _ (by omega)).mono ?_
    rintro e w1 ⟨rfl, K⟩
    have HK1 := Lib.hid (HKA.out.trans' K)
    have HB1 := Lib.hid (HBX.out.keep_no K)
    have b0 := HB1.out.cell 0
    clear K
    go_wp2_with (fail)
    refine (without9_any l (canon key) 0 0 (.inl rfl) _ _ (H.out.keep HK1.out) (by omega)).mono ?_
    intro e w2 hp
    obtain ⟨v2, rfl, hrow, K2⟩ := hp.before HK1.out
    have HR := Lib.hid hrow
    clear hrow hp
    go_wp2
    go_ret
    rw [HL.out]
    exact ⟨_, rfl, HR.out, K2⟩
  · simp only at hop hl hsure hrd hraw
    subst hop
    obtain ⟨h9ok, h9fs, h9t⟩ := (h9_rhd val hsure).2 _ _ hrd
    rw [hraw] at hl
    have HL := Lib.hid hl
    have H9 := Lib.hid (fun w => header9_any val w (by omega))
    clear hl hsure hrd
    generalize h9 val = r9 at *
    obtain ⟨r9f, r9t, r9o, r9s⟩ := r9
    simp only at h9fs
    subst h9fs
    clear h9ok h9t
    go_enter Tryz.func24, Tryz.ntmps24
    go_wp2_with (fail)
    refine (canonical9_any key _ (by omega)).mono ?_
    rintro e w1 ⟨rfl, K⟩
    have HK1 := Lib.hid (HKA.out.trans' K)
    have HB1 := Lib.hid (HBX.out.keep_no K)
    have b0 := HB1.out.cell 0
    clear K
    have b2 := HB1.out.cell 2
    go_wp2_with (fail)
    refine (H9.out _).mono ?_
    rintro e w2 ⟨v2, rfl, hrow, K2, -⟩
    simp only at hrow
    rw [f9s_f9c] at hrow
    have hR9 := Row9.of_row (l := [rawF p]) hrow
    obtain ⟨oa, oc, rfl⟩ := ownsRow_shape hrow
    obtain ⟨g, rfl, hn1, hcc, hglt, hcl⟩ := hR9.cells (j := 0) (by simp)
    have HCL := Lib.hid hcl
    have HB2 := Lib.hid (HB1.out.keep_no K2)
    have HK2 := Lib.hid (HK1.out.trans' K2)
    clear hrow K2 hR9 hcl b0 b2
    have c0 : w2.cell? ⟨g, 0, none⟩ = some (str p.k) := (HCL.out w2 (Keeps.refl _ _)).1
    have c1 : w2.cell? ⟨g, 1, none⟩ = some (str p.v) := (HCL.out w2 (Keeps.refl _ _)).2.1
    have b2 := HB2.out.cell 2
    go_upto_region 12 with (fail)
    refine region_tail 13 (by kernel_rfl) (by kernel_rfl) ?_
    simp only [List.take_succ_cons, List.take_zero, List.drop_succ_cons, List.drop_zero]
    repeat still_step
    refine wpStill_nil ?_
    go_wp2_with (fail)
    refine (top_any ⟨p.k, p.v, some val⟩ l _ _ (H.out.keep HK2.out.drew) (by omega)).mono ?_
    intro e w3 hp
    obtain ⟨v3, rfl, hrow, K3⟩ := hp.before HK2.out.drew
    have HR3 := Lib.hid hrow
    clear hrow hp
    go_wp2
    go_ret
    rw [HL.out]
    exact ⟨_, rfl, HR3.out, K3⟩
  · simp only at hop hl hnN
    subst hop
    subst hnN
    have HL := Lib.hid hl
    clear hl
    go_enter Tryz.func24, Tryz.ntmps24
    go_wp2_with (fail)
    refine (canonical9_any key _ (by omega)).mono ?_
    rintro e w1 ⟨rfl, K⟩
    have HK1 := Lib.hid (HKA.out.trans' K)
    have HB1 := Lib.hid (HBX.out.keep_no K)
    have b0 := HB1.out.cell 0
    obtain ⟨g, rfl, hn1, hcc, hglt, hcl⟩ := H.out.cells (j := 0) (by rw [List.length_map]; omega)
    have hNN : (N : Int) ≤ (cap : Int) := by omega
    have hN1 : (N : Int) + 1 ≤ (l.length : Int) := by omega
    have hN2 : (0 : Int) ≤ (N : Int) := by omega
    have hN3 : (0 : Int) ≤ (N : Int) + 1 := by omega
    have hN4 : IntKind.i64.wrap ((N : Int) + 1) = (N : Int) + 1 := by rw [IntKind.wrap_i64]; omega
    clear K hn1 hcl
    go_upto_region 14 with (fail)
    refine region_segs [([1, 2, 3, 4, 6, 7, 8, 9, 10], 0), ([], 5)] [] 11 (fun W => W.cell? ⟨w.heap.size, 3, none⟩ = some (.int .i64 N)) (by kernel_rfl) (by kernel_rfl) ?_ ?_
    · exact HB1.out.drew.cell 3
    simp only [segPick, List.map_cons, List.map_nil, pick, List.filterMap_cons, List.filterMap_nil, List.getElem?_cons_succ, List.getElem?_cons_zero, List.drop_succ_cons, List.drop_zero]
    rw [wpSegs]
    intro ι F hne hF
    have d1 := fun j => hF j
    clear hF b0
    repeat (quiet_step (fail))
    refine wpQuiet_nil ?_
    clear d1 hne F ι
    have kE : Keeps No w (w1.alloc (.cells #[] 63)).drew := (HK1.out.alloc _).drew
    have hO0 : (w1.alloc (.cells #[] 63)).drew.ownsRow w.heap.size 63 4 (.slice (some ⟨w1.heap.size, 0, none⟩) 0 0) ([] : List F9).length (f9c []) := World.ownsRow_made w1 #[] 0 HK1.out.size (Nat.zero_le _) rfl
    have hRk := H.out.keep kE
    have hS1 := src_take hRk (N := N) (by rw [List.length_map]; omega)
    have HO0 := Lib.hid hO0
    have HS1 := Lib.hid hS1
    have HKE := Lib.hid kE
    clear kE hO0 hRk hS1
    go_wp2
    refine EffPost.intro ((HB1.out.alloc _).drew.cell 3) ?_
    rw [wpSegs]
    intro ι F hne hF
    clear hF
    repeat (quiet_step (fail))
    refine wpQuiet_nil ?_
    clear hne F ι
    change wpList _ _ _ (_ :: []) _ _
    go_wp2_with (at_builtin; refine wpList_append_f9 rfl (.tmp 67) (.tmp 71) rfl w.heap.size _ [] rfl HO0.out _ ((l.map abF).take N) rfl HS1.out (by simp; omega) (by simp; have := HK1.out.size; omega) ?_; intro v' W hrow' hgr; have HRW := Lib.hid hrow'; have KW := HKE.out.grown hgr (fun k hk => .inr (HO0.out.lt k hk).1); have HKW := Lib.hid KW; have HGR := Lib.hid hgr; clear hrow' hgr KW)
    have hBW : Blk W w.heap.size [.int .i64 5, str key, str val, .int .i64 N] 56 := by
      have hlt := HB1.out.lt
      exact (HGR.out.block w.heap.size (by simp; omega) (fun h => by have h2 : w.heap.size = w1.heap.size := Option.some.inj h; omega)).trans (HB1.out.alloc _).drew
    refine EffPost.intro (hBW.cell 3) ?_
    clear hBW
    rw [wpSegs]
    intro ι F hne hF
    clear hF
    repeat (quiet_step (fail))
    refine wpQuiet_nil ?_
    clear hne F ι
    have HS2 := Lib.hid (src_drop (H.out.keep HKW.out) (N := N + 1) (by rw [List.length_map]; omega))
    have hoth : l' = l.take N ++ l.drop (N + 1) := by rw [HL.out, List.eraseIdx_eq_take_drop_succ]
    have HOT := Lib.hid hoth
    have HSW := Lib.hid HKW.out.size
    clear hoth
    go_wp2_with (at_builtin; refine wpList_append_f9 rfl (.tmp 72) (.tmp 77) rfl w.heap.size _ ([] ++ (l.map abF).take N) rfl HRW.out _ ((l.map abF).drop (N + 1)) rfl HS2.out (by simp; omega) HSW.out ?_; intro v2 W2 hrow2 hgr2; have HRW2 := Lib.hid hrow2; have HKW2 := Lib.hid (HKW.out.grown hgr2 (fun k hk => .inr (HRW.out.lt k hk).1)); clear hrow2 hgr2)
    go_ret
    have h2 := HRW2.out
    rw [List.nil_append, ← List.map_take, ← List.map_drop, ← List.map_append, ← HOT.out, List.length_map] at h2
    exact ⟨_, rfl, h2, HKW2.out⟩
  · simp only at hop hl hnN
    subst hop
    subst hnN
    have hwo := wo_one (canon key) N l 0 (Nat.zero_le _)
    rw [Nat.sub_zero] at hwo
    rw [← hwo] at hl
    have HL := Lib.hid hl
    clear hl hwo hlt
    go_enter Tryz.func24, Tryz.ntmps24
    go_wp2_with (fail)
    refine (canonical9_any key _ (by omega)).mono ?_
    rintro e w1 ⟨rfl, K⟩
    have HK1 := Lib.hid (HKA.out.trans' K)
    have HB1 := Lib.hid (HBX.out.keep_no K)
    have b0 := HB1.out.cell 0
    clear K
    have b3 := HB1.out.cell 3
    go_wp2_with (fail)
    refine (without9_any l (canon key) 1 N (.inr rfl) _ _ (H.out.keep HK1.out) (by omega)).mono ?_
    intro e w2 hp
    obtain ⟨v2, rfl, hrow, K2⟩ := hp.before HK1.out
    have HR := Lib.hid hrow
    clear hrow hp
    go_wp2
    go_ret
    rw [HL.out]
    exact ⟨_, rfl, HR.out, K2⟩
end Go.Proofs.YtjbbapodcngnaaaGreatDoor
namespace Go.Proofs.YtjbbapodcngnaaaGreatDoor
open Go.RowKit Hdr

def tok9 (l : List UInt8) : Bool := l.all tok && !l.isEmpty && decide (l.length ≤ 40)

set_option maxRecDepth 100000 in
set_option maxHeartbeats 1000000 in
theorem token9_any (l : List UInt8) (w : World) (hlen : l.length ≤ 10000000000) :
    Calls Tryz.prog 26 #[str l] w fun e w' => e = .returned (.bool (tok9 l)) ∧ w' = w := by
  have hls := str_len l
  generalize ht9 : tok9 l = t9
  have HT9 := Lib.hid ht9
  clear ht9
  go_enter Tryz.func26, Tryz.ntmps26
  go_wp2
  go_loopg [7] l.length (fun n s7 wr => ∃ j : Nat, s7 = .int .i64 (j : Int) ∧ j + n = l.length ∧ (l.take j).all tok = true ∧ w = wr)
  case atStart => exact ⟨0, rfl, by omega, rfl, rfl⟩
  case round =>
    obtain ⟨j, rfl, hjn, hal, rfl⟩ := hrel
    have HJN := Lib.hid hjn
    have HAL := Lib.hid hal
    have hjl : j ≤ l.length := by omega
    clear hjn hal
    by_cases hj : j < l.length
    · have hx := str_get l j hj
      have htk : l.take (j + 1) = l.take j ++ [l[j]] := List.take_succ_eq_append_getElem hj
      have hmem : l[j] ∈ l := List.getElem_mem _
      generalize l[j] = c at *
      have HTK := Lib.hid htk
      have HMEM := Lib.hid hmem
      have hjj : (j : Int) < (l.length : Int) := by omega
      have hm : c.toNat < 256 := c.toNat_lt
      clear htk hmem
      go_upto_region 5 with (fail)
      go_cut [39] (fun s39 wx => s39 = .bool (!tok c) ∧ w = wx)
      case first =>
        obtain ⟨sg, hsg⟩ : ∃ sg : Bool, sg = decide (signN c.toNat) := ⟨_, rfl⟩
        have hby : ∀ W : World, Calls Tryz.prog 25 #[.string ⟨#[33, 35, 36, 37, 38, 39, 42, 43, 45, 46, 94, 95, 96, 124, 126]⟩, .int .u8 c.toNat] W fun e w' => e = .returned (.bool sg) ∧ w' = W := fun W => by
          rw [hsg, ← sign_contains]
          exact hasByte9_any [33, 35, 36, 37, 38, 39, 42, 43, 45, 46, 94, 95, 96, 124, 126] c W (by decide)
        have htok : tok c = (sg || decide (48 ≤ c.toNat ∧ c.toNat ≤ 57) || decide (97 ≤ c.toNat ∧ c.toNat ≤ 122) || decide (65 ≤ c.toNat ∧ c.toNat ≤ 90)) := by
          rw [hsg]
          have h0 : tok c = true ↔ tokN c.toNat := by unfold tok; exact decide_eq_true_iff
          rw [Bool.eq_iff_iff, h0]
          simp only [Bool.or_eq_true, decide_eq_true_eq]
          unfold tokN
          constructor
          · rintro (h | h | h | h)
            · exact .inl (.inl (.inl h))
            · exact .inl (.inl (.inr h))
            · exact .inl (.inr h)
            · exact .inr h
          · rintro (((h | h) | h) | h)
            · exact .inl h
            · exact .inr (.inl h)
            · exact .inr (.inr (.inl h))
            · exact .inr (.inr (.inr h))
        have hT : (48 ≤ c.toNat ∧ c.toNat ≤ 57) ∨ (97 ≤ c.toNat ∧ c.toNat ≤ 122) ∨ (65 ≤ c.toNat ∧ c.toNat ≤ 90) → tok c = true := fun h => by
          rw [htok]
          rcases h with h | h | h <;> simp [h]
        have hF : ¬ (48 ≤ c.toNat ∧ c.toNat ≤ 57) → ¬ (97 ≤ c.toNat ∧ c.toNat ≤ 122) → ¬ (65 ≤ c.toNat ∧ c.toNat ≤ 90) → tok c = sg := fun h1 h2 h3 => by
          rw [htok, decide_eq_false h1, decide_eq_false h2, decide_eq_false h3]
          simp
        have HT := Lib.hid hT
        have HF := Lib.hid hF
        clear hsg htok hT hF
        have hr : c.toNat < 48 ∨ (48 ≤ c.toNat ∧ c.toNat ≤ 57) ∨ (58 ≤ c.toNat ∧ c.toNat ≤ 64) ∨ (65 ≤ c.toNat ∧ c.toNat ≤ 90) ∨ (91 ≤ c.toNat ∧ c.toNat ≤ 96) ∨ (97 ≤ c.toNat ∧ c.toNat ≤ 122) ∨ 123 ≤ c.toNat := by omega
        rcases hr with hq | hq | hq | hq | hq | hq | hq
        · have HK := Lib.hid (HF.out (by omega) (by omega) (by omega))
          have a1 : decide ((c.toNat : Int) < 97) = true := decide_eq_true (by omega)
          have a2 : decide ((122 : Int) < (c.toNat : Int)) = false := decide_eq_false (by omega)
          have a3 : decide ((c.toNat : Int) < 65) = true := decide_eq_true (by omega)
          have a4 : decide ((90 : Int) < (c.toNat : Int)) = false := decide_eq_false (by omega)
          have a5 : decide ((c.toNat : Int) < 48) = true := decide_eq_true (by omega)
          have a6 : decide ((57 : Int) < (c.toNat : Int)) = false := decide_eq_false (by omega)
          clear hq
          go_wp2_with (go_at_call 25; refine (hby _).mono ?_; rintro e w ⟨rfl, rfl⟩)
          go_meet
          exact ⟨by rw [HK.out], rfl⟩
        · have HK := Lib.hid (HT.out (.inl hq))
          have a1 : decide ((c.toNat : Int) < 97) = true := decide_eq_true (by omega)
          have a2 : decide ((122 : Int) < (c.toNat : Int)) = false := decide_eq_false (by omega)
          have a3 : decide ((c.toNat : Int) < 65) = true := decide_eq_true (by omega)
          have a4 : decide ((90 : Int) < (c.toNat : Int)) = false := decide_eq_false (by omega)
          have a5 : decide ((c.toNat : Int) < 48) = false := decide_eq_false (by omega)
          have a6 : decide ((57 : Int) < (c.toNat : Int)) = false := decide_eq_false (by omega)
          clear hq
          go_wp2_with (go_at_call 25; refine (hby _).mono ?_; rintro e w ⟨rfl, rfl⟩)
          go_meet
          exact ⟨by rw [HK.out]; rfl, rfl⟩
        · have HK := Lib.hid (HF.out (by omega) (by omega) (by omega))
          have a1 : decide ((c.toNat : Int) < 97) = true := decide_eq_true (by omega)
          have a2 : decide ((122 : Int) < (c.toNat : Int)) = false := decide_eq_false (by omega)
          have a3 : decide ((c.toNat : Int) < 65) = true := decide_eq_true (by omega)
          have a4 : decide ((90 : Int) < (c.toNat : Int)) = false := decide_eq_false (by omega)
          have a5 : decide ((c.toNat : Int) < 48) = false := decide_eq_false (by omega)
          have a6 : decide ((57 : Int) < (c.toNat : Int)) = true := decide_eq_true (by omega)
          clear hq
          go_wp2_with (go_at_call 25; refine (hby _).mono ?_; rintro e w ⟨rfl, rfl⟩)
          go_meet
          exact ⟨by rw [HK.out], rfl⟩
        · have HK := Lib.hid (HT.out (.inr (.inr hq)))
          have a1 : decide ((c.toNat : Int) < 97) = true := decide_eq_true (by omega)
          have a2 : decide ((122 : Int) < (c.toNat : Int)) = false := decide_eq_false (by omega)
          have a3 : decide ((c.toNat : Int) < 65) = false := decide_eq_false (by omega)
          have a4 : decide ((90 : Int) < (c.toNat : Int)) = false := decide_eq_false (by omega)
          have a5 : decide ((c.toNat : Int) < 48) = false := decide_eq_false (by omega)
          have a6 : decide ((57 : Int) < (c.toNat : Int)) = true := decide_eq_true (by omega)
          clear hq
          go_wp2_with (go_at_call 25; refine (hby _).mono ?_; rintro e w ⟨rfl, rfl⟩)
          go_meet
          exact ⟨by rw [HK.out]; rfl, rfl⟩
        · have HK := Lib.hid (HF.out (by omega) (by omega) (by omega))
          have a1 : decide ((c.toNat : Int) < 97) = true := decide_eq_true (by omega)
          have a2 : decide ((122 : Int) < (c.toNat : Int)) = false := decide_eq_false (by omega)
          have a3 : decide ((c.toNat : Int) < 65) = false := decide_eq_false (by omega)
          have a4 : decide ((90 : Int) < (c.toNat : Int)) = true := decide_eq_true (by omega)
          have a5 : decide ((c.toNat : Int) < 48) = false := decide_eq_false (by omega)
          have a6 : decide ((57 : Int) < (c.toNat : Int)) = true := decide_eq_true (by omega)
          clear hq
          go_wp2_with (go_at_call 25; refine (hby _).mono ?_; rintro e w ⟨rfl, rfl⟩)
          go_meet
          exact ⟨by rw [HK.out], rfl⟩
        · have HK := Lib.hid (HT.out (.inr (.inl hq)))
          have a1 : decide ((c.toNat : Int) < 97) = false := decide_eq_false (by omega)
          have a2 : decide ((122 : Int) < (c.toNat : Int)) = false := decide_eq_false (by omega)
          have a3 : decide ((c.toNat : Int) < 65) = false := decide_eq_false (by omega)
          have a4 : decide ((90 : Int) < (c.toNat : Int)) = true := decide_eq_true (by omega)
          have a5 : decide ((c.toNat : Int) < 48) = false := decide_eq_false (by omega)
          have a6 : decide ((57 : Int) < (c.toNat : Int)) = true := decide_eq_true (by omega)
          clear hq
          go_wp2_with (go_at_call 25; refine (hby _).mono ?_; rintro e w ⟨rfl, rfl⟩)
          go_meet
          exact ⟨by rw [HK.out]; rfl, rfl⟩
        · have HK := Lib.hid (HF.out (by omega) (by omega) (by omega))
          have a1 : decide ((c.toNat : Int) < 97) = false := decide_eq_false (by omega)
          have a2 : decide ((122 : Int) < (c.toNat : Int)) = true := decide_eq_true (by omega)
          have a3 : decide ((c.toNat : Int) < 65) = false := decide_eq_false (by omega)
          have a4 : decide ((90 : Int) < (c.toNat : Int)) = true := decide_eq_true (by omega)
          have a5 : decide ((c.toNat : Int) < 48) = false := decide_eq_false (by omega)
          have a6 : decide ((57 : Int) < (c.toNat : Int)) = true := decide_eq_true (by omega)
          clear hq
          go_wp2_with (go_at_call 25; refine (hby _).mono ?_; rintro e w ⟨rfl, rfl⟩)
          go_meet
          exact ⟨by rw [HK.out], rfl⟩
      case rest =>
        obtain ⟨rfl, rfl⟩ := hcut
        generalize htc : tok c = tc at *
        have HTC := Lib.hid htc
        clear htc
        cases tc with
        | true =>
          go_wp2
          go_roundg (gk - 1)
          case measure => have := HJN.out; omega
          case rel =>
            refine ⟨j + 1, by simp, by have := HJN.out; omega, ?_, rfl⟩
            rw [HTK.out, List.all_append, HAL.out]
            simp [HTC.out]
        | false =>
          have hall : t9 = false := by
            rw [← HT9.out]
            unfold tok9
            have : l.all tok = false := by
              cases h : l.all tok with
              | false => rfl
              | true =>
                rw [List.all_eq_true] at h
                have := h c HMEM.out
                rw [HTC.out] at this
                cases this
            rw [this]
            rfl
          have HALL := Lib.hid hall
          clear hall
          go_wp2
          go_ret
          exact ⟨by rw [HALL.out]; rfl, rfl⟩
    · have hjl2 : j = l.length := by omega
      have hall : l.all tok = true := by have := HAL.out; rwa [hjl2, List.take_length] at this
      have e1 : decide (j < l.length) = false := decide_eq_false hj
      have e2 : decide ((j : Int) < (l.length : Int)) = false := decide_eq_false (by omega)
      have ht : t9 = (!l.isEmpty && decide (l.length ≤ 40)) := by
        rw [← HT9.out]
        unfold tok9
        rw [hall]
        simp
      have HTT := Lib.hid ht
      clear hall hjl2 ht
      by_cases hl0 : l = []
      · subst hl0
        go_wp2
        go_ret
        exact ⟨by rw [HTT.out]; rfl, rfl⟩
      · have hem : l.isEmpty = false := by cases l with | nil => exact absurd rfl hl0 | cons _ _ => rfl
        by_cases hl4 : l.length ≤ 40
        · have b1 : decide (l.length ≤ 40) = true := decide_eq_true hl4
          have b2 : decide ((l.length : Int) ≤ 40) = true := decide_eq_true (by omega)
          have HL0 := Lib.hid hl0
          clear hl0
          go_wp2
          go_ret
          exact ⟨by rw [HTT.out, hem, b1]; rfl, rfl⟩
        · have b1 : decide (l.length ≤ 40) = false := decide_eq_false hl4
          have b2 : decide ((l.length : Int) ≤ 40) = false := decide_eq_false (by omega)
          have HL0 := Lib.hid hl0
          clear hl0
          go_wp2
          go_ret
          exact ⟨by rw [HTT.out, hem, b1]; rfl, rfl⟩
end Go.Proofs.YtjbbapodcngnaaaGreatDoor
