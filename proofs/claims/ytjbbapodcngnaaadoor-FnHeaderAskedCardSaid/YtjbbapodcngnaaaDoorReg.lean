/- Regions that draw their order: some operations that only look (in a class of worlds), then one effect that waits for all of them, and behind it moves alone. One walk of the text's order serves every order. -/
import Derived.Test.YtjbbapodcngnaaaDoorBase
namespace Go.Proofs.YtjbbapodcngnaaaDoor
open Go.RowKit

section
variable {P : Program} {ops : Array Oper} {md : Region.Mode} {C : World → Prop} {w : World}

/-- Every operation behind n waits for one from n on that stands ahead of it. -/
def afterB (md : Region.Mode) (ops : Array Oper) (n : Nat) : Bool :=
  (List.range ops.size).all fun t => decide (t ≤ n) || (List.range t).any fun j => decide (n ≤ j) && Region.waitsFor md ops t j

theorem tail_waits' {n : Nat} {listed : Array Bool} (hs : Region.sinkB md ops n = true) (hc : afterB md ops n = true) (hn : n < ops.size) (inv : HeadInv md ops n listed) :
    ∀ (d i : Nat), n - i = d → i < n → listed.getD i true = false → ∀ t, n ≤ t → t ∉ Region.ready md ops listed := by
  intro d
  induction d using Nat.strongRecOn with
  | _ d ih =>
    intro i hd hi hun t ht hr
    obtain ⟨_, ot, hot, hall⟩ := mem_ready.1 hr
    have htlt : t < ops.size := (Array.getElem?_eq_some_iff.1 hot).1
    by_cases htn : t = n
    · subst htn
      have h1 := List.all_eq_true.1 hs i (List.mem_range.2 hi)
      obtain ⟨j, hj, hj2⟩ := List.any_eq_true.1 h1
      simp only [Bool.and_eq_true, decide_eq_true_eq] at hj2
      obtain ⟨oj, hoj, e, he, hb, hon⟩ := Region.waitsFor_spec hj2.2
      have hjle : j ≤ t := by have := List.mem_range.1 hj; omega
      by_cases hjt : j = t
      · subst hjt
        have : oj = ot := Option.some.inj (hoj.symm.trans hot)
        subst this
        have h2 := hall e he hb
        rw [hon, getD_both hun] at h2
        cases h2
      · cases hl : listed.getD j false with
        | true =>
          have h2 := inv.closed j oj hoj hl e he hb
          rw [hon, getD_both hun] at h2
          cases h2
        | false =>
          have hjs : j < listed.size := by rw [inv.size]; omega
          exact ih (t - j) (by omega) j rfl (by omega) (getD_in hjs hl) t (Nat.le_refl _) hr
    · have h1 := List.all_eq_true.1 hc t (List.mem_range.2 htlt)
      simp only [Bool.or_eq_true, decide_eq_true_eq] at h1
      rcases h1 with h1 | h1
      · omega
      · obtain ⟨j, hj, hj2⟩ := List.any_eq_true.1 h1
        simp only [Bool.and_eq_true, decide_eq_true_eq] at hj2
        have hjt := List.mem_range.1 hj
        obtain ⟨o', ho', e, he, hb, hon⟩ := Region.waitsFor_spec hj2.2
        have : o' = ot := Option.some.inj (ho'.symm.trans hot)
        subst this
        have h2 := hall e he hb
        rw [hon, getD_both (inv.tail j hj2.1 (by omega))] at h2
        cases h2

def wpAnyC (P : Program) (md : Region.Mode) (ops : Array Oper) (C : World → Prop) (n : Nat) (L : Array Bool → Act → Prop) : Nat → Array Bool → Act → Prop
  | 0, listed, a => L listed a
  | f + 1, listed, a =>
    Region.ready md ops listed ≠ [] ∧ ∀ i ∈ Region.ready md ops listed, i < n ∧ qOp P ops C i (wpAnyC P md ops C n L f (listed.setIfInBounds i true)) a

theorem wpAny_of_headC {n g : Nat} {L : Array Bool → Act → Prop} {Q' : Exit → Act → World → Prop} (hL : ∀ listed a w, C w → L listed a → wpAny P md ops Q' g listed a w) :
    ∀ (f : Nat) (listed : Array Bool) (a : Act) (w : World), C w → wpAnyC P md ops C n L f listed a → wpAny P md ops Q' (f + g) listed a w
  | 0, listed, a, w, hw, h => by rw [Nat.zero_add]; exact hL _ _ _ hw h
  | f + 1, listed, a, w, hw, h => by
    rw [show f + 1 + g = (f + g) + 1 by omega]
    exact ⟨fun h0 => absurd h0 h.1, fun i hi => wpOp_of_qOp hw (fun a' w' hw' h' => wpAny_of_headC hL f _ a' w' hw' h') (h.2 i hi).2⟩

theorem wpAnyC_first {n i : Nat} {oi : Oper} {v : Value} {L : Array Bool → Act → Prop} (hi : ops[i]? = some oi) (hsel : ∀ (j : Nat) (o : Oper) cs b, ops[j]? = some o → o.op ≠ .select cs b)
    (hs : Region.sinkB md ops n = true) (hc : afterB md ops n = true) (hn : n < ops.size) (hin : i < n)
    (hdone : ∀ listed a, L listed a → ∀ j ∈ Region.ready md ops listed, n ≤ j) :
    ∀ (f : Nat) (listed : Array Bool) (a : Act), HeadInv md ops n listed →
      (∀ j oj, ops[j]? = some oj → j ≠ i → listed.getD j true = false → (∀ e ∈ oj.after, Region.binds md e = true → e.on ≠ i) → oi.apart ops oj = true) →
      i ∈ Region.ready md ops listed → YieldsIn P ops C oi v a →
      wpAnyC P md ops C n L f (listed.setIfInBounds i true) (a.put oi.dst v) → wpAnyC P md ops C n L (f + 1) listed a := by
  intro f
  induction f with
  | zero =>
    intro listed a inv _ hr hy H
    have hun := (mem_ready.1 hr).1
    refine ⟨fun h => (by rw [h] at hr; cases hr), fun j hj => ?_⟩
    have hjn : j < n := by
      rcases Nat.lt_or_ge j n with h | h
      · exact h
      · exact absurd hj (tail_waits' hs hc hn inv _ i rfl hin hun j h)
    refine ⟨hjn, ?_⟩
    by_cases hji : j = i
    · subst hji; exact hy.qOp hi H
    · have := hdone _ _ H j (ready_mono hj hji)
      omega
  | succ f ih =>
    intro listed a inv hfree hr hy H
    have hun := (mem_ready.1 hr).1
    refine ⟨fun h => (by rw [h] at hr; cases hr), fun j hj => ?_⟩
    have hjn : j < n := by
      rcases Nat.lt_or_ge j n with h | h
      · exact h
      · exact absurd hj (tail_waits' hs hc hn inv _ i rfl hin hun j h)
    refine ⟨hjn, ?_⟩
    by_cases hji : j = i
    · subst hji; exact hy.qOp hi H
    · have h1 := (H.2 j (ready_mono hj hji)).2
      obtain ⟨hjun, oj, hoj, hall⟩ := mem_ready.1 hj
      have hnot : ∀ e ∈ oj.after, Region.binds md e = true → e.on ≠ i := fun e he hb heq => by
        have h1 := hall e he hb
        rw [heq, getD_both hun] at h1
        cases h1
      have h2 := qOp_put hoj (hfree j oj hoj hji hjun hnot) (fun cs b => hsel i oi cs b hi) (fun cs b => hsel j oj cs b hoj) hy h1
      have hfree' : ∀ k ok, ops[k]? = some ok → k ≠ i → (listed.setIfInBounds j true).getD k true = false →
          (∀ e ∈ ok.after, Region.binds md e = true → e.on ≠ i) → oi.apart ops ok = true := fun k ok hk hki hun hno => by
        refine hfree k ok hk hki ?_ hno
        by_cases hjk : j = k
        · subst hjk; exact hjun
        · rw [getD_set_ne true hjk] at hun; exact hun
      refine qOp_mono (fun a' h3 => ih (listed.setIfInBounds j true) a' (inv.set hj hjn) hfree' (ready_mono hr (Ne.symm hji)) h3.1 ?_) h2
      rw [Array.setIfInBounds_comm _ _ hji]
      exact h3.2

/-- What may stand behind the effect: moves, assignments, parts of a tuple. -/
def pureOp (o : Oper) : Bool :=
  match o.op with
  | .move _ | .assign _ | .extract _ _ => o.guard.isNone
  | _ => false

theorem run_pure_op {o : Oper} (a : Act) (h : pureOp o = true) : (∃ v, execOp a.eval o = Sem.pure (.value v)) ∨ ∃ s, execOp a.eval o = Sem.halt (.stuck s) := by
  unfold pureOp at h
  split at h
  · rename_i x hx; exact .inl ⟨_, by simp only [execOp, hx]; rfl⟩
  · rename_i x hx; exact .inl ⟨_, by simp only [execOp, hx]; rfl⟩
  · rename_i x i hx
    simp only [execOp, hx]
    cases hv : a.eval x
    case tuple vs =>
      cases hq : vs[i]? with
      | none => exact .inr ⟨_, by simp only [Instr.extract, hq]; rfl⟩
      | some v => exact .inl ⟨v, by simp only [Instr.extract, hq]; rfl⟩
    all_goals exact .inr ⟨_, rfl⟩
  · cases h

theorem not_asks_pure {o : Oper} {a : Act} (h : pureOp o = true) : ¬ o.asks P a w := by
  intro hk
  have hm := hk.1
  rcases run_pure_op a h with ⟨v, e⟩ | ⟨s, e⟩ <;> rw [e] at hm <;> simp [Sem.runT] at hm

theorem still_of_pure {o : Oper} {a : Act} {K : Act → World → Prop} {Q : Exit → Act → World → Prop} (h : pureOp o = true) (hw : o.wp P a w K Q) : o.still P a w (fun a' => K a' w) := by
  unfold Oper.wp at hw
  unfold Oper.still
  rcases run_pure_op a h with ⟨v, e⟩ | ⟨s, e⟩ <;> rw [e] at hw ⊢
  · exact ⟨rfl, hw⟩
  · exact hw.elim

theorem wpStill_of_pure {Q : Exit → Act → World → Prop} : ∀ (l : List Oper) (a : Act), l.all pureOp = true → wpList P ops Q l a w → wpStill P ops w (fun a' => Q .normal a' w) l a
  | [], a, _, h => h
  | o :: l, a, hp, h => by
    simp only [List.all_cons, Bool.and_eq_true] at hp
    unfold wpList at h
    unfold wpStill
    split
    · rename_i hw
      rw [if_pos hw] at h
      rcases h with h | h
      · exact Oper.still_mono (fun a' h' => wpStill_of_pure l a' hp.2 h') (still_of_pure hp.1 h)
      · exact absurd h.1 (not_asks_pure hp.1)
    · rename_i hw
      rw [if_neg hw] at h
      exact wpStill_of_pure l _ hp.2 h

/-- The heads in the text's order, then n alone, then the rest in the text's order. -/
def lexHeadM (md : Region.Mode) (ops : Array Oper) (g : Nat) : Nat → Nat → Array Bool → Bool
  | 0, k, listed => decide (Region.ready md ops listed = [k]) && Region.lexFrom md ops g (k + 1) (listed.setIfInBounds k true)
  | f + 1, k, listed => (Region.ready md ops listed).contains k && Region.free md ops listed k && lexHeadM md ops g f (k + 1) (listed.setIfInBounds k true)

def lexMidB (md : Region.Mode) (ops : Array Oper) (n : Nat) : Bool :=
  Region.noSelect ops && decide (n < ops.size) && Region.sinkB md ops n && afterB md ops n && (ops.toList.drop (n + 1)).all pureOp && lexHeadM md ops (ops.size - n - 1) n 0 (Array.replicate ops.size false)

/-- What stands when the heads are through. -/
def MidAt (md : Region.Mode) (ops : Array Oper) (n g : Nat) (listed : Array Bool) : Prop :=
  Region.ready md ops listed = [n] ∧ Region.lexFrom md ops g (n + 1) (listed.setIfInBounds n true) = true

theorem wpAnyC_lex {n g : Nat} {Lq : Act → Prop} (hsel : Region.noSelect ops = true) (hs : Region.sinkB md ops n = true) (hc : afterB md ops n = true) (hn : n < ops.size) :
    ∀ (l : List Oper) (k : Nat) (listed : Array Bool) (a : Act), (∀ j, j < l.length → l[j]? = ops[k + j]?) → k + l.length = n → HeadInv md ops n listed →
    lexHeadM md ops g l.length k listed = true → wpQuiet P ops C Lq l a →
    wpAnyC P md ops C n (fun listed' a' => MidAt md ops n g listed' ∧ Lq a') l.length listed a
  | [], k, listed, a, _, hk, _, hB, h => by
    have : k = n := by simpa using hk
    subst this
    simp only [List.length_nil, lexHeadM, Bool.and_eq_true, decide_eq_true_eq] at hB
    exact ⟨hB, h⟩
  | o :: l, k, listed, a, hl, hk, inv, hB, h => by
    have h0 : ops[k]? = some o := by simpa using (hl 0 (by simp)).symm
    simp only [List.length_cons, lexHeadM, Bool.and_eq_true] at hB
    obtain ⟨⟨hr, hf⟩, hB'⟩ := hB
    have hkn : k < n := by simp only [List.length_cons] at hk; omega
    have hr' : k ∈ Region.ready md ops listed := by simpa using hr
    have hst : qOp P ops C k (wpQuiet P ops C Lq l) a := by unfold qOp; simp only [h0]; exact h
    obtain ⟨v, hy, hK⟩ := yieldsIn_of_qOp h0 hst
    exact wpAnyC_first h0 (Region.noSelect_spec hsel) hs hc hn hkn (fun listed' a' hL j hj => by rw [hL.1.1] at hj; simp at hj; omega) l.length listed a inv (Region.free_spec h0 hf) hr' hy
      (wpAnyC_lex hsel hs hc hn l (k + 1) _ _ (fun j hj => by have := hl (j + 1) (by simp; omega); simpa [Nat.add_assoc, Nat.add_comm 1 j] using this) (by simp only [List.length_cons] at hk; omega) (inv.set hr' hkn) hB' hK)

theorem wpAny_mid {n g : Nat} {Q' : Exit → Act → World → Prop} (hsel : Region.noSelect ops = true) (l : List Oper) (hg : l.length = g) (hl : ∀ j, l[j]? = ops[n + 1 + j]?) {o : Oper} (ho : ops[n]? = some o) (hp : l.all pureOp = true)
    (listed : Array Bool) (a : Act) (h1 : MidAt md ops n g listed) (h : wpList P ops Q' (o :: l) a w) : wpAny P md ops Q' (g + 1) listed a w := by
  obtain ⟨hr, hlex⟩ := h1
  refine ⟨fun h0 => (by rw [hr] at h0; cases h0), fun i hi => ?_⟩
  rw [hr] at hi
  obtain rfl : i = n := by simpa using hi
  have hw : wpOp P ops Q' i (wpList P ops Q' l) a w := by unfold wpOp; simp only [ho]; exact h
  refine wpOp_mono (fun a' w' h' => ?_) hw
  have h2 := wpAnyS_lex (md := md) hsel l (i + 1) (listed.setIfInBounds i true) a' hl (by rw [hg]; exact hlex) (wpStill_of_pure l a' hp h')
  have h3 := wpAny_of_still (Q' := Q') (fun _ h => h) _ _ _ h2
  rwa [hg] at h3

/-- A region that draws: n operations that look, in a class of worlds, one effect, moves behind it. -/
theorem region_class {id : Nat} {Q : Exit → Act → World → Prop} {a : Act} {l : List Oper} (n : Nat) (C : World → Prop) (hm : P.follows .mixedOrders = true) (hB : lexMidB .any l.toArray n = true) (hC : C w.drew)
    (h : wpQuiet P l.toArray C (fun a' => ∀ w', C w' → wpList P l.toArray Q (l.drop n) a' w') (l.take n) a) : (Code.region id l.toArray true).wp P Q a w := by
  simp only [lexMidB, Bool.and_eq_true, decide_eq_true_eq] at hB
  obtain ⟨⟨⟨⟨⟨hsel, hn⟩, hs⟩, hc⟩, hp⟩, hlex⟩ := hB
  have hn' : n < l.length := by simpa using hn
  have htl : (l.take n).length = n := by simp; omega
  have inv0 : HeadInv .any l.toArray n (Array.replicate l.toArray.size false) :=
    ⟨by simp, fun j oj _ hl => (by rw [getD_replicate_false] at hl; cases hl), fun t _ ht => getD_in (by simpa using ht) (getD_replicate_false _ _)⟩
  have H := wpAnyC_lex (md := .any) (g := l.toArray.size - n - 1) hsel hs hc hn (l.take n) 0 _ a (fun j hj => by
    have hj' : j < n := by rw [htl] at hj; exact hj
    simp [hj']) (by simpa using htl) inv0 (by rw [htl]; exact hlex) h
  refine wp_region_any hm ?_
  have hdrop : l.drop n = l[n] :: l.drop (n + 1) := List.drop_eq_getElem_cons hn'
  have := wpAny_of_headC (Q' := Q) (g := l.toArray.size - n - 1 + 1) (fun listed a' w' hw' hL => by
    have hw := hL.2 w' hw'
    rw [hdrop] at hw
    exact wpAny_mid (md := .any) hsel (l.drop (n + 1)) (by simp; omega) (fun j => by simp [List.getElem?_drop]) (by simp [hn']) hp listed a' hL.1 hw) _ _ _ _ hC H
  rw [htl, show n + (l.toArray.size - n - 1 + 1) = l.toArray.size by simp; omega] at this
  exact this

/-- The same where the looks leave the world as it is but for draws. -/
theorem region_mid {id : Nat} {Q : Exit → Act → World → Prop} {a : Act} {l : List Oper} (n : Nat) (hm : P.follows .mixedOrders = true) (hB : lexMidB .any l.toArray n = true)
    (h : wpQuiet P l.toArray (fun w' => ∃ n, w' = w.drewN n) (fun a' => ∀ w', (∃ n, w' = w.drewN n) → wpList P l.toArray Q (l.drop n) a' w') (l.take n) a) : (Code.region id l.toArray true).wp P Q a w :=
  region_class n _ hm hB ⟨1, rfl⟩ h
end

end Go.Proofs.YtjbbapodcngnaaaDoor
