/- Regions that draw their order: operations that look, in every world of a class; some effects in a row that keep the class; one last effect that waits for all of them, and moves behind it. One walk serves every order. -/
import Derived.Test.YtjbbapodcngnaaaDoorReg
import Derived.OrdersHeld
namespace Go.Proofs.YtjbbapodcngnaaaDoor
open Go.RowKit

section
variable {P : Program} {ops : Array Oper} {md : Region.Mode} {C : World → Prop} {w : World}

theorem upon_post {o : Oper} {a : Act} {K : Act → World → Prop} {Q Q' : Exit → Act → World → Prop} (h : ∀ e a w, e ≠ .normal → Q e a w → Q' e a w) {r : Result Next} (hu : o.upon P a K Q r) : o.upon P a K Q' r := by
  cases r with
  | ok n w' =>
    cases n <;> simp only [Oper.upon] at hu ⊢ <;> try exact hu
    case enter f args =>
      refine Calls.mono hu fun e w'' he => ?_
      cases e with
      | returned u => exact he
      | panicked c => exact h _ _ _ (by intro h; cases h) he
      | outgrown => obtain ⟨a, w, he⟩ := he; exact ⟨a, w, h _ _ _ (by intro h; cases h) he⟩
  | halt x w' =>
    cases x <;> simp only [Oper.upon] at hu ⊢ <;> try exact hu
    case panic u => exact h _ _ _ (by intro h; cases h) hu
theorem wpOp_post {i : Nat} {a : Act} {K : Act → World → Prop} {Q Q' : Exit → Act → World → Prop} (h : ∀ e a w, e ≠ .normal → Q e a w → Q' e a w) (hu : wpOp P ops Q i K a w) : wpOp P ops Q' i K a w := by
  unfold wpOp at *
  split
  · rename_i h1; simpa only [h1] using hu
  · rename_i o h1
    simp only [h1] at hu
    split
    · rename_i h2
      rw [if_pos h2] at hu
      rcases hu with hu | ⟨h3, a', w', h4⟩
      · exact .inl (upon_post h hu)
      · exact .inr ⟨h3, a', w', h _ _ _ (by intro h; cases h) h4⟩
    · rename_i h2
      rw [if_neg h2] at hu
      exact hu

/-- An operation that looks: it calls no Go function. -/
def lookOp (o : Oper) : Bool :=
  match o.op with
  | .move _ | .assign _ | .load _ _ | .nilCheck _ | .binOp _ _ _ _ _ | .unOp _ _ _ | .slice _ _ _ _ _ | .fieldAddr _ _ _ | .indexAddr _ _ _ | .lookup _ _ _ _ | .extract _ _ | .convert _ _ _ | .build _ _ | .makeInterface _ _ => true
  | .call c => match c.callee with
    | .builtin .len => true
    | .builtin .cap => true
    | _ => false
  | _ => false

theorem value_then {r : Result Value} {n : Next} {w' : World} (h : (r.andThen fun a w' => Result.ok (Next.value a) w') = .ok n w') : ∃ v, n = .value v := by
  cases r with
  | ok v w1 => simp [Result.andThen] at h; exact ⟨v, h.1.symm⟩
  | halt x w1 => simp [Result.andThen] at h

theorem look_value {o : Oper} {ρ : Operand → Value} (h : lookOp o = true) {n : Next} {w' : World} (hr : (execOp ρ o).run P w = .ok n w') : ∃ v, n = .value v := by
  unfold lookOp at h
  unfold execOp at hr
  split at h
  all_goals (first | (rename_i hx; simp only [hx] at hr) | skip)
  all_goals (try simp only [Sem.run_bind, Sem.run_pure] at hr)
  all_goals first
    | exact value_then hr
    | (simp at hr; exact ⟨_, hr.1.symm⟩)
    | skip
  · revert hr
    split
    · simp [runtimePanic]
    · simp [runtimePanic]
    · simp [runtimePanic]
    · split
      · simp [runtimePanic]
      · intro h
        simp only [Sem.run_bind] at h
        cases h1 : (Sem.run P program w) with
        | halt x w1 => rw [h1] at h; simp [Result.andThen] at h
        | ok p w1 =>
          rw [h1] at h
          simp only [Result.andThen] at h
          generalize hn : Sem.run P (nilAhead (p.types.size + Made.depth) _ _ _) w1 = r at h
          cases r with
          | halt x w2 => simp at h
          | ok b w2 =>
            simp only at h
            split at h
            · simp [unsupported] at h
            · simp at h; exact ⟨_, h.1.symm⟩
      · intro h; simp at h; exact ⟨_, h.1.symm⟩
    · intro h; simp at h; exact ⟨_, h.1.symm⟩
  · rename_i c _
    split at h
    · rename_i hc
      simp only [resolve, hc, invoke, builtin, Sem.run_bind, Sem.run_pure, Result.andThen_ok] at hr
      exact value_then hr
    · rename_i hc
      simp only [resolve, hc, invoke, builtin, Sem.run_bind, Sem.run_pure, Result.andThen_ok] at hr
      exact value_then hr
    · cases h
  · cases h

/-- What looks yields: in every world of the class the same, and the world stays. -/
theorem YieldsIn.looks {o : Oper} {v : Value} {a : Act} (h : YieldsIn P ops C o v a) (hl : lookOp o = true) : YieldsIf P ops C o v a := by
  rcases h with ⟨h1, h2⟩ | h
  · refine .inl ⟨h1, fun w hw => ?_⟩
    have h3 := h2 w hw
    unfold Oper.quietAt at h3
    have h4 := @look_value P w o a.eval hl
    generalize (execOp a.eval o).run P w = r at h3 h4
    cases r with
    | halt x w' => exact h3.elim
    | ok n w' =>
      cases n <;> simp only [Oper.quietUpon] at h3
      case value u => obtain ⟨rfl, rfl⟩ := h3; rfl
      case skip => obtain ⟨v, hv⟩ := h4 rfl; cases hv
      case enter f args => obtain ⟨v, hv⟩ := h4 rfl; cases hv
  · exact .inr h

/-- Whatever order is picked among the operations below n; C is kept; then L. -/
def wpAnyE (P : Program) (md : Region.Mode) (ops : Array Oper) (Q : Exit → Act → World → Prop) (C : World → Prop) (n : Nat) (L : Array Bool → Act → World → Prop) : Nat → Array Bool → Act → World → Prop
  | 0, listed, a, w => L listed a w
  | f + 1, listed, a, w =>
    Region.ready md ops listed ≠ [] ∧ ∀ i ∈ Region.ready md ops listed, i < n ∧ wpOp P ops Q i (fun a' w' => C w' ∧ wpAnyE P md ops Q C n L f (listed.setIfInBounds i true) a' w') a w

/-- No way out by a panic. -/
def NoP (Q : Exit → Act → World → Prop) : Exit → Act → World → Prop
  | .panic _, _, _ => False
  | e, a, w => Q e a w
theorem NoP.to {Q : Exit → Act → World → Prop} (e : Exit) (a : Act) (w : World) (h : NoP Q e a w) : Q e a w := by
  cases e <;> first | exact h | exact h.elim

theorem wpAny_of_E {n g : Nat} {L : Array Bool → Act → World → Prop} {Q : Exit → Act → World → Prop} (hL : ∀ listed a w, L listed a w → wpAny P md ops Q g listed a w) :
    ∀ (f : Nat) (listed : Array Bool) (a : Act) (w : World), wpAnyE P md ops (NoP Q) C n L f listed a w → wpAny P md ops Q (f + g) listed a w
  | 0, listed, a, w, h => by rw [Nat.zero_add]; exact hL _ _ _ h
  | f + 1, listed, a, w, h => by
    rw [show f + 1 + g = (f + g) + 1 by omega]
    exact ⟨fun h0 => absurd h0 h.1, fun i hi => wpOp_mono (fun a' w' h' => wpAny_of_E hL f _ a' w' h'.2) (wpOp_post (fun e a w _ h => NoP.to e a w h) (h.2 i hi).2)⟩

theorem wpAnyE_first {n i : Nat} {oi : Oper} {v : Value} {L : Array Bool → Act → World → Prop} {Q : Exit → Act → World → Prop} (hi : ops[i]? = some oi) (hsel : ∀ (j : Nat) (o : Oper) cs b, ops[j]? = some o → o.op ≠ .select cs b)
    (hs : Region.sinkB md ops n = true) (hc : afterB md ops n = true) (hn : n < ops.size) (hin : i < n)
    (hdone : ∀ listed a w, L listed a w → ∀ j ∈ Region.ready md ops listed, n ≤ j) :
    ∀ (f : Nat) (listed : Array Bool) (a : Act) (w : World), HeadInv md ops n listed →
      (∀ j oj, ops[j]? = some oj → j ≠ i → listed.getD j true = false → (∀ e ∈ oj.after, Region.binds md e = true → e.on ≠ i) → oi.apart ops oj = true) →
      i ∈ Region.ready md ops listed → YieldsIf P ops C oi v a → C w →
      wpAnyE P md ops (NoP Q) C n L f (listed.setIfInBounds i true) (a.put oi.dst v) w → wpAnyE P md ops (NoP Q) C n L (f + 1) listed a w := by
  intro f
  induction f with
  | zero =>
    intro listed a w inv _ hr hy hw H
    have hun := (mem_ready.1 hr).1
    refine ⟨fun h => (by rw [h] at hr; cases hr), fun j hj => ?_⟩
    have hjn : j < n := by
      rcases Nat.lt_or_ge j n with h | h
      · exact h
      · exact absurd hj (tail_waits' hs hc hn inv _ i rfl hin hun j h)
    refine ⟨hjn, ?_⟩
    by_cases hji : j = i
    · subst hji; exact hy.wpOp hi hw ⟨hw, H⟩
    · have := hdone _ _ _ H j (ready_mono hj hji)
      omega
  | succ f ih =>
    intro listed a w inv hfree hr hy hw H
    have hun := (mem_ready.1 hr).1
    refine ⟨fun h => (by rw [h] at hr; cases hr), fun j hj => ?_⟩
    have hjn : j < n := by
      rcases Nat.lt_or_ge j n with h | h
      · exact h
      · exact absurd hj (tail_waits' hs hc hn inv _ i rfl hin hun j h)
    refine ⟨hjn, ?_⟩
    by_cases hji : j = i
    · subst hji; exact hy.wpOp hi hw ⟨hw, H⟩
    · have h1 := (H.2 j (ready_mono hj hji)).2
      obtain ⟨hjun, oj, hoj, hall⟩ := mem_ready.1 hj
      have hnot : ∀ e ∈ oj.after, Region.binds md e = true → e.on ≠ i := fun e he hb heq => by
        have h1 := hall e he hb
        rw [heq, getD_both hun] at h1
        cases h1
      have h2 := wpOp_putIf hoj (hfree j oj hoj hji hjun hnot) (fun cs b => hsel i oi cs b hi) (fun cs b => hsel j oj cs b hoj) (fun _ _ _ h => h) hy h1
      have hfree' : ∀ k ok, ops[k]? = some ok → k ≠ i → (listed.setIfInBounds j true).getD k true = false →
          (∀ e ∈ ok.after, Region.binds md e = true → e.on ≠ i) → oi.apart ops ok = true := fun k ok hk hki hun hno => by
        refine hfree k ok hk hki ?_ hno
        by_cases hjk : j = k
        · subst hjk; exact hjun
        · rw [getD_set_ne true hjk] at hun; exact hun
      refine wpOp_mono (fun a' w' h3 => ⟨h3.2.1, ih (listed.setIfInBounds j true) a' w' (inv.set hj hjn) hfree' (ready_mono hr (Ne.symm hji)) h3.1 h3.2.1 ?_⟩) h2
      rw [Array.setIfInBounds_comm _ _ hji]
      exact h3.2.2

/-- The looks in the text's order, then the effects, each alone; then n alone, then the rest in the text's order. -/
def lexEffE (md : Region.Mode) (ops : Array Oper) (n g : Nat) : List Nat → Array Bool → Bool
  | [], listed => decide (Region.ready md ops listed = [n]) && Region.lexFrom md ops g (n + 1) (listed.setIfInBounds n true)
  | k :: ef, listed => decide (k < n) && decide (Region.ready md ops listed = [k]) && lexEffE md ops n g ef (listed.setIfInBounds k true)
def lexEffM (md : Region.Mode) (ops : Array Oper) (n g : Nat) (ef : List Nat) : List Nat → Array Bool → Bool
  | [], listed => lexEffE md ops n g ef listed
  | k :: rd, listed => decide (k < n) && ((ops[k]?).map lookOp == some true) && (Region.ready md ops listed).contains k && Region.free md ops listed k && lexEffM md ops n g ef rd (listed.setIfInBounds k true)

def lexEffB (md : Region.Mode) (ops : Array Oper) (rd ef : List Nat) (n : Nat) : Bool :=
  Region.noSelect ops && decide (n < ops.size) && decide (rd.length + ef.length = n) && Region.sinkB md ops n && afterB md ops n && (ops.toList.drop (n + 1)).all pureOp && lexEffM md ops n (ops.size - n - 1) ef rd (Array.replicate ops.size false)

/-- What stands behind an effect. -/
def EffPost (C : World → Prop) (K : Act → World → Prop) (e : Exit) (a : Act) (w : World) : Prop := e = .normal ∧ C w ∧ K a w
theorem EffPost.intro {C : World → Prop} {K : Act → World → Prop} {a : Act} {w : World} (h1 : C w) (h2 : K a w) : EffPost C K .normal a w := ⟨rfl, h1, h2⟩

/-- Effects, each keeping C; then the rest. -/
def wpEffs (P : Program) (ops : Array Oper) (C : World → Prop) (Q : Exit → Act → World → Prop) : List Oper → List Oper → Act → World → Prop
  | [], tl, a, w => wpList P ops Q tl a w
  | o :: ef, tl, a, w => wpList P ops (EffPost C (wpEffs P ops C Q ef tl)) [o] a w

def pick (l : List Oper) (is : List Nat) : List Oper := is.filterMap fun i => l[i]?

theorem wpAnyE_effs {n g : Nat} {Q : Exit → Act → World → Prop} :
    ∀ (ef : List Nat) (listed : Array Bool) (a : Act) (w : World), (∀ k ∈ ef, k < ops.size) → lexEffE md ops n g ef listed = true → wpEffs P ops C Q (pick ops.toList ef) (ops.toList.drop n) a w →
      wpAnyE P md ops (NoP Q) C n (fun listed' a' w' => MidAt md ops n g listed' ∧ wpList P ops Q (ops.toList.drop n) a' w') ef.length listed a w
  | [], listed, a, w, _, hB, h => by
    simp only [lexEffE, Bool.and_eq_true, decide_eq_true_eq] at hB
    exact ⟨hB, h⟩
  | k :: ef, listed, a, w, hk, hB, h => by
    simp only [lexEffE, Bool.and_eq_true, decide_eq_true_eq] at hB
    obtain ⟨⟨hkn, hr⟩, hB⟩ := hB
    have hks := hk k (List.mem_cons_self ..)
    have h0 : ops[k]? = some ops[k] := Array.getElem?_eq_getElem hks
    have hp : pick ops.toList (k :: ef) = ops[k] :: pick ops.toList ef := by
      unfold pick
      rw [List.filterMap_cons]
      simp [h0]
    rw [hp] at h
    refine ⟨fun h0 => (by rw [hr] at h0; cases h0), fun i hi => ?_⟩
    rw [hr] at hi
    obtain rfl : i = k := by simpa using hi
    refine ⟨hkn, ?_⟩
    have hw : wpOp P ops (EffPost C (wpEffs P ops C Q (pick ops.toList ef) (ops.toList.drop n))) i (wpList P ops (EffPost C (wpEffs P ops C Q (pick ops.toList ef) (ops.toList.drop n))) []) a w := by
      unfold wpOp; simp only [h0]; exact h
    refine wpOp_mono (fun a' w' h' => ?_) (wpOp_post (fun e a w hne h => absurd h.1 hne) hw)
    obtain ⟨_, hC, h'⟩ := h'
    exact ⟨hC, wpAnyE_effs ef _ a' w' (fun k hk' => hk k (List.mem_cons_of_mem _ hk')) hB h'⟩

theorem wpAnyE_looks {n g : Nat} {Q : Exit → Act → World → Prop} (hsel : Region.noSelect ops = true) (hs : Region.sinkB md ops n = true) (hc : afterB md ops n = true) (hn : n < ops.size) (ef : List Nat) (hef : ∀ k ∈ ef, k < ops.size) :
    ∀ (rd : List Nat) (listed : Array Bool) (a : Act) (w : World), HeadInv md ops n listed → lexEffM md ops n g ef rd listed = true → C w →
      wpQuiet P ops C (fun a' => wpEffs P ops C Q (pick ops.toList ef) (ops.toList.drop n) a' w) (pick ops.toList rd) a →
      wpAnyE P md ops (NoP Q) C n (fun listed' a' w' => MidAt md ops n g listed' ∧ wpList P ops Q (ops.toList.drop n) a' w') (rd.length + ef.length) listed a w
  | [], listed, a, w, _, hB, _, h => by
    rw [List.length_nil, Nat.zero_add]
    exact wpAnyE_effs ef listed a w hef hB h
  | k :: rd, listed, a, w, inv, hB, hw, h => by
    simp only [lexEffM, Bool.and_eq_true, decide_eq_true_eq, beq_iff_eq] at hB
    obtain ⟨⟨⟨⟨hkn, hl⟩, hr⟩, hf⟩, hB⟩ := hB
    have hks : k < ops.size := by omega
    have h0 : ops[k]? = some ops[k] := Array.getElem?_eq_getElem hks
    have hp : pick ops.toList (k :: rd) = ops[k] :: pick ops.toList rd := by
      unfold pick
      rw [List.filterMap_cons]
      simp [h0]
    rw [hp] at h
    rw [h0] at hl
    have hl' : lookOp ops[k] = true := by simpa using hl
    have hr' : k ∈ Region.ready md ops listed := by simpa using hr
    have hst : qOp P ops C k (wpQuiet P ops C (fun a' => wpEffs P ops C Q (pick ops.toList ef) (ops.toList.drop n) a' w) (pick ops.toList rd)) a := by unfold qOp; simp only [h0]; exact h
    obtain ⟨v, hy, hK⟩ := yieldsIn_of_qOp h0 hst
    rw [List.length_cons, show rd.length + 1 + ef.length = (rd.length + ef.length) + 1 by omega]
    exact wpAnyE_first h0 (Region.noSelect_spec hsel) hs hc hn hkn (fun listed' a' w' hL j hj => by rw [hL.1.1] at hj; simp at hj; omega) _ listed a w inv (Region.free_spec h0 hf) hr' (YieldsIn.looks hy hl') hw
      (wpAnyE_looks hsel hs hc hn ef hef rd _ _ w (inv.set hr' hkn) hB hw hK)

theorem lexEffE_lt {n g : Nat} (hn : n < ops.size) : ∀ (ef : List Nat) (listed : Array Bool), lexEffE md ops n g ef listed = true → ∀ k ∈ ef, k < ops.size
  | [], _, _ => fun k hk => by cases hk
  | e :: ef, listed, hB => fun k hk => by
    simp only [lexEffE, Bool.and_eq_true, decide_eq_true_eq] at hB
    rcases List.mem_cons.1 hk with rfl | hk
    · omega
    · exact lexEffE_lt hn ef _ hB.2 k hk
theorem lexEff_lt {n g : Nat} (hn : n < ops.size) (ef : List Nat) : ∀ (rd : List Nat) (listed : Array Bool), lexEffM md ops n g ef rd listed = true → ∀ k ∈ ef, k < ops.size
  | [], listed, hB => lexEffE_lt hn ef listed hB
  | r :: rd, listed, hB => fun k hk => by
    simp only [lexEffM, Bool.and_eq_true, decide_eq_true_eq] at hB
    exact lexEff_lt hn ef rd _ hB.2 k hk

theorem region_eff {id : Nat} {Q : Exit → Act → World → Prop} {a : Act} {l : List Oper} (rd ef : List Nat) (n : Nat) (C : World → Prop) (hm : P.follows .mixedOrders = true) (hB : lexEffB .any l.toArray rd ef n = true) (hC : C w.drew)
    (h : ∀ (ι : Type) (F : ι → World), Nonempty ι → (∀ i, C (F i)) → wpQuiet P l.toArray (fun w' => ∃ i, w' = F i) (fun a' => wpEffs P l.toArray C Q (pick l ef) (l.drop n) a' w.drew) (pick l rd) a) : (Code.region id l.toArray true).wp P Q a w := by
  have h' := h {w' // C w'} Subtype.val ⟨⟨_, hC⟩⟩ (fun i => i.2)
  have hcc : (fun w' => ∃ i : {w' // C w'}, w' = i.val) = C := by
    funext w'
    exact propext ⟨fun ⟨i, h⟩ => h ▸ i.2, fun h => ⟨⟨w', h⟩, rfl⟩⟩
  rw [hcc] at h'
  simp only [lexEffB, Bool.and_eq_true, decide_eq_true_eq] at hB
  obtain ⟨⟨⟨⟨⟨⟨hsel, hn⟩, hlen⟩, hs⟩, hc⟩, hp⟩, hlex⟩ := hB
  have hn' : n < l.length := by simpa using hn
  have inv0 : HeadInv .any l.toArray n (Array.replicate l.toArray.size false) :=
    ⟨by simp, fun j oj _ hl => (by rw [getD_replicate_false] at hl; cases hl), fun t _ ht => getD_in (by simpa using ht) (getD_replicate_false _ _)⟩
  have H := wpAnyE_looks (P := P) (md := .any) (C := C) (g := l.toArray.size - n - 1) (Q := Q) hsel hs hc hn ef (lexEff_lt hn ef rd _ hlex) rd _ a w.drew inv0 hlex hC (by simpa using h')
  refine wp_region_any hm ?_
  have hdrop : l.drop n = l[n] :: l.drop (n + 1) := List.drop_eq_getElem_cons hn'
  have := wpAny_of_E (P := P) (md := .any) (Q := Q) (g := l.toArray.size - n - 1 + 1) (fun listed a' w' hL => by
    have hw := hL.2
    rw [hdrop] at hw
    exact wpAny_mid (md := .any) hsel (l.drop (n + 1)) (by simp; omega) (fun j => by simp [List.getElem?_drop]) (by simp [hn']) hp listed a' hL.1 hw) _ _ _ _ H
  rw [hlen, show n + (l.toArray.size - n - 1 + 1) = l.toArray.size by simp; omega] at this
  exact this
end
end Go.Proofs.YtjbbapodcngnaaaDoor
