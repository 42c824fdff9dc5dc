/- Regions that draw their order: looks and effects by turns. -/
import Derived.Test.YtjbbapodcngnaaaDoorEff
namespace Go.Proofs.YtjbbapodcngnaaaDoor
open Go.RowKit

section
variable {P : Program} {ops : Array Oper} {md : Region.Mode} {C : World → Prop}

def looksM (md : Region.Mode) (ops : Array Oper) (n : Nat) (K : Array Bool → Bool) : List Nat → Array Bool → Bool
  | [], listed => K listed
  | k :: rd, listed => decide (k < n) && ((ops[k]?).map lookOp == some true) && (Region.ready md ops listed).contains k && Region.free md ops listed k && looksM md ops n K rd (listed.setIfInBounds k true)
def segsM (md : Region.Mode) (ops : Array Oper) (n g : Nat) (rl : List Nat) : List (List Nat × Nat) → Array Bool → Bool
  | [], listed => looksM md ops n (fun l => decide (Region.ready md ops l = [n]) && Region.lexFrom md ops g (n + 1) (l.setIfInBounds n true)) rl listed
  | s :: segs, listed => looksM md ops n (fun l => decide (s.2 < n) && decide (Region.ready md ops l = [s.2]) && segsM md ops n g rl segs (l.setIfInBounds s.2 true)) s.1 listed
def segsLen (rl : List Nat) : List (List Nat × Nat) → Nat
  | [] => rl.length
  | s :: segs => s.1.length + (1 + segsLen rl segs)
def segsB (md : Region.Mode) (ops : Array Oper) (segs : List (List Nat × Nat)) (rl : List Nat) (n : Nat) : Bool :=
  Region.noSelect ops && decide (n < ops.size) && decide (segsLen rl segs = n) && Region.sinkB md ops n && afterB md ops n && (ops.toList.drop (n + 1)).all pureOp && segsM md ops n (ops.size - n - 1) rl segs (Array.replicate ops.size false)

/-- Looks: whatever world of the class. -/
def wpLooks (P : Program) (ops : Array Oper) (C : World → Prop) (K : Act → Prop) (l : List Oper) (a : Act) : Prop :=
  ∀ (ι : Type) (F : ι → World), Nonempty ι → (∀ i, C (F i)) → wpQuiet P ops (fun w' => ∃ i, w' = F i) K l a
theorem wpLooks.quiet {K : Act → Prop} {l : List Oper} {a : Act} {w : World} (h : wpLooks P ops C K l a) (hw : C w) : wpQuiet P ops C K l a := by
  have h' := h {w' // C w'} Subtype.val ⟨⟨_, hw⟩⟩ (fun i => i.2)
  have hcc : (fun w' => ∃ i : {w' // C w'}, w' = i.val) = C := by
    funext w'
    exact propext ⟨fun ⟨i, h⟩ => h ▸ i.2, fun h => ⟨⟨w', h⟩, rfl⟩⟩
  rwa [hcc] at h'

def wpSegs (P : Program) (ops : Array Oper) (C : World → Prop) (Q : Exit → Act → World → Prop) (rl tl : List Oper) : List (List Oper × List Oper) → Act → World → Prop
  | [], a, w => wpLooks P ops C (fun a' => wpList P ops Q tl a' w) rl a
  | s :: segs, a, w => wpLooks P ops C (fun a' => wpList P ops (EffPost C (wpSegs P ops C Q rl tl segs)) s.2 a' w) s.1 a

theorem wpAnyE_lk {n f : Nat} {L : Array Bool → Act → World → Prop} {Q : Exit → Act → World → Prop} {KB : Array Bool → Bool} {K : Act → Prop} (hsel : Region.noSelect ops = true) (hs : Region.sinkB md ops n = true) (hc : afterB md ops n = true) (hn : n < ops.size)
    (hL : ∀ listed a w, L listed a w → ∀ j ∈ Region.ready md ops listed, n ≤ j) :
    ∀ (rd : List Nat) (listed : Array Bool) (a : Act) (w : World), HeadInv md ops n listed → looksM md ops n KB rd listed = true → C w → wpQuiet P ops C K (pick ops.toList rd) a →
      (∀ listed' a', HeadInv md ops n listed' → KB listed' = true → K a' → wpAnyE P md ops (NoP Q) C n L f listed' a' w) → wpAnyE P md ops (NoP Q) C n L (rd.length + f) listed a w
  | [], listed, a, w, inv, hB, _, h, hK => by
    rw [List.length_nil, Nat.zero_add]
    exact hK listed a inv hB h
  | k :: rd, listed, a, w, inv, hB, hw, h, hKK => by
    simp only [looksM, Bool.and_eq_true, decide_eq_true_eq, beq_iff_eq] at hB
    obtain ⟨⟨⟨⟨hkn, hl⟩, hr⟩, hf⟩, hB⟩ := hB
    have hks : k < ops.size := by omega
    have h0 : ops[k]? = some ops[k] := Array.getElem?_eq_getElem hks
    have hp : pick ops.toList (k :: rd) = ops[k] :: pick ops.toList rd := by
      unfold pick
      rw [List.filterMap_cons]
      simp [h0]
    rw [hp] at h
    rw [h0] at hl
    have hl' : lookOp ops[k] = true := by simpa using hl
    have hr' : k ∈ Region.ready md ops listed := by simpa using hr
    have hst : qOp P ops C k (wpQuiet P ops C K (pick ops.toList rd)) a := by unfold qOp; simp only [h0]; exact h
    obtain ⟨v, hy, hK⟩ := yieldsIn_of_qOp h0 hst
    rw [List.length_cons, show rd.length + 1 + f = (rd.length + f) + 1 by omega]
    exact wpAnyE_first h0 (Region.noSelect_spec hsel) hs hc hn hkn hL _ listed a w inv (Region.free_spec h0 hf) hr' (YieldsIn.looks hy hl') hw
      (wpAnyE_lk hsel hs hc hn hL rd _ _ w (inv.set hr' hkn) hB hw hK hKK)

def segPick (l : List Oper) (segs : List (List Nat × Nat)) : List (List Oper × List Oper) := segs.map fun s => (pick l s.1, pick l [s.2])

theorem wpAnyE_segs {n g : Nat} {Q : Exit → Act → World → Prop} (rl : List Nat) (hsel : Region.noSelect ops = true) (hs : Region.sinkB md ops n = true) (hc : afterB md ops n = true) (hn : n < ops.size) :
    ∀ (segs : List (List Nat × Nat)) (listed : Array Bool) (a : Act) (w : World), HeadInv md ops n listed → segsM md ops n g rl segs listed = true → C w →
      wpSegs P ops C Q (pick ops.toList rl) (ops.toList.drop n) (segPick ops.toList segs) a w →
      wpAnyE P md ops (NoP Q) C n (fun listed' a' w' => MidAt md ops n g listed' ∧ wpList P ops Q (ops.toList.drop n) a' w') (segsLen rl segs) listed a w
  | [], listed, a, w, inv, hB, hw, h => by
    have := wpAnyE_lk (f := 0) (Q := Q) (L := fun listed' a' w' => MidAt md ops n g listed' ∧ wpList P ops Q (ops.toList.drop n) a' w') hsel hs hc hn (fun listed' a' w' hL j hj => by rw [hL.1.1] at hj; simp at hj; omega) rl listed a w inv hB hw (wpLooks.quiet h hw)
      (fun listed' a' _ hB' hK => by
        simp only [Bool.and_eq_true, decide_eq_true_eq] at hB'
        exact ⟨hB', hK⟩)
    exact this
  | (rd, e) :: segs, listed, a, w, inv, hB, hw, h => by
    refine wpAnyE_lk (f := 1 + segsLen rl segs) (Q := Q) (L := fun listed' a' w' => MidAt md ops n g listed' ∧ wpList P ops Q (ops.toList.drop n) a' w') hsel hs hc hn (fun listed' a' w' hL j hj => by rw [hL.1.1] at hj; simp at hj; omega) rd listed a w inv hB hw (wpLooks.quiet h hw) ?_
    intro listed' a' inv' hB' hK
    simp only [Bool.and_eq_true, decide_eq_true_eq] at hB'
    obtain ⟨⟨hen, hr⟩, hB'⟩ := hB'
    have hks : e < ops.size := by omega
    have h0 : ops[e]? = some ops[e] := Array.getElem?_eq_getElem hks
    have hp : pick ops.toList [e] = [ops[e]] := by
      unfold pick
      rw [List.filterMap_cons]
      simp [h0]
    have hr' : e ∈ Region.ready md ops listed' := by rw [hr]; simp
    rw [Nat.add_comm 1]
    refine ⟨fun h0 => (by rw [hr] at h0; cases h0), fun i hi => ?_⟩
    rw [hr] at hi
    obtain rfl : i = e := by simpa using hi
    refine ⟨hen, ?_⟩
    change wpList P ops (EffPost C (wpSegs P ops C Q (pick ops.toList rl) (ops.toList.drop n) (segPick ops.toList segs))) (pick ops.toList [i]) a' w at hK
    rw [hp] at hK
    have hw2 : wpOp P ops (EffPost C (wpSegs P ops C Q (pick ops.toList rl) (ops.toList.drop n) (segPick ops.toList segs))) i (wpList P ops (EffPost C (wpSegs P ops C Q (pick ops.toList rl) (ops.toList.drop n) (segPick ops.toList segs))) []) a' w := by
      unfold wpOp; simp only [h0]; exact hK
    refine wpOp_mono (fun a'' w'' h' => ?_) (wpOp_post (fun e a w hne h => absurd h.1 hne) hw2)
    obtain ⟨_, hC, h'⟩ := h'
    exact ⟨hC, wpAnyE_segs rl hsel hs hc hn segs _ a'' w'' (inv'.set hr' hen) hB' hC h'⟩

theorem region_segs {id : Nat} {Q : Exit → Act → World → Prop} {a : Act} {w : World} {l : List Oper} (segs : List (List Nat × Nat)) (rl : List Nat) (n : Nat) (C : World → Prop) (hm : P.follows .mixedOrders = true) (hB : segsB .any l.toArray segs rl n = true) (hC : C w.drew)
    (h : wpSegs P l.toArray C Q (pick l rl) (l.drop n) (segPick l segs) a w.drew) : (Code.region id l.toArray true).wp P Q a w := by
  simp only [segsB, Bool.and_eq_true, decide_eq_true_eq] at hB
  obtain ⟨⟨⟨⟨⟨⟨hsel, hn⟩, hlen⟩, hs⟩, hc⟩, hp⟩, hlex⟩ := hB
  have hn' : n < l.length := by simpa using hn
  have inv0 : HeadInv .any l.toArray n (Array.replicate l.toArray.size false) :=
    ⟨by simp, fun j oj _ hl => (by rw [getD_replicate_false] at hl; cases hl), fun t _ ht => getD_in (by simpa using ht) (getD_replicate_false _ _)⟩
  have H := wpAnyE_segs (P := P) (md := .any) (C := C) (g := l.toArray.size - n - 1) (Q := Q) rl hsel hs hc hn segs _ a w.drew inv0 hlex hC (by simpa using h)
  refine wp_region_any hm ?_
  have hdrop : l.drop n = l[n] :: l.drop (n + 1) := List.drop_eq_getElem_cons hn'
  have := wpAny_of_E (P := P) (md := .any) (Q := Q) (g := l.toArray.size - n - 1 + 1) (fun listed a' w' hL => by
    have hw := hL.2
    rw [hdrop] at hw
    exact wpAny_mid (md := .any) hsel (l.drop (n + 1)) (by simp; omega) (fun j => by simp [List.getElem?_drop]) (by simp [hn']) hp listed a' hL.1 hw) _ _ _ _ H
  rw [hlen, show n + (l.toArray.size - n - 1 + 1) = l.toArray.size by simp; omega] at this
  exact this
end
end Go.Proofs.YtjbbapodcngnaaaDoor
