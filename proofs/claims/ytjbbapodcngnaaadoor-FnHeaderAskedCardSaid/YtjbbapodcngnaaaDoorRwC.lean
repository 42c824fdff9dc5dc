/- FnHeaderAsked answers true for every input: what a header tells of a key: the topmost value, whether it is there, all values, how many, and the topmost field's bytes. No condition beyond the row's own: the listed package variables start as the program's text lays them. -/
import Derived.Test.YtjbbapodcngnaaaDoorLwB
import Derived.Test.YtjbbapodcngnaaaDoorRwA
import Derived.Test.YtjbbapodcngnaaaDoorCards
import Derived.Test.YtjbbapodcngnaaaDoorTie
import Derived.SevenTiedAt
namespace Go.Proofs.YtjbbapodcngnaaaDoor
open Go.ChangeShapes Go.WideShapes Go.RowKit Hdr

set_option maxRecDepth 100000 in
theorem headerAsked_lifted (os : Os) (started : os.Started) (H : Type) (enc : TypeId × Value → H) :
    ReturnsInHanded {} Tryd.checked os 3 .any (fun w args => (Rows.fnHeaderAskedSpec.pre enc Tryd.prog Tryd.f3 [] false w args ∧ laidMetH Tryd.prog laid6 w) ∧ sizedMet enc Tryd.prog Tryd.f3 (OpenSpec.ofChange Rows.fnHeaderAskedSpec) false w args)
      (Rows.fnHeaderAskedSpec.post enc Tryd.prog Tryd.f3 false true false false) := by
  refine returnsInHanded_of_change_and (C := Tryd.checked) (X := fun w _ => laidMetH Tryd.prog laid6 w) (fun _ _ _ hh h => h.of_heap hh) own started (by kernel_rfl) Tryd.func3
    (ChangeSpec.witness_shaped (enc := enc) (C := Tryd.checked) (os := os) (X := fun w _ => laidMetH Tryd.prog laid6 w) false (World.doorLaid Tryd.prog 400 os) #[.string ⟨#[]⟩, .string ⟨#[]⟩] 8 rfl (World.shaped_of_RefB (by kernel_rfl) (by kernel_rfl)) (by kernel_rfl) (by kernel_rfl) (by kernel_rfl) (door_met os _)) ?_
  intro W base args ds gs before hval0 hW _ _ hL _
  have hval : ∀ (j : Nat) t v, Tryd.f3.params[j]? = some t → args[j]? = some v → Value.okWide Tryd.prog W .any base t v := hval0
  have hW' := hW
  obtain ⟨p, q, hA0, hV, rfl, hfz, hnd⟩ := hW
  have hA : DataW.TrodAll enc Tryd.prog W 0 (fun _ => true) true Tryd.f3.params.toList args.toList ds p := hA0
  rw [Tryd.params3] at hA hval
  obtain ⟨v0, v1, d0, d1, q0, q1, rfl, rfl, rfl, h0, h1⟩ := trodAll_two hA
  obtain ⟨rfl, rfl⟩ := trodVars_none hV
  obtain ⟨s, rfl, rfl, rfl, hs⟩ := ChangeMaps.open_string Tryd.underlying9 (hval 0 9 v0 rfl rfl) h0
  obtain ⟨k, rfl, rfl, rfl, hk⟩ := ChangeMaps.open_string Tryd.underlying9 (hval 1 9 v1 rfl rfl) h1
  obtain ⟨ea, L⟩ := laid_of hL
  clear hA0 hval0
  have e1 : Rows.fnHeaderAskedSpec.fn H ([.lit (.string s.data.toList), .lit (.string k.data.toList)] ++ []) = { results := [.lit (.bool true)], args := [.lit (.string s.data.toList), .lit (.string k.data.toList)] } := by simp [Rows.fnHeaderAskedSpec]
  have hstr : ∀ s : ByteArray, str s.data.toList = .string s := fun s => by
    obtain ⟨⟨l⟩⟩ := s
    rfl
  have hlaw := fnHeaderAsked_true s.data.toList k.data.toList ea W hs hk L (Nat.le_refl _)
  rw [hstr, hstr] at hlaw
  refine hlaw.mono fun e W' hpost => ?_
  obtain ⟨rfl, hkk⟩ := hpost
  refine ⟨_, rfl, _, _, _, [], [], [], hW', ?_, ?_, ?_, kept_of hkk _, fun h => by cases h⟩
  · rw [e1]; exact trodAll_mk1 (shut_bool Tryd.underlying4 true)
  · rw [e1]; exact trodAll_mk2 (ChangeMaps.shut_string Tryd.underlying9 hs) (ChangeMaps.shut_string Tryd.underlying9 hk)
  · rw [e1]; rfl

theorem fnHeaderAsked_holds : Rows.FnHeaderAskedSaid :=
  OpenClaim.holds_of_wide 3 Tryd.f3 rfl rfl rfl rfl rfl rfl rfl ⟨rfl, rfl, rfl, rfl, rfl⟩ rfl rfl rfl rfl rfl (by kernel_rfl) Tryd.func3 (by kernel_rfl)
    (of_decide_eq_true (by kernel_rfl)) (by unfold Func.isWrapper; rw [if_neg (of_decide_eq_false (by kernel_rfl))]; exact ⟨rfl, rfl⟩)
    (fun os started H enc _ => headerAsked_lifted os started H enc)

theorem fnHeaderAsked_card : Rows.FnHeaderAskedCardSaid :=
  Claim7.holds_tied_plain_at .later [] [.sentinel, .sentinel, .sentinel, .sentinel, .sentinel, .sentinel] true (true, "aa13ebcbc431931a636c9cc64437e5c87b7ae920f312d3eef8c1baa2bfe3906d") true
    fnHeaderAsked_holds (fun _ h => by cases h) (by kernel_rfl) (fun _ h => by cases h) fnHeaderAsked_row_tie rfl ⟨rfl, rfl⟩ (by kernel_rfl) rfl
    (fun f fn hf hfn => by
      obtain rfl : f = 3 := Option.some.inj ((show Tryd.prog.funcNamed "given.example/pub-redelivery/laws.FnHeaderAsked" = some 3 by kernel_rfl).symm.trans hf) |>.symm
      obtain rfl : fn = Tryd.f3 := (Option.some.inj (Tryd.func3.symm.trans hfn)).symm
      exact ⟨by kernel_rfl, fun j t ht => by
        rw [Tryd.params3] at ht
        have h3 : t = 9 := by
          rcases j with _ | _ | j
          · simpa using ht.symm
          · simpa using ht.symm
          · simp at ht
        subst h3
        exact (show Tryd.prog.wantsStandIn 9 = false by kernel_rfl)⟩)
    (by kernel_rfl)
#print axioms fnHeaderAsked_card
end Go.Proofs.YtjbbapodcngnaaaDoor
