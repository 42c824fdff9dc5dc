/- FnHeaderOf answers true for every input: the fields of a header, and how many bytes are taken, or that it is refused. No condition beyond the row's own: the listed package variables start as the program's text lays them. -/
import Derived.Test.YtjbbapodcngnaaaDoorRwA
import Derived.Test.YtjbbapodcngnaaaDoorCards
import Derived.Test.YtjbbapodcngnaaaDoorTie
import Derived.SevenTiedAt
namespace Go.Proofs.YtjbbapodcngnaaaDoor
open Go.ChangeShapes Go.WideShapes Go.RowKit Hdr

set_option maxRecDepth 100000 in
theorem headerOf_lifted (os : Os) (started : os.Started) (H : Type) (enc : TypeId × Value → H) :
    ReturnsInHanded {} Tryd.checked os 4 .any (fun w args => (Rows.fnHeaderOfSpec.pre enc Tryd.prog Tryd.f4 [] false w args ∧ laidMetH Tryd.prog laid6 w) ∧ sizedMet enc Tryd.prog Tryd.f4 (OpenSpec.ofChange Rows.fnHeaderOfSpec) false w args)
      (Rows.fnHeaderOfSpec.post enc Tryd.prog Tryd.f4 false true false false) := by
  refine returnsInHanded_of_change_and (C := Tryd.checked) (X := fun w _ => laidMetH Tryd.prog laid6 w) (fun _ _ _ hh h => h.of_heap hh) own started (by kernel_rfl) Tryd.func4
    (ChangeSpec.witness_shaped (enc := enc) (C := Tryd.checked) (os := os) (X := fun w _ => laidMetH Tryd.prog laid6 w) false (World.doorLaid Tryd.prog 400 os) #[.string ⟨#[]⟩] 8 rfl (World.shaped_of_RefB (by kernel_rfl) (by kernel_rfl)) (by kernel_rfl) (by kernel_rfl) (by kernel_rfl) (door_met os _)) ?_
  intro W base args ds gs before hval0 hW _ _ hL _
  have hval : ∀ (j : Nat) t v, Tryd.f4.params[j]? = some t → args[j]? = some v → Value.okWide Tryd.prog W .any base t v := hval0
  have hW' := hW
  obtain ⟨p, q, hA0, hV, rfl, hfz, hnd⟩ := hW
  have hA : DataW.TrodAll enc Tryd.prog W 0 (fun _ => true) true Tryd.f4.params.toList args.toList ds p := hA0
  rw [Tryd.params4] at hA hval
  obtain ⟨v0, d0, rfl, rfl, h0⟩ := trodAll_one hA
  obtain ⟨rfl, rfl⟩ := trodVars_none hV
  obtain ⟨s, rfl, rfl, rfl, hs⟩ := ChangeMaps.open_string Tryd.underlying9 (hval 0 9 v0 rfl rfl) h0
  obtain ⟨ea, L⟩ := laid_of hL
  clear hA0 hval0
  have e1 : Rows.fnHeaderOfSpec.fn H ([.lit (.string s.data.toList)] ++ []) = { results := [.lit (.bool true)], args := [.lit (.string s.data.toList)] } := by simp [Rows.fnHeaderOfSpec]
  have hstr : str s.data.toList = .string s := by
    obtain ⟨⟨l⟩⟩ := s
    rfl
  have hlaw := fnHeaderOf_true s.data.toList ea W L (Nat.le_refl _)
  rw [hstr] at hlaw
  refine hlaw.mono fun e W' hpost => ?_
  obtain ⟨rfl, hk⟩ := hpost
  refine ⟨_, rfl, _, _, _, [], [], [], hW', ?_, ?_, ?_, kept_of hk _, fun h => by cases h⟩
  · rw [e1]; exact trodAll_mk1 (shut_bool Tryd.underlying4 true)
  · rw [e1]; exact trodAll_mk1 (ChangeMaps.shut_string Tryd.underlying9 hs)
  · rw [e1]; rfl

theorem fnHeaderOf_holds : Rows.FnHeaderOfSaid :=
  OpenClaim.holds_of_wide 4 Tryd.f4 rfl rfl rfl rfl rfl rfl rfl ⟨rfl, rfl, rfl, rfl, rfl⟩ rfl rfl rfl rfl rfl (by kernel_rfl) Tryd.func4 (by kernel_rfl)
    (of_decide_eq_true (by kernel_rfl)) (by unfold Func.isWrapper; rw [if_neg (of_decide_eq_false (by kernel_rfl))]; exact ⟨rfl, rfl⟩)
    (fun os started H enc _ => headerOf_lifted os started H enc)

theorem fnHeaderOf_card : Rows.FnHeaderOfCardSaid :=
  Claim7.holds_tied_plain_at .later [] [.sentinel, .sentinel, .sentinel, .sentinel, .sentinel, .sentinel] true (true, "aa13ebcbc431931a636c9cc64437e5c87b7ae920f312d3eef8c1baa2bfe3906d") true
    fnHeaderOf_holds (fun _ h => by cases h) (by kernel_rfl) (fun _ h => by cases h) fnHeaderOf_row_tie rfl ⟨rfl, rfl⟩ (by kernel_rfl) rfl
    (fun f fn hf hfn => by
      obtain rfl : f = 4 := Option.some.inj ((show Tryd.prog.funcNamed "given.example/pub-redelivery/laws.FnHeaderOf" = some 4 by kernel_rfl).symm.trans hf) |>.symm
      obtain rfl : fn = Tryd.f4 := (Option.some.inj (Tryd.func4.symm.trans hfn)).symm
      exact ⟨by kernel_rfl, fun j t ht => by
        rw [Tryd.params4] at ht
        have h3 : t = 9 := by
          rcases j with _ | j
          · simpa using ht.symm
          · simp at ht
        subst h3
        exact (show Tryd.prog.wantsStandIn 9 = false by kernel_rfl)⟩)
    (by kernel_rfl)
#print axioms fnHeaderOf_card
end Go.Proofs.YtjbbapodcngnaaaDoor
