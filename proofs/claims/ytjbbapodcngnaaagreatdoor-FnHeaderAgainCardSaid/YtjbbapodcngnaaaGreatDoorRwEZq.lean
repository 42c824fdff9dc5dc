/- FnHeaderAgain answers true for every input: what is written behind a script is read again, and written again, byte by byte, with as many fields and the same keys. No condition beyond the row's own: the listed package variables start as the program's text lays them. -/
import Derived.Test.YtjbbapodcngnaaaGreatDoorZqaj
import Derived.Test.YtjbbapodcngnaaaGreatDoorZqak
import Derived.Test.YtjbbapodcngnaaaGreatDoorCards
import Derived.Test.YtjbbapodcngnaaaGreatDoorTie
import Derived.SevenTiedAt
import Derived.WideKeyArgs
namespace Go.Proofs.YtjbbapodcngnaaaGreatDoor
open Go.ChangeShapes Go.WideShapes Go.RowKit Hdr

set_option maxRecDepth 100000 in
theorem headerAgain_lifted (os : Os) (started : os.Started) (H : Type) (enc : TypeId × Value → H) :
    ReturnsInHanded {} Tryz.checked os 4 .any (fun w args => (Rows.fnHeaderAgainSpec.pre enc Tryz.prog Tryz.f4 [] false w args ∧ laidMetH Tryz.prog laid6 w) ∧ sizedMet enc Tryz.prog Tryz.f4 (OpenSpec.ofChange Rows.fnHeaderAgainSpec) false w args)
      (Rows.fnHeaderAgainSpec.post enc Tryz.prog Tryz.f4 false true false false) := by
  refine returnsInHanded_of_change_and (C := Tryz.checked) (X := fun w _ => laidMetH Tryz.prog laid6 w) (fun _ _ _ hh h => h.of_heap hh) own started (by kernel_rfl) Tryz.func4
    (ChangeSpec.witness_shaped (enc := enc) (C := Tryz.checked) (os := os) (X := fun w _ => laidMetH Tryz.prog laid6 w) false (World.doorLaid Tryz.prog 400 os) #[.string ⟨#[]⟩, .slice none 0 0] 8 rfl (World.shaped_of_RefB (by kernel_rfl) (by kernel_rfl)) (by kernel_rfl) (by kernel_rfl) (by kernel_rfl) (door_met os _)) ?_
  intro W base args ds gs before hval0 hW _ _ hL _
  have hval : ∀ (j : Nat) t v, Tryz.f4.params[j]? = some t → args[j]? = some v → Value.okWide Tryz.prog W .any base t v := hval0
  have hW' := hW
  have hlt := hW.lt
  obtain ⟨p, q, hA0, hV, rfl, hfz, hnd⟩ := hW
  have hA : DataW.TrodAll enc Tryz.prog W 0 (fun _ => true) true Tryz.f4.params.toList args.toList ds p := hA0
  rw [Tryz.params4] at hA hval
  obtain ⟨v0, v1, d0, d1, p0, p1, rfl, rfl, rfl, h0, h1⟩ := trodAll_two hA
  obtain ⟨rfl, rfl⟩ := trodVars_none hV
  obtain ⟨s, rfl, rfl, rfl, hs⟩ := ChangeMaps.open_string Tryz.underlying9 (hval 0 9 v0 rfl rfl) h0
  obtain ⟨ss, hst⟩ := steps_open (hval 1 22 v1 rfl rfl) h1
  obtain ⟨ea, L⟩ := laid_of hL
  clear hA0 hval0
  have e1 : Rows.fnHeaderAgainSpec.fn H ([.lit (.string s.data.toList), d1] ++ []) = { results := [.lit (.bool true)], args := [.lit (.string s.data.toList), d1] } := by simp [Rows.fnHeaderAgainSpec]
  have hstr : str s.data.toList = .string s := by
    obtain ⟨⟨l⟩⟩ := s
    rfl
  have hlaw := fnHeaderAgain_true s.data.toList ss v1 ea W L (Nat.le_refl _) hst
  rw [hstr] at hlaw
  refine hlaw.mono fun e W' hpost => ?_
  obtain ⟨rfl, hk⟩ := hpost
  have hp1 : ∀ x ∈ p1, x.block < W.heap.size := fun x hx => hlt x (by simp [hx])
  have h1' := WideElems.Trod_stays (P := Tryz.prog) laidOutT (by kernel_rfl) (of_decide_eq_true (by kernel_rfl)) (sp' := fun b => decide (b < W.heap.size)) h1 (fun x hx => hk.below.same (hp1 x hx)) (fun x hx => by simpa using hp1 x hx)
  refine ⟨_, rfl, _, _, _, [], p1, [], hW', ?_, ?_, ?_, kept_of hk _, fun h => by cases h⟩
  · rw [e1]; exact trodAll_mk1 (shut_bool Tryz.underlying4 true)
  · rw [e1]; exact trodAll_mk2 (ChangeMaps.shut_string Tryz.underlying9 hs) h1'
  · rw [e1]; rfl

theorem fnHeaderAgain_holds : Rows.FnHeaderAgainSaid :=
  OpenClaim.holds_of_wide 4 Tryz.f4 rfl rfl rfl rfl rfl rfl rfl ⟨rfl, rfl, rfl, rfl, rfl⟩ rfl rfl rfl rfl rfl (by kernel_rfl) Tryz.func4 (by kernel_rfl)
    (of_decide_eq_true (by kernel_rfl)) (by unfold Func.isWrapper; rw [if_neg (of_decide_eq_false (by kernel_rfl))]; exact ⟨rfl, rfl⟩)
    (fun os started H enc _ => headerAgain_lifted os started H enc)

theorem fnHeaderAgain_card : Rows.FnHeaderAgainCardSaid :=
  Claim7.holds_tied_plain_at .later [] [.sentinel, .sentinel, .sentinel, .sentinel, .sentinel, .sentinel] true (true, "687e13c472f8b9493584867242335e1ce4faccd1d1ca70d7ab53d287c20ed27b") true
    fnHeaderAgain_holds (fun _ h => by cases h) (by kernel_rfl) (fun _ h => by cases h) fnHeaderAgain_row_tie rfl ⟨rfl, rfl⟩ (by kernel_rfl) rfl
    (fun f fn hf hfn => by
      obtain rfl : f = 4 := Option.some.inj ((show Tryz.prog.funcNamed "given.example/pub-redelivery/laws.FnHeaderAgain" = some 4 by kernel_rfl).symm.trans hf) |>.symm
      obtain rfl : fn = Tryz.f4 := (Option.some.inj (Tryz.func4.symm.trans hfn)).symm
      exact ⟨by kernel_rfl, fun j t ht => by
        rw [Tryz.params4] at ht
        have h3 : t = 9 ∨ t = 22 := by
          rcases j with _ | _ | j
          · exact .inl (by simpa using ht.symm)
          · exact .inr (by simpa using ht.symm)
          · simp at ht
        rcases h3 with rfl | rfl
        · exact (show Tryz.prog.wantsStandIn 9 = false by kernel_rfl)
        · exact (show Tryz.prog.wantsStandIn 22 = false by kernel_rfl)⟩)
    (by kernel_rfl)
#print axioms fnHeaderAgain_card
end Go.Proofs.YtjbbapodcngnaaaGreatDoor
