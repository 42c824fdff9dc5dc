/- FnStructured answers true for every input: the structure of a message: of each part its type, its boundary, what is said of it, how many bytes and lines it has, and its parts. No condition beyond the row's own: the listed package variables start as the program's text lays them. -/
import Derived.Test.YtjbbapodcngnaaaGreatDoorZtjb
import Derived.Test.YtjbbapodcngnaaaGreatDoorZtcb
import Derived.Test.YtjbbapodcngnaaaGreatDoorZtae
import Derived.Test.YtjbbapodcngnaaaGreatDoorCards
import Derived.Test.YtjbbapodcngnaaaGreatDoorTie
import Derived.SevenTiedAt
import Derived.WideKeyArgs
import Derived.Lay
import Derived.LaidSub
import Derived.Lib.LaidTab
import Derived.Stop.LaidErr
namespace Go.Proofs.YtjbbapodcngnaaaGreatDoor
open Go.ChangeShapes Go.WideShapes Go.RowKit Hdr

/-- The listed variables of this row. -/
abbrev laid12 : List (String × DataW Unit) := [("unicode/utf8.acceptRanges", Rows.laid_unicode_utf8_acceptRanges), ("io.EOF", Rows.laid_io_EOF), ("io.ErrNoProgress", Rows.laid_io_ErrNoProgress), ("unicode.White_Space", Rows.laid_unicode_White_Space), ("strings.asciiSpace", Rows.laid_strings_asciiSpace), ("bufio.ErrInvalidUnreadByte", Rows.laid_bufio_ErrInvalidUnreadByte), ("bufio.ErrBufferFull", Rows.laid_bufio_ErrBufferFull), ("bufio.ErrNegativeCount", Rows.laid_bufio_ErrNegativeCount), ("bufio.errNegativeRead", Rows.laid_bufio_errNegativeRead), ("given.example/pub-redelivery/pub/message.errInvalidMediaParameter", Rows.laid_given_example_pub_redelivery_pub_message_errInvalidMediaParameter), ("unicode.CaseRanges", Rows.laid_unicode_CaseRanges), ("unicode/utf8.first", Rows.laid_unicode_utf8_first)]

theorem gSpace : Tryz.prog.globalNamed "strings.asciiSpace" = some 4 := by kernel_rfl
theorem tSpace : (Tryz.prog.globals[4]?).map (·.type) = some 246 := by kernel_rfl
theorem cellsU8 : Tryz.prog.cellsOf 5 = 1 := by kernel_rfl
theorem cellsSpace : Tryz.prog.cellsOf 246 = 256 := by kernel_rfl
theorem gMedia : Tryz.prog.globalNamed "given.example/pub-redelivery/pub/message.errInvalidMediaParameter" = some 1 := by kernel_rfl
theorem tMedia : (Tryz.prog.globals[1]?).map (·.type) = some 93 := by kernel_rfl
/-- strings.asciiSpace: blanks, and nothing else. -/
def spaceZ : List Int := (List.range 256).map fun n => if n = 9 ∨ n = 10 ∨ n = 11 ∨ n = 12 ∨ n = 13 ∨ n = 32 then 1 else 0
theorem space_data : (Rows.laid_strings_asciiSpace : DataW Unit) = Lib.tabData .u8 spaceZ := by kernel_rfl
theorem space_zero : ∀ n : Nat, 48 ≤ n → n ≤ 122 → spaceZ.getD n 0 = 0 := by
  intro n h1 h2
  have h : ((List.range 123).all fun k => decide (k < 48) || spaceZ.getD k 0 == 0) = true := by kernel_rfl
  rw [List.all_eq_true] at h
  have h3 := h n (List.mem_range.2 (by omega))
  rw [decide_eq_false (by omega)] at h3
  exact eq_of_beq h3

theorem laid_of12 {W : World} (h : laidMetH Tryz.prog laid12 W) : ∃ ea, G.FEnv W.heap.size ea W := by
  have h6 := laidMetH.filter (fun x => ["io.EOF", "io.ErrNoProgress", "bufio.ErrInvalidUnreadByte", "bufio.ErrBufferFull", "bufio.ErrNegativeCount", "bufio.errNegativeRead"].contains x.1) h
  have h6' : laidMetH Tryz.prog laid6 W := h6
  obtain ⟨ea, L⟩ := laid_of h6'
  have h1 := laidMetH.filter (fun x => x.1 == "strings.asciiSpace") h
  have h1' : laidMetH Tryz.prog [("strings.asciiSpace", Rows.laid_strings_asciiSpace)] W := h1
  rw [MakeChecks.laidMetH_plain _ _ _ (by kernel_rfl), space_data] at h1'
  have hT := Lib.tabIs_of_head gSpace tSpace Tryz.underlying246 Tryz.underlying5 cellsU8 cellsSpace h1'
  have htab : Tab W := fun n h1 h2 => by
    have := hT.cell gSpace n (by simp [spaceZ]; omega)
    rw [space_zero n h1 h2] at this
    exact this
  have hlt := World.block_lt_of_cell? W _ (htab 48 (by omega) (by omega))
  exact ⟨ea, L, htab, hlt, Nat.le_refl _⟩

set_option maxRecDepth 100000 in
theorem structured_lifted (os : Os) (started : os.Started) (H : Type) (enc : TypeId × Value → H) :
    ReturnsInHanded {} Tryz.checked os 5 .any (fun w args => (Rows.fnStructuredSpec.pre enc Tryz.prog Tryz.f5 [] false w args ∧ laidMetH Tryz.prog laid12 w) ∧ sizedMet enc Tryz.prog Tryz.f5 (OpenSpec.ofChange Rows.fnStructuredSpec) false w args)
      (Rows.fnStructuredSpec.post enc Tryz.prog Tryz.f5 false true false false) := by
  refine returnsInHanded_of_change_and (C := Tryz.checked) (X := fun w _ => laidMetH Tryz.prog laid12 w) (fun _ _ _ hh h => h.of_heap hh) own started (by kernel_rfl) Tryz.func5
    (ChangeSpec.witness_shaped (enc := enc) (C := Tryz.checked) (os := os) (X := fun w _ => laidMetH Tryz.prog laid12 w) false (World.laidAll Tryz.prog os laid12) #[.agg #[.slice none 0 0, .int .i64 0, .string ⟨#[]⟩, .string ⟨#[]⟩, .string ⟨#[]⟩, .string ⟨#[]⟩, .string ⟨#[]⟩, .string ⟨#[]⟩, .slice none 0 0]] 8 (World.laidAll_os _ _ _)
      (World.shaped_of_ZipB (by kernel_rfl) (by kernel_rfl)) (by kernel_rfl) (by kernel_rfl) (by kernel_rfl)
      (by rw [MakeChecks.laidMetH_plain _ _ _ (by kernel_rfl)]; exact laidMet_laidAll _ (by kernel_rfl) (by kernel_rfl))) ?_
  intro W base args ds gs before hval0 hW _ _ hL _
  have hval : ∀ (j : Nat) t v, Tryz.f5.params[j]? = some t → args[j]? = some v → Value.okWide Tryz.prog W .any base t v := hval0
  have hW' := hW
  have hlt := hW.lt
  obtain ⟨p, q, hA0, hV0, rfl, hfz, hnd⟩ := hW
  have hA : DataW.TrodAll enc Tryz.prog W 0 (fun _ => true) true Tryz.f5.params.toList args.toList ds p := hA0
  have hV : DataW.TrodVars enc Tryz.prog W (fun _ => true) ["given.example/pub-redelivery/pub/message.errInvalidMediaParameter"] gs q := hV0
  rw [Tryz.params5] at hA hval
  obtain ⟨v0, d0, rfl, rfl, h0⟩ := trodAll_one hA
  obtain ⟨m, cs, rfl, hm⟩ := mail_in (hval 0 42 v0 rfl rfl) h0
  obtain ⟨ea, FE⟩ := laid_of12 hL
  have hM := laidMetH.filter (fun x => x.1 == "given.example/pub-redelivery/pub/message.errInvalidMediaParameter") hL
  have hM' : laidMetH Tryz.prog [("given.example/pub-redelivery/pub/message.errInvalidMediaParameter", Rows.laid_given_example_pub_redelivery_pub_message_errInvalidMediaParameter)] W := hM
  rw [MakeChecks.laidMetH_plain _ _ _ (by kernel_rfl)] at hM'
  obtain ⟨ma, ms, hmv, _, _, _⟩ := laid_sentinel hM' gMedia tMedia Tryz.underlying93 rowErr Tryz.underlying203 Tryz.underlying205 rfl rfl Tryz.underlying9 cellsErr cellsStr
  obtain ⟨rfl, rfl⟩ := hV.unique (vars_read1 enc gMedia tMedia Tryz.underlying93 hmv trivial _)
  clear hA0 hV0 hval0 hM hM'
  have e1 : Rows.fnStructuredSpec.fn H ([d0] ++ [tok enc (.iface 203 (.pointer (some ma)))]) = { results := [.lit (.bool true)], args := [d0], vars := [tok enc (.iface 203 (.pointer (some ma)))] } := by simp [Rows.fnStructuredSpec]
  have hlaw := G.fnStructured_true m cs.toList ea W FE hm
  rw [show cs.toList.toArray = cs by simp] at hlaw
  refine hlaw.mono fun e W' hpost => ?_
  obtain ⟨rfl, hk⟩ := hpost
  have hp1 : ∀ x ∈ p, x.block < W.heap.size := fun x hx => hlt x (by simp [hx])
  have h1' := WideElems.Trod_stays (P := Tryz.prog) laidOutT (by kernel_rfl) (of_decide_eq_true (by kernel_rfl)) (sp' := fun b => decide (b < W.heap.size)) h0 (fun x hx => hk.below.same (hp1 x hx)) (fun x hx => by simpa using hp1 x hx)
  have hmv' := Joins.var_stays gMedia hmv hk.below (Nat.le_refl _)
  refine ⟨_, rfl, _, _, _, [], p, [.cell 1 0], hW', ?_, ?_, ?_, kept_of hk _, fun h => by cases h⟩
  · rw [e1]; exact trodAll_mk1 (shut_bool Tryz.underlying4 true)
  · rw [e1]; exact trodAll_mk1 h1'
  · rw [e1]; exact vars_read1 enc gMedia tMedia Tryz.underlying93 hmv' trivial _

theorem fnStructured_holds : Rows.FnStructuredSaid :=
  OpenClaim.holds_of_wide 5 Tryz.f5 rfl rfl rfl rfl rfl rfl rfl ⟨rfl, rfl, rfl, rfl, rfl⟩ rfl rfl rfl rfl rfl structured_named Tryz.func5 structured_closed
    (of_decide_eq_true (by as_aux_lemma => kernel_rfl)) (by unfold Func.isWrapper; rw [if_neg (of_decide_eq_false (by as_aux_lemma => kernel_rfl))]; exact ⟨rfl, rfl⟩)
    (fun os started H enc _ => structured_lifted os started H enc)

theorem fnStructured_card : Rows.FnStructuredCardSaid :=
  Claim7.holds_tied_plain_at .later [] [.data, .sentinel, .sentinel, .listed, .data, .sentinel, .sentinel, .sentinel, .sentinel, .sentinel, .pinned, .pinned] true (true, "687e13c472f8b9493584867242335e1ce4faccd1d1ca70d7ab53d287c20ed27b") true
    fnStructured_holds (fun _ h => by cases h) (by kernel_rfl) (fun _ h => by cases h) fnStructured_row_tie rfl ⟨rfl, rfl⟩ (by kernel_rfl) rfl
    (fun f fn hf hfn => by
      obtain rfl : f = 5 := Option.some.inj ((show Tryz.prog.funcNamed "given.example/pub-redelivery/laws.FnStructured" = some 5 by kernel_rfl).symm.trans hf) |>.symm
      obtain rfl : fn = Tryz.f5 := (Option.some.inj (Tryz.func5.symm.trans hfn)).symm
      exact ⟨by kernel_rfl, fun j t ht => by
        rw [Tryz.params5] at ht
        have h3 : t = 42 := by
          rcases j with _ | j
          · simpa using ht.symm
          · simp at ht
        subst h3
        exact (show Tryz.prog.wantsStandIn 42 = false by kernel_rfl)⟩)
    (by kernel_rfl)
#print axioms fnStructured_card
end Go.Proofs.YtjbbapodcngnaaaGreatDoor
