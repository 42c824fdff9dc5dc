/- AddRaw. Del: all fields of a key. Set. One field less, in the map. headerFields.Del. The copy. -/
import Derived.Test.YtjbbapodcngnaaaGreatDoorZqad
import Derived.LaidEqlPtr
namespace Go.Proofs.YtjbbapodcngnaaaGreatDoor
open Go.RowKit Hdr

set_option maxRecDepth 100000 in
set_option maxHeartbeats 2000000 in
theorem AddRaw_any (hb kb kcap : Nat) (kv A B : List UInt8) (hkv : kv = A ++ 58 :: B) (hA : (58 : UInt8) ∉ A) (fs : List Fd) (own : List Nat) (w : World) (h : HMut w own hb fs) (hby : BytesAt w kb 0 kv) (hkb : kb ∉ own) (hcap : kv.length ≤ kcap) (hk : kv.length ≤ 1000000) (hn : fs.length ≤ 1000000) :
    Calls Tryz.prog 76 #[.pointer (some ⟨hb, 0, none⟩), .slice (some ⟨kb, 0, none⟩) kv.length kcap] w (AddPost own hb (canon (trim A)) (joins [] B) (some kv) fs w) := by
  obtain ⟨lb, cap, m, M⟩ := h
  have hix : Lib.indexByte kv 58 = A.length := by
    rw [hkv]
    exact ixb_some hA
  have hLA : kv.length = A.length + 1 + B.length := by rw [hkv]; simp; omega
  have hAt : kv.take A.length = A := by rw [hkv, List.take_left]
  have hBd : kv.drop (A.length + 1) = B := by rw [hkv, List.drop_append, List.drop_eq_nil_of_le (Nat.le_succ _)]; simp
  have hbA : BytesAt w kb 0 A := by have := hby.take A.length; rwa [hAt] at this
  have hBc : BytesAt w kb (cutAt 0 (A.length + 1) kcap 1) B := by
    have := hby.cut_l (A.length + 1) hcap
    rwa [hBd] at this
  have hcl := canon_len (trim A)
  have htl := trim_len A
  generalize hck : canon (trim A) = ck at *
  generalize hjv : joins [] B = v
  have HCK := Lib.hid hck
  have HM := Lib.hid M
  have HKV := Lib.hid hby
  have HBC := Lib.hid hBc
  have HBA := Lib.hid hbA
  have HJV := Lib.hid hjv
  have HKB := Lib.hid hkb
  have HIX := Lib.hid hix
  have h1 : ((A.length : Int) == -1) = false := by simp
  have h2 : (A.length : Int) ≤ (kcap : Int) := by omega
  have h3 : IntKind.i64.wrap ((A.length : Int) + 1) = (A.length : Int) + 1 := by rw [IntKind.wrap_i64]; omega
  have h4 : (A.length : Int) + 1 ≤ (kv.length : Int) := by omega
  have h0 : (0 : Int) ≤ (A.length : Int) := by omega
  have h5 : (0 : Int) ≤ (A.length : Int) + 1 := by omega
  have hA2 : A.length ≤ 1000000 := by omega
  have HLA := Lib.hid hLA
  clear hck M hby hBc hbA hjv hkb hix hkv hA hAt hBd hLA
  go_enter Tryz.func76, Tryz.ntmps76
  go_wp2_with (fail)
  refine (indexByte_any kb 0 kcap kv 58 w HKV.out).mono ?_
  rintro e w ⟨rfl, rfl⟩
  rw [HIX.out]
  go_wp2_with (fail)
  refine (trim_any kb 0 kcap A A.length rfl w HBA.out (by omega) (by omega)).mono ?_
  rintro e w ⟨o5, cap5, rfl, hc5, hbT, rfl⟩
  have hcv := run_string_of w kb o5 cap5 (trim A) (trim A).length rfl hbT
  unfold str at hcv
  go_wp2_with (fail)
  refine (canonicalKey_any (trim A) w (by omega)).mono ?_
  rintro e wk ⟨rfl, kk1⟩
  rw [HCK.out]
  go_wp2_with (fail)
  refine (tan_any kb (cutAt 0 (A.length + 1) kcap 1) (kcap - (A.length + 1)) B (kv.length - (A.length + 1)) (by have := HLA.out; omega) wk (HBC.out.keep kk1 (fun h => h)) (by have := HLA.out; omega) (by have := HLA.out; omega)).mono ?_
  rintro e w1 ⟨rfl, kk2⟩
  rw [HJV.out]
  have k1 := kk1.trans' kk2
  clear kk1 kk2 hcv hbT h1 h2 h3 h4 h0 h5
  have c1 : w1.cell? ⟨hb, 1, none⟩ = some (.map m) := (HM.out.H.keep_no k1).cell 1
  have e1 := run_map_nil m w1
  go_upto_if 28 with (fail)
  go_cut [] (fun wx => ∃ mb own1, Mu wx own1 hb lb cap (some mb) fs ∧ Keeps (In own) w wx ∧ ∀ x ∈ own1, x ∈ own ∨ w.heap.size ≤ x)
  case first =>
    cases m with
    | none =>
      have H1 := (HM.out.H.keep_no k1).alloc (.map #[] 0)
      have fz := H1.frozen
      have c2 : (w1.alloc (.map #[] 0)).cell? ⟨hb, 1, none⟩ = some (.map none) := H1.cell 1
      clear H1
      have e2 := run_makeMap_0 w1
      go_wp2
      go_meet
      exact ⟨w1.heap.size, w1.heap.size :: own, Mu.make_map HM.out k1, (k1.alloc _).of_no.setCell (.inl HM.out.oh) _, fun x hx => by
        rcases List.mem_cons.1 hx with rfl | hx
        · exact .inr k1.size
        · exact .inl hx⟩
    | some mb =>
      go_wp2
      go_meet
      exact ⟨mb, own, HM.out.keep_no k1, k1.of_no, fun x hx => .inl hx⟩
  case rest =>
    obtain ⟨mb, own1, M2, k2, ho1⟩ := hcut
    clear c1 e1
    have HM2 := Lib.hid M2
    clear M2
    go_wp2_with (fail)
    refine (newHeaderField_any ck v (.slice (some ⟨kb, 0, none⟩) kv.length kcap) ⟨_, _, _, rfl⟩ _ ?_).mono ?_
    · exact Nat.le_trans (Nat.le_of_eq (by rw [← HCK.out, canon_len])) (Nat.le_trans (trim_len _) (by omega))
    rintro e w3 ⟨fb, rfl, hf1, hf2, Bf, k3⟩
    have M3 := HM2.out.keep_no k3
    rw [← HCK.out, canon_canon, HCK.out] at Bf
    obtain ⟨f, hfb, hfk, hfv, hfr, hfrv⟩ : ∃ f : Fd, f.blk = fb ∧ f.k = ck ∧ f.v = v ∧ f.raw = some kv ∧ f.rv = .slice (some ⟨kb, 0, none⟩) kv.length kcap := ⟨⟨fb, ck, v, some kv, .slice (some ⟨kb, 0, none⟩) kv.length kcap⟩, rfl, rfl, rfl, rfl, rfl⟩
    have hFf : FdP w3 own1 f := by
      refine ⟨fun hc => ?_, ?_, ?_⟩
      · have := HM2.out.lt _ hc; omega
      · rw [hfb, hfk, hfv, hfrv]; exact Bf
      · rw [hfr]; exact ⟨kb, 0, kcap, hfrv, (fun hc => by
        rcases ho1 kb hc with h | h
        · exact HKB.out h
        · have := HKV.out.lt; omega), HKV.out.keep (k2.trans_no k3) (fun hc => HKB.out hc)⟩
    have HF3 := Lib.hid hFf
    have HM3 := Lib.hid M3
    have HK23 := Lib.hid (k2.trans_no k3)
    have HFE := Lib.hid (And.intro hfk (And.intro hfv hfr))
    have HFB := Lib.hid hfb
    have hfk' := hfk
    clear hFf Bf M3 hfk hfv hfr hfrv hfb k1 k2 k3
    have c0 : w3.cell? ⟨hb, 0, none⟩ = some (.slice (some ⟨lb, 0, none⟩) fs.length cap) := HM3.out.H.cell 0
    obtain ⟨gs, G3⟩ : ∃ gs, MG w3 own1 lb mb gs fs.reverse := by
      rcases HM3.out.M with ⟨h, _⟩ | ⟨mb', gs, h, hG⟩
      · cases h
      · obtain rfl := Option.some.inj h
        exact ⟨gs, hG⟩
    have HG3 := Lib.hid G3
    clear G3
    have HH3 := Lib.hid HM3.out.H
    go_wp2_with (at_builtin; refine wpList_append_p rfl (.tmp 41) (.tmp 43) rfl 0 lb cap fs.length (fs.reverse.map (·.blk)) rfl (by simp) (HM3.out.L.keep ((Keeps.refl No _).alloc _) (fun h => h)) ⟨w3.heap.size, 0, none⟩ 1 1 [fb] rfl rfl (new_one w3 fb _) (by omega) (Nat.zero_le _) ?_; intro g' cap' W4 hL4 k4 hg4; have B4 := (HH3.out.alloc _).keep k4 (fun hc => by simp [In] at hc; exact HM3.out.hl hc); have f4 := B4.frozen; have c4 := B4.cell 0)
    have k5 : Keeps (In [lb, hb]) w3 (W4.setCell ⟨hb, 0, none⟩ (.slice (some ⟨g', 0, none⟩) (fs.length + 1) cap')) := (((Keeps.refl (In [lb, hb]) w3).alloc _).trans k4 (fun _ _ h => by simp only [In, List.mem_cons, List.not_mem_nil, or_false] at h ⊢; exact .inl h)).setCell (.inl (by simp [In])) _
    have B5 := B4.set 0 (.slice (some ⟨g', 0, none⟩) (fs.length + 1) cap')
    have L5 : PO (W4.setCell ⟨hb, 0, none⟩ (.slice (some ⟨g', 0, none⟩) (fs.length + 1) cap')) 0 g' cap' (fs.reverse.map (·.blk) ++ [fb]) := hL4.keep (S := In [hb]) ((Keeps.refl _ _).setCell (.inl (by simp [In])) _) (fun hc => by
      simp [In] at hc
      subst hc
      obtain ⟨_, _, _, cur, hB, _⟩ := hL4
      exact B4.ne hB (by decide) rfl)
    generalize W4.setCell ⟨hb, 0, none⟩ (.slice (some ⟨g', 0, none⟩) (fs.length + 1) cap') = w5 at *
    have hg5 : g' = lb ∨ w3.heap.size ≤ g' := by
      rcases hg4 with h | h
      · exact .inl h
      · exact .inr (Nat.le_trans (Nat.le_of_lt (by simp)) h)
    have G5 := HM3.out.list HG3.out k5 hg5
    have F5 : ∀ h ∈ f :: fs, FdP w5 (g' :: own1) h := fun h hh => by
      have ho : ∀ x ∈ g' :: own1, x ∈ own1 ∨ w3.heap.size ≤ x := fun x hx => by
        rcases List.mem_cons.1 hx with rfl | hx
        · rcases hg5 with rfl | hg5
          · exact .inl HM3.out.ol
          · exact .inr hg5
        · exact .inl hx
      have hS : ∀ x, x < w3.heap.size → In [lb, hb] x → x ∈ own1 := fun x _ hx => by
        simp only [In, List.mem_cons, List.not_mem_nil, or_false] at hx
        rcases hx with rfl | rfl
        · exact HM3.out.ol
        · exact HM3.out.oh
      rcases List.mem_cons.1 hh with rfl | hh
      · exact HF3.out.step k5 hS ho
      · exact (HM3.out.F h hh).step k5 hS ho
    have c5 : w5.cell? ⟨hb, 1, none⟩ = some (.map (some mb)) := B5.cell 1
    have hM5 := G5.E
    obtain ⟨v0, ps0, hlk, hown, hpl, hov, hfin⟩ := mg_push G5 f
    rw [hfk'] at hlk
    have HFIN := Lib.hid hfin
    have HOWN := Lib.hid hown
    have HOV := Lib.hid hov
    have HG5 := Lib.hid G5
    have HF5 := Lib.hid F5
    have HL5 := Lib.hid L5
    have HB5 := Lib.hid B5
    have HHG := Lib.hid hg5
    have hpl2 : ps0.length ≤ 1000000 := by simp at hpl; omega
    clear hfin hown hov G5 F5 L5 B5 hg5 hg4 f4 c4 B4 hL4 k4 c0 hpl
    refine region_eff [0, 1, 2, 3, 4, 5, 6, 7, 8, 9, 10, 11] [12, 13] 14 (fun W => W.cell? ⟨hb, 1, none⟩ = some (.map (some mb)) ∧ MapE W mb gs) (by kernel_rfl) (by kernel_rfl) ?_ ?_
    · exact ⟨c5, hM5.keep ((Keeps.refl No _).drew) (fun h => h)⟩
    intro ι F hne hF
    have d1 := fun j => (hF j).1
    have d2 := fun j => hlk _ (hF j).2
    clear hF hlk
    simp only [pick, List.filterMap_cons, List.filterMap_nil, List.getElem?_cons_succ, List.getElem?_cons_zero, List.drop_succ_cons, List.drop_zero]
    repeat (quiet_step (fail))
    refine wpQuiet_nil ?_
    obtain ⟨i0, hi, hz0, hz1, hz2⟩ := info_parts info_hf
    rw [wpEffs]
    go_wp2
    have kA : Keeps No w5 (w5.alloc (.cells #[.pointer (some ⟨fb, 0, none⟩)] 160)).drew := ((Keeps.refl No w5).alloc _).drew
    have hvh : v0.ownBlock ≠ some hb := fun h => HOWN.out.ne_hb HB5.out hb h rfl
    have hvm : v0.ownBlock ≠ some mb := fun h => (HOV.out mb h).2.2 rfl
    refine EffPost.intro ⟨kA.cell c5 (fun h => h), hM5.keep kA (fun h => h)⟩ ?_
    rw [wpEffs]
    go_wp2_with (at_builtin; refine wpList_append_own_at _ rfl (.tmp 57) (.tmp 59) 71 rfl 0 160 i0 (.pointer none) 1 8 Tryz.underlying71 hi hz0 hz1 hz2 rfl (by decide) v0 ps0.length (ptrs ps0) rfl (PS.keep HOWN.out kA (fun _ _ h => h)) ⟨w5.heap.size, 0, none⟩ 1 1 (ptrs [fb]) rfl rfl ?c1 (ptrs_one _) ?c3 ?c4 ?c5 ?_)
    case c1 =>
      intro j u hj
      match j, hj with
      | 0, hj => simp [ptrs] at hj; subst hj; simp [Addr.add]
      | j + 1, hj => simp [ptrs] at hj
    case c3 => unfold maxLen; omega
    case c4 => omega
    case c5 => simp
    intro v' w6 hown' hgrow _ hloc
    have kG : Keeps (fun k => v0.ownBlock = some k) w5 w6 := (kA.of_no).grown hgrow (fun k hk => .inl hk)
    have hloc' : v'.ownBlock = v0.ownBlock ∨ ∃ g, v'.ownBlock = some g ∧ w5.heap.size ≤ g := hloc.imp id (fun h => ⟨_, h, by simp⟩)
    have hP : PS w6 0 v' (ps0 ++ [fb]) := by
      rw [← ptrs_append, show ps0.length + 1 = (ps0 ++ [fb]).length by simp] at hown'
      exact hown'
    rw [← HFB.out] at hP
    have HUP := HFIN.out v' w6 hP kG hloc'
    rw [hfk'] at HUP
    have HUP' := Lib.hid HUP
    clear HUP hP hown' hgrow hloc hloc'
    go_wp2
    refine EffPost.intro ⟨kG.cell c5 hvh, hM5.keep kG hvm⟩ ?_
    rw [wpEffs]
    go_wp2_with (at_mapUpdate; refine wpList_update rfl (.tmp 50) (.tmp 51) (.tmp 60) rfl mb ck v' rfl rfl rfl HUP'.out ?_; rintro W ⟨gs', hM', hG', hog', kW⟩)
    go_wp2
    go_end0
    have hmh := HG5.out.E.ne HB5.out
    have hm2 : mb ∈ own1 := HG3.out.om
    have h35 := k5.size
    have h23 := HK23.out.size
    have hg2 : g' ∈ own1 ∨ w3.heap.size ≤ g' := by
      rcases HHG.out with h | h
      · exact .inl (h ▸ HM3.out.ol)
      · exact .inr h
    have k56 : Keeps (In (g' :: own1)) w5 W := by
      refine (kG.mono (fun k _ h => ?_)).trans kW (fun k _ h => ?_)
      · exact (HOV.out k h).1
      · simp only [In, List.mem_cons, List.not_mem_nil, or_false] at h
        exact h ▸ HG5.out.om
    have B6 : Blk W hb [.slice (some ⟨g', 0, none⟩) (fs.length + 1) cap', .map (some mb)] 74 := (HB5.out.keep kG (fun h => hvh h)).keep kW (fun h => by
      simp only [In, List.mem_cons, List.not_mem_nil, or_false] at h
      exact hmh h.symm)
    have hgm : mb ≠ g' := by
      obtain ⟨_, _, _, cur, hB, _⟩ := HL5.out
      exact HG5.out.E.ne hB
    have L6 : PO W 0 g' cap' (fs.reverse.map (·.blk) ++ [f.blk]) := by
      rw [HFB.out]
      exact (HL5.out.keep kG (fun h => (HOV.out g' h).2.1 rfl)).keep kW (fun h => by
        simp only [In, List.mem_cons, List.not_mem_nil, or_false] at h
        exact hgm h.symm)
    obtain ⟨hmu, ho⟩ := mu_final B6 rfl L6 hM' hG' hog' (List.mem_cons_self ..) (fun x hx => by
      rcases List.mem_cons.1 hx with rfl | hx
      · exact HL5.out.lt
      · exact Nat.lt_of_lt_of_le (HM3.out.lt x hx) h35) (List.mem_cons_of_mem _ HM3.out.oh) (List.mem_cons_of_mem _ hm2) HF5.out k56 HM3.out.N (fun h hh => by
      have := (HM2.out.F h hh).B.lt
      rw [HFB.out]
      omega)
    have hin : ∀ x ∈ g' :: own1, x ∈ own ∨ w.heap.size ≤ x := fun x hx => by
      rcases List.mem_cons.1 hx with rfl | hx
      · rcases hg2 with h | h
        · exact ho1 _ h
        · exact .inr (by omega)
      · exact ho1 _ hx
    have hin2 : ∀ S : Nat → Prop, (∀ x, S x → x ∈ g' :: own1) → ∀ x, x < w.heap.size → S x → In own x := fun S hS x hx h => by
      rcases hin x (hS x h) with h | h
      · exact h
      · omega
    refine ⟨rfl, f, HFE.out.1, HFE.out.2.1, HFE.out.2.2, _, hmu, (HK23.out.trans k5 (hin2 _ (fun x h => ?_))).trans k56 (hin2 _ (fun x h => h)), fun x hx => ?_⟩
    · simp only [In, List.mem_cons, List.not_mem_nil, or_false] at h
      rcases h with rfl | rfl
      · exact List.mem_cons_of_mem _ HM3.out.ol
      · exact List.mem_cons_of_mem _ HM3.out.oh
    · rcases ho x hx with h | h
      · exact hin x h
      · exact .inr (by omega)
end Go.Proofs.YtjbbapodcngnaaaGreatDoor
namespace Go.Proofs.YtjbbapodcngnaaaGreatDoor
open Go.RowKit Hdr

theorem nodup_rev {l : List Nat} (h : l.Nodup) : l.reverse.Nodup := List.pairwise_reverse.2 (h.imp fun h => h.symm)
theorem map_erase {α β : Type} (f : α → β) (l : List α) (i : Nat) : (l.eraseIdx i).map f = (l.map f).eraseIdx i := by
  simp [List.eraseIdx_eq_take_drop_succ, List.map_take, List.map_drop]
/-- Elements that lie in blocks of their own: one is taken away. -/
theorem nodup_erase : ∀ (l : List Fd) (i : Nat) (hi : i < l.length), (l.map (·.blk)).Nodup → l.eraseIdx i = l.filter (fun g => decide (g.blk ≠ l[i].blk))
  | x :: l, 0, _, h => by
    simp only [List.map_cons, List.nodup_cons] at h
    simp only [List.eraseIdx_cons_zero, List.getElem_cons_zero]
    rw [List.filter_cons_of_neg (by simp)]
    symm
    rw [List.filter_eq_self]
    intro g hg
    simp only [ne_eq, decide_eq_true_eq]
    exact fun e => h.1 (e ▸ List.mem_map_of_mem hg)
  | x :: l, i + 1, hi, h => by
    simp only [List.map_cons, List.nodup_cons] at h
    have hi' : i < l.length := by simpa using hi
    simp only [List.eraseIdx_cons_succ, List.getElem_cons_succ]
    rw [List.filter_cons_of_pos, nodup_erase l i hi' h.2]
    simp only [ne_eq, decide_eq_true_eq]
    exact fun e => h.1 (e ▸ List.mem_map_of_mem (List.getElem_mem hi'))

/-- A header on its way: its list holds l, its map ms. -/
structure MuL (w : World) (own : List Nat) (hb lb cap : Nat) (m : Option Nat) (l ms : List Fd) : Prop where
  H : Blk w hb [.slice (some ⟨lb, 0, none⟩) l.length cap, .map m] 74
  L : PO w 0 lb cap (l.map (·.blk))
  M : (m = none ∧ ms = []) ∨ ∃ mb gs, m = some mb ∧ MG w own lb mb gs ms
  F : ∀ f ∈ l, FdP w own f
  oh : hb ∈ own
  ol : lb ∈ own
  lt : ∀ x ∈ own, x < w.heap.size
theorem Mu.toL {w : World} {own : List Nat} {hb lb cap : Nat} {m : Option Nat} {fs : List Fd} (h : Mu w own hb lb cap m fs) : MuL w own hb lb cap m fs.reverse fs.reverse :=
  ⟨by have := h.H; rwa [← List.length_reverse] at this, h.L, h.M.imp (fun h => ⟨h.1, by rw [h.2]; rfl⟩) id, fun f hf => h.F f (List.mem_reverse.1 hf), h.oh, h.ol, h.lt⟩
theorem MuL.toMu {w : World} {own : List Nat} {hb lb cap : Nat} {m : Option Nat} {l : List Fd} (h : MuL w own hb lb cap m l l) (hN : (l.map (·.blk)).Nodup) : Mu w own hb lb cap m l.reverse := by
  refine ⟨by rw [List.length_reverse]; exact h.H, by rw [List.reverse_reverse]; exact h.L, ?_, fun f hf => h.F f (List.mem_reverse.1 hf), h.oh, h.ol, h.lt, ?_⟩
  · rw [List.reverse_reverse]
    exact h.M.imp (fun h => ⟨h.1, by rw [h.2]; rfl⟩) id
  · rw [List.map_reverse]
    exact nodup_rev hN
theorem MuL.keep_no {w w' : World} {own : List Nat} {hb lb cap : Nat} {m : Option Nat} {l ms : List Fd} (h : MuL w own hb lb cap m l ms) (k : Keeps No w w') : MuL w' own hb lb cap m l ms := by
  refine ⟨h.H.keep_no k, h.L.keep k (fun h => h), ?_, fun f hf => (h.F f hf).step k (fun _ _ h => h.elim) (fun _ h => .inl h), h.oh, h.ol, fun x hx => Nat.lt_of_lt_of_le (h.lt x hx) k.size⟩
  rcases h.M with h3 | ⟨mb, gs, h3, h4⟩
  · exact .inl h3
  · exact .inr ⟨mb, gs, h3, h4.keep k (fun h => h) (fun x hx g hg => ⟨fun h => h, (h4.og x hx g hg).2⟩) (fun _ h => h)⟩
theorem MuL.hl {w : World} {own : List Nat} {hb lb cap : Nat} {m : Option Nat} {l ms : List Fd} (h : MuL w own hb lb cap m l ms) : hb ≠ lb := by
  obtain ⟨_, _, _, cur, hB, _⟩ := h.L
  exact h.H.ne hB (by decide)

/-- The first pointers of a slice; its last ones. -/
theorem po_take {w : World} {g cap : Nat} {l a b : List Nat} (h : PO w 0 g cap l) (e : l = a ++ b) : PO w.drew 0 g cap a := by
  subst e
  obtain ⟨h1, h2, h3, cur, hb, h4, h5⟩ := h
  refine ⟨h1, by simp at h2; omega, h3, cur, hb, h4, ?_⟩
  have := congrArg (List.take a.length) h5
  rw [List.take_take, ptrs_append, List.take_left' (ptrs_length a), Nat.min_eq_left (by simp)] at this
  exact this
theorem po_rest {w : World} {g cap i : Nat} {l a b : List Nat} (h : PO w 0 g cap l) (e : l = a ++ b) (hi : i = a.length) : ∀ j u, (ptrs b)[j]? = some u → w.drew.cell? ((⟨g, cutAt 0 i cap 1, none⟩ : Addr).add j) = some u := by
  subst e
  subst hi
  intro j u hj
  have hjl : j < b.length := by
    have := (List.getElem?_eq_some_iff.1 hj).1
    simpa using this
  have hle := h.2.1
  rw [List.length_append] at hle
  rw [cutAt_lt (by omega)]
  have hc := h.own.ptrs.cell_of (i := a.length + j) (x := b[j]) (by rw [List.getElem?_append_right (by omega)]; simp)
  simp [ptrs, hjl] at hj
  subst hj
  simp only [Addr.add, Nat.zero_add, Nat.mul_one]
  split
  · rename_i h
    subst h
    exact hc
  · exact hc

/-- The list is another one. -/
theorem MuL.relist {w W : World} {own : List Nat} {hb lb cap g' cap' n : Nat} {m : Option Nat} {l l' ms : List Fd} (h : MuL w own hb lb cap m l ms) (hn : n = l'.length) (hl : ∀ f ∈ l', f ∈ l) (k : Keeps (In [lb]) w W) (hg : g' = lb ∨ w.heap.size ≤ g') (hL : PO W 0 g' cap' (l'.map (·.blk))) :
    MuL (W.setCell ⟨hb, 0, none⟩ (.slice (some ⟨g', 0, none⟩) n cap')) (g' :: own) hb g' cap' m l' ms ∧ Keeps (In own) w (W.setCell ⟨hb, 0, none⟩ (.slice (some ⟨g', 0, none⟩) n cap')) ∧ ∀ x ∈ g' :: own, x ∈ own ∨ w.heap.size ≤ x := by
  subst hn
  have B := h.H.keep k (fun hc => by simp [In] at hc; exact h.hl hc)
  have B' := B.set 0 (.slice (some ⟨g', 0, none⟩) l'.length cap')
  have L' : PO (W.setCell ⟨hb, 0, none⟩ (.slice (some ⟨g', 0, none⟩) l'.length cap')) 0 g' cap' (l'.map (·.blk)) := hL.keep (S := In [hb]) ((Keeps.refl _ _).setCell (.inl (by simp [In])) _) (fun hc => by
    simp [In] at hc
    subst hc
    obtain ⟨_, _, _, cur, hB, _⟩ := hL
    exact B.ne hB (by decide) rfl)
  have k2 : Keeps (In [lb, hb]) w (W.setCell ⟨hb, 0, none⟩ (.slice (some ⟨g', 0, none⟩) l'.length cap')) := (k.mono (fun x _ h => by simp only [In, List.mem_cons, List.not_mem_nil, or_false] at h ⊢; exact .inl h)).setCell (.inl (by simp [In])) _
  generalize W.setCell ⟨hb, 0, none⟩ (.slice (some ⟨g', 0, none⟩) l'.length cap') = w5 at *
  have hS : ∀ x, x < w.heap.size → In [lb, hb] x → x ∈ own := fun x _ hx => by
    simp only [In, List.mem_cons, List.not_mem_nil, or_false] at hx
    rcases hx with rfl | rfl
    · exact h.ol
    · exact h.oh
  have ho : ∀ x ∈ g' :: own, x ∈ own ∨ w.heap.size ≤ x := fun x hx => by
    rcases List.mem_cons.1 hx with rfl | hx
    · rcases hg with rfl | hg
      · exact .inl h.ol
      · exact .inr hg
    · exact .inl hx
  refine ⟨⟨B', L', ?_, fun f hf => (h.F f (hl f hf)).step k2 hS ho, List.mem_cons_of_mem _ h.oh, List.mem_cons_self .., fun x hx => ?_⟩, k2.mono hS, ho⟩
  · rcases h.M with h3 | ⟨mb, gs, h3, h4⟩
    · exact .inl h3
    · refine .inr ⟨mb, gs, h3, h4.keep k2 (fun hc => ?_) (fun x hx g hgx => ?_) (fun _ h => List.mem_cons_of_mem _ h)⟩
      · simp only [In, List.mem_cons, List.not_mem_nil, or_false] at hc
        rcases hc with rfl | rfl
        · obtain ⟨_, _, _, cur, hB, _⟩ := h.L
          exact h4.E.ne hB rfl
        · exact h4.E.ne h.H rfl
      · obtain ⟨h1, h2⟩ := h4.og x hx g hgx
        have h5 := (h4.G.own x hx).ne_hb h.H g hgx
        have h6 := ((h4.G.own x hx).lt g hgx).2
        refine ⟨fun hc => ?_, ?_⟩
        · simp only [In, List.mem_cons, List.not_mem_nil, or_false] at hc
          rcases hc with hc | hc
          · exact h2 hc
          · exact h5 hc
        · rcases hg with rfl | hg
          · exact h2
          · omega
  · rcases List.mem_cons.1 hx with rfl | hx
    · exact L'.lt
    · exact Nat.lt_of_lt_of_le (h.lt x hx) k2.size

/-- 'delete(m, k)'. -/
theorem run_delete (w : World) (mb : Nat) (gs : List Grp) (k : List UInt8) (ty : TypeId) (h : MapE w mb gs) (hk : gs.Pairwise (fun x y => x.key ≠ y.key)) :
    ∃ W, (Builtin.delete_ #[72, 9] ty #[.map (some mb), str k]).run Tryz.prog w = .ok (.tuple #[]) W ∧ MapE W mb (gs.filter (fun x => decide (x.key ≠ k))) ∧ Keeps (In [mb]) w W := by
  have hlt := h.lt
  obtain ⟨es, c, hb, he⟩ := h
  rcases grp_cases gs k with hn | ⟨a, x, b, rfl, hxk, hn⟩
  · have hf := findNow_none k es.toList gs 0 he hn
    refine ⟨setM w mb (.map es c), ?_, ⟨_, _, setM_same _ hlt, ?_⟩, setM_keeps _ _ _⟩
    · simp [Builtin.delete_, run_underlying und_map, MapKept.run_getObj_map hb, check_str, Instr.findKey, run_underlying Tryz.underlying9, hf, MapKept.run_setObj_map _ hb, Result.andThen, setM]
    · rw [he, List.filter_eq_self.2 (fun x hx => decide_eq_true (hn x hx))]
  · have hf := findNow_some k x hxk b es.toList a 0 he hn
    rw [Nat.zero_add] at hf
    have hlen : es.size = a.length + 1 + b.length := by
      have := congrArg List.length he
      simp at this
      omega
    have hal : a.length < es.size := by omega
    refine ⟨setM w mb (.map (es.eraseIdxIfInBounds a.length) c), ?_, ⟨_, _, setM_same _ hlt, ?_⟩, setM_keeps _ _ _⟩
    · simp [Builtin.delete_, run_underlying und_map, MapKept.run_getObj_map hb, check_str, Instr.findKey, run_underlying Tryz.underlying9, hf, MapKept.run_setObj_map _ hb, Result.andThen, setM]
    · unfold Array.eraseIdxIfInBounds
      rw [dif_pos hal]
      rw [Array.toList_eraseIdx, map_erase, he]
      rw [List.pairwise_append, List.pairwise_cons] at hk
      rw [List.filter_append, List.filter_cons_of_neg (by simp [hxk]), List.filter_eq_self.2 (fun x hx => decide_eq_true (hn x hx)), List.filter_eq_self.2 (fun y hy => decide_eq_true (by rw [← hxk]; exact (hk.2.1.1 y hy).symm))]
      rw [List.map_append, List.map_cons, List.map_append, List.eraseIdx_append_of_length_le (by simp)]
      simp
theorem Grouped.without {w : World} {base : Nat} {gs : List Grp} {fs : List Fd} (h : Grouped w base gs fs) (k : List UInt8) : Grouped w base (gs.filter (fun x => decide (x.key ≠ k))) (fs.filter (fun f => decide (f.k ≠ k))) := by
  refine ⟨h.keys.filter _, h.apart.filter _, fun x hx => h.own x ((List.mem_filter.1 hx).1), fun x hx => h.some_ x ((List.mem_filter.1 hx).1), fun x hx => ?_, fun f hf => ?_⟩
  · rw [h.of x ((List.mem_filter.1 hx).1), List.filter_filter]
    congr 1
    apply List.filter_congr
    intro f _
    have h2 := (List.mem_filter.1 hx).2
    simp only [ne_eq, decide_eq_true_eq] at h2
    by_cases h3 : f.k = x.key
    · have h4 : f.k ≠ k := fun e => h2 (h3 ▸ e)
      simp [h3, h2]
    · simp [h3]
  · obtain ⟨h1, h2⟩ := List.mem_filter.1 hf
    obtain ⟨x, hx, hxk⟩ := h.all f h1
    exact ⟨x, List.mem_filter.2 ⟨hx, by rw [hxk]; exact h2⟩, hxk⟩
theorem MG.delete {w W : World} {own : List Nat} {lb mb : Nat} {gs : List Grp} {fsr : List Fd} (h : MG w own lb mb gs fsr) (k : List UInt8) (hE : MapE W mb (gs.filter (fun x => decide (x.key ≠ k)))) (kW : Keeps (In [mb]) w W) :
    MG W own lb mb (gs.filter (fun x => decide (x.key ≠ k))) (fsr.filter (fun f => decide (f.k ≠ k))) :=
  ⟨hE, (h.G.keep kW (fun x hx b hb hc => by
    simp [In] at hc
    exact (h.G.own x hx).ne_mb h.E b hb hc)).without k, h.om, fun x hx => h.og x ((List.mem_filter.1 hx).1)⟩
theorem MuL.unmap {w W : World} {own : List Nat} {hb lb cap mb : Nat} {l ms : List Fd} (h : MuL w own hb lb cap (some mb) l ms) {ms' : List Fd} {gs' : List Grp} (kW : Keeps (In own) w W) (hnh : Blk W hb [.slice (some ⟨lb, 0, none⟩) l.length cap, .map (some mb)] 74) (hL : PO W 0 lb cap (l.map (·.blk))) (hM : MG W own lb mb gs' ms') : MuL W own hb lb cap (some mb) l ms' :=
  ⟨hnh, hL, .inr ⟨mb, gs', rfl, hM⟩, fun f hf => (h.F f hf).step kW (fun _ _ h => h) (fun _ h => .inl h), h.oh, h.ol, fun x hx => Nat.lt_of_lt_of_le (h.lt x hx) kW.size⟩
theorem run_delete_nil (w : World) (k : List UInt8) (ty : TypeId) : (Builtin.delete_ #[72, 9] ty #[.map none, str k]).run Tryz.prog w = .ok (.tuple #[]) w := by
  simp [Builtin.delete_, run_underlying und_map, check_str, Result.andThen]

/-- 'delete', at the operation. -/
theorem wpList_delete {w : World} {ops : Array Oper} {rest : List Oper} {o : Oper} {a : Act} {Q : Exit → Act → World → Prop} {R : World → Prop} (hg : o.guard = none) (m x : Operand)
    (ho : o.op = Op.call { callee := Callee.builtin Builtin.delete, args := #[m, x], argTypes := #[72, 9] })
    (mv : Option Nat) (key : List UInt8) (hm : a.eval m = .map mv) (hx : a.eval x = str key)
    (hrun : ∃ W, (Builtin.delete_ #[72, 9] o.type #[.map mv, str key]).run Tryz.prog w = .ok (.tuple #[]) W ∧ R W) (hK : ∀ W, R W → wpList Tryz.prog ops Q rest (a.put o.dst (.tuple #[])) W) : wpList Tryz.prog ops Q (o :: rest) a w := by
  refine wpList_plain hg fun K' hK' => ?_
  obtain ⟨W, hrun, hR⟩ := hrun
  unfold Oper.wp
  simp [execOp, ho, resolve, invoke, builtin, hm, hx, hrun, Result.andThen]
  exact hK' _ _ (hK W hR)
theorem MuL.delete {w : World} {own : List Nat} {hb lb cap : Nat} {m : Option Nat} {l ms : List Fd} (h : MuL w own hb lb cap m l ms) (k : List UInt8) (ty : TypeId) :
    ∃ W, (Builtin.delete_ #[72, 9] ty #[.map m, str k]).run Tryz.prog w = .ok (.tuple #[]) W ∧ MuL W own hb lb cap m l (ms.filter (fun f => decide (f.k ≠ k))) ∧ Keeps (In own) w W := by
  rcases h.M with ⟨rfl, rfl⟩ | ⟨mb, gs, rfl, h4⟩
  · exact ⟨w, run_delete_nil w k ty, h, Keeps.refl _ _⟩
  · obtain ⟨W, hr, hE, kW⟩ := run_delete w mb gs k ty h4.E h4.G.keys
    have kO : Keeps (In own) w W := kW.mono (fun x _ hx => by
      simp only [In, List.mem_cons, List.not_mem_nil, or_false] at hx
      exact hx ▸ h4.om)
    refine ⟨W, hr, h.unmap kO (h.H.keep kW (fun hc => ?_)) (h.L.keep kW (fun hc => ?_)) (h4.delete k hE kW), kO⟩
    · simp only [In, List.mem_cons, List.not_mem_nil, or_false] at hc
      exact h4.E.ne h.H hc.symm
    · simp only [In, List.mem_cons, List.not_mem_nil, or_false] at hc
      obtain ⟨_, _, _, cur, hB, _⟩ := h.L
      exact h4.E.ne hB hc.symm

set_option maxRecDepth 100000 in
set_option maxHeartbeats 2000000 in
theorem Del_any (hb : Nat) (k : List UInt8) (fs : List Fd) (own : List Nat) (w : World) (h : HMut w own hb fs) (hk : k.length ≤ 1000000000) (hn : fs.length ≤ 1000000) :
    Calls Tryz.prog 75 #[.pointer (some ⟨hb, 0, none⟩), str k] w fun e w' => e = .returned (.tuple #[]) ∧ MuTo own hb w w' (fs.filter (fun f => decide (f.k ≠ canon k))) := by
  obtain ⟨lb, cap, m, M⟩ := h
  generalize hck : canon k = ck
  have hN : (fs.reverse.map (·.blk)).Nodup := by rw [List.map_reverse]; exact nodup_rev M.N
  have hfs : fs.filter (fun f => decide (f.k ≠ ck)) = (fs.reverse.filter (fun f => decide (f.k ≠ ck))).reverse := by rw [List.filter_reverse, List.reverse_reverse]
  rw [hfs]
  have M0 := M.toL
  have hln : fs.reverse.length ≤ 1000000 := by simpa using hn
  generalize fs.reverse = l at *
  have HCK := Lib.hid hck
  have HM := Lib.hid M0
  have HN := Lib.hid hN
  clear hck M M0 hfs hn hN
  go_enter Tryz.func75, Tryz.ntmps75
  go_wp2_with (fail)
  refine (canonicalKey_any k w hk).mono ?_
  rintro e w1 ⟨rfl, k1⟩
  rw [HCK.out]
  have M1 := HM.out.keep_no k1
  have c1 : w1.cell? ⟨hb, 1, none⟩ = some (.map m) := M1.H.cell 1
  obtain ⟨w2, hdel, M2, k2⟩ := M1.delete ck 0
  have c2 : w2.cell? ⟨hb, 0, none⟩ = some (.slice (some ⟨lb, 0, none⟩) l.length cap) := M2.H.cell 0
  have HM2 := Lib.hid M2
  have hsub : IntKind.i64.wrap ((l.length : Int) - 1) = (l.length : Int) - 1 := by rw [IntKind.wrap_i64]; omega
  clear M2 M1
  go_wp2
  go_loopg [4] l.length (fun n s4 wr => ∃ (a c : List Fd) (own1 : List Nat) (lb' cap' : Nat), s4 = .int .i64 ((a.length : Int) - 1) ∧ n = a.length ∧ l = a ++ c ∧ MuL wr own1 hb lb' cap' m (a ++ c.filter (fun f => decide (f.k ≠ ck))) (l.filter (fun f => decide (f.k ≠ ck))) ∧ Keeps (In own) w wr ∧ ∀ x ∈ own1, x ∈ own ∨ w.heap.size ≤ x)
  case atStart => exact ⟨l, [], own, lb, cap, rfl, rfl, by simp, by simpa using HM2.out, k1.of_no.trans' k2, fun x hx => .inl hx⟩
  case round =>
    obtain ⟨a, c, own1, lb', cap', rfl, hna, hlac, M3, k3, ho3⟩ := hrel
    have HLAC := Lib.hid hlac
    have HM3 := Lib.hid M3
    have HO3 := Lib.hid ho3
    have HNA := Lib.hid hna
    clear hlac M3 ho3 hna
    rcases nil_or_snoc a with rfl | ⟨a', x, rfl⟩
    · go_wp2
      go_end0
      have hlc : l = c := by simpa using HLAC.out
      subst hlc
      exact ⟨rfl, own1, ⟨lb', cap', m, (show MuL wr own1 hb lb' cap' m _ _ from HM3.out).toMu (List.Pairwise.sublist (List.filter_sublist.map _) HN.out)⟩, k3, HO3.out⟩
    · have hi : (((a' ++ [x]).length : Int) - 1) = (a'.length : Int) := by simp
      rw [hi]
      have hx : x ∈ a' ++ [x] ++ c.filter (fun f => decide (f.k ≠ ck)) := by simp
      have cx : wr.cell? ⟨x.blk, 1, none⟩ = some (str x.k) := (HM3.out.F x hx).B.cell 1
      have cp : wr.cell? ⟨lb', a'.length, none⟩ = some (.pointer (some ⟨x.blk, 0, none⟩)) := HM3.out.L.own.ptrs.cell_of (by simp)
      have c3 : wr.cell? ⟨hb, 0, none⟩ = some (.slice (some ⟨lb', 0, none⟩) (a' ++ [x] ++ c.filter (fun f => decide (f.k ≠ ck))).length cap') := HM3.out.H.cell 0
      have hcl : (c.filter (fun f => decide (f.k ≠ ck))).length ≤ c.length := List.length_filter_le _ _
      have hal : a'.length + 1 + c.length = l.length := by rw [HLAC.out]; simp; omega
      have hN3 : (a' ++ [x] ++ c.filter (fun f => decide (f.k ≠ ck))).length = a'.length + 1 + (c.filter (fun f => decide (f.k ≠ ck))).length := by rw [List.length_append, List.length_append]; rfl
      have hle3 := HM3.out.L.2.1
      rw [List.length_map] at hle3
      generalize hnn : (a' ++ [x] ++ c.filter (fun f => decide (f.k ≠ ck))).length = N3 at *
      have h1 : (a'.length : Int) < (N3 : Int) := by omega
      have h2 : (a'.length : Int) ≤ (cap' : Int) := by omega
      have h3 : IntKind.i64.wrap ((a'.length : Int) + 1) = (a'.length : Int) + 1 := by rw [IntKind.wrap_i64]; omega
      have h4 : (a'.length : Int) + 1 ≤ (N3 : Int) := by omega
      have h5 : IntKind.i64.wrap ((a'.length : Int) - 1) = (a'.length : Int) - 1 := by rw [IntKind.wrap_i64]; omega
      have h6 : (0 : Int) ≤ (a'.length : Int) := by omega
      have h7 : (0 : Int) ≤ (a'.length : Int) + 1 := by omega
      have HNN := Lib.hid hnn
      have HN3 := Lib.hid hN3
      have HCL := Lib.hid hcl
      have HAL := Lib.hid hal
      clear hi hx hnn hN3 hcl hal
      by_cases hkk : x.k = ck
      · rw [hkk] at cx
        have HKK := Lib.hid hkk
        clear hkk
        go_wp2
        refine region_segs [([0, 1, 2, 3, 4, 5, 6, 7, 8, 9, 10, 11, 12, 13], 14)] [15, 16] 17 (fun W => W.cell? ⟨hb, 0, none⟩ = some (.slice (some ⟨lb', 0, none⟩) N3 cap')) (by kernel_rfl) (by kernel_rfl) ?_ ?_
        · exact c3
        simp only [segPick, List.map_cons, List.map_nil, pick, List.filterMap_cons, List.filterMap_nil, List.getElem?_cons_succ, List.getElem?_cons_zero, List.drop_succ_cons, List.drop_zero]
        rw [wpSegs]
        intro ι F hne hF
        have d1 := fun j => hF j
        clear hF
        repeat (quiet_step (fail))
        refine wpQuiet_nil ?_
        clear d1 hne F ι
        refine wpList_append_p rfl (.tmp 40) (.tmp 47) rfl 0 lb' cap' a'.length (a'.map (·.blk)) rfl (by simp) (po_take HM3.out.L (by rw [List.append_assoc, List.map_append])) ⟨lb', cutAt 0 (a'.length + 1) cap' 1, none⟩ (N3 - (a'.length + 1)) (cap' - (a'.length + 1)) ((c.filter (fun f => decide (f.k ≠ ck))).map (·.blk)) rfl (by rw [List.length_map]; have := HN3.out; omega) (po_rest (a := (a' ++ [x]).map (·.blk)) HM3.out.L (by rw [List.map_append]) (by simp)) (by have := HN3.out; have := HCL.out; have := HAL.out; omega) (Nat.zero_le _) ?_
        intro g' cap'' w4 hL4 k4 hg4
        have k4' : Keeps (In [lb']) wr w4 := ((Keeps.refl _ wr).drew).trans' k4
        have hnl : a'.length + (N3 - (a'.length + 1)) = (a' ++ c.filter (fun f => decide (f.k ≠ ck))).length := by
          rw [List.length_append]
          have := HN3.out
          omega
        rw [← List.map_append] at hL4
        have R4 := HM3.out.relist (l' := a' ++ c.filter (fun f => decide (f.k ≠ ck))) hnl (fun f hf => by
          simp only [List.mem_append] at hf ⊢
          rcases hf with hf | hf
          · exact .inl (.inl hf)
          · exact .inr hf) k4' hg4 hL4
        have B4 := HM3.out.H.keep k4' (fun hc => by simp [In] at hc; exact HM3.out.hl hc)
        have c4 : w4.cell? ⟨hb, 0, none⟩ = some (.slice (some ⟨lb', 0, none⟩) N3 cap') := by
          have := B4.cell 0
          rw [← HNN.out]
          exact this
        have f4 := B4.frozen
        have HR4 := Lib.hid R4
        have HNL := Lib.hid hnl
        clear R4 B4 k4 k4' hL4 hg4 cx cp c3 hnl
        generalize a'.length + (N3 - (a'.length + 1)) = N4 at *
        go_wp2
        refine EffPost.intro c4 ?_
        rw [wpSegs]
        intro ι F hne hF
        clear hF
        repeat (quiet_step (fail))
        refine wpQuiet_nil ?_
        clear hne F ι
        go_wp2
        go_roundg (gk - 1)
        case measure => rw [HNA.out]; simp
        case rel =>
          obtain ⟨hR, hK, hO⟩ := HR4.out
          refine ⟨a', x :: c, g' :: own1, g', cap'', rfl, by rw [HNA.out]; simp, by rw [HLAC.out]; simp, ?_, k3.trans hK (fun i hi h => ?_), fun y hy => ?_⟩
          · rw [List.filter_cons_of_neg (by simp [HKK.out])]
            exact hR
          · rcases HO3.out i h with h | h
            · exact h
            · omega
          · rcases hO y hy with h | h
            · exact HO3.out y h
            · exact .inr (Nat.le_trans k3.size h)
      · have hkf : (x.k == ck) = false := by simpa using hkk
        have HKK := Lib.hid hkk
        clear hkk
        go_wp2
        go_roundg (gk - 1)
        case measure => rw [HNA.out]; simp
        case rel =>
          refine ⟨a', x :: c, own1, lb', cap', rfl, by rw [HNA.out]; simp, by rw [HLAC.out]; simp, ?_, k3, HO3.out⟩
          have h := HM3.out
          rw [List.filter_cons_of_pos (by simpa using HKK.out)]
          rwa [List.append_assoc] at h
end Go.Proofs.YtjbbapodcngnaaaGreatDoor
namespace Go.Proofs.YtjbbapodcngnaaaGreatDoor
open Go.RowKit Hdr

theorem MuTo.after {own own1 : List Nat} {hb : Nat} {w w1 w2 : World} {fs : List Fd} (k1 : Keeps (In own) w w1) (o1 : ∀ x ∈ own1, x ∈ own ∨ w.heap.size ≤ x) (h : MuTo own1 hb w1 w2 fs) : MuTo own hb w w2 fs := by
  obtain ⟨own2, a2, b2, c2⟩ := h
  have hs := k1.size
  refine ⟨own2, a2, k1.trans b2 (fun i hi h => ?_), fun x hx => ?_⟩
  · rcases o1 i h with h | h
    · exact h
    · omega
  · rcases c2 x hx with h | h
    · exact o1 x h
    · exact .inr (by omega)

set_option maxRecDepth 100000 in
theorem Set_any (hb : Nat) (k v : List UInt8) (fs : List Fd) (own : List Nat) (w : World) (h : HMut w own hb fs) (hk : k.length ≤ 1000000000) (hn : fs.length ≤ 1000000) :
    Calls Tryz.prog 74 #[.pointer (some ⟨hb, 0, none⟩), str k, str v] w (AddPost own hb (canon k) v none (fs.filter (fun f => decide (f.k ≠ canon k))) w) := by
  have H := Lib.hid h
  clear h
  generalize hq : AddPost own hb (canon k) v none (fs.filter (fun f => decide (f.k ≠ canon k))) w = Q
  have HQ := Lib.hid hq
  clear hq
  go_enter Tryz.func74, Tryz.ntmps74
  go_wp2_with (fail)
  refine (Del_any hb k fs own w H.out hk hn).mono ?_
  rintro e w1 ⟨rfl, own1, h1, k1, o1⟩
  have H1 := Lib.hid h1
  have O1 := Lib.hid o1
  clear h1 o1
  go_wp2_with (fail)
  refine (Add_any hb k v _ own1 w1 H1.out hk (Nat.le_trans (List.length_filter_le _ _) hn)).mono ?_
  rintro e w2 ⟨rfl, f, h1, h2, h3, h4⟩
  have HP := Lib.hid (show AddPost own hb (canon k) v none (fs.filter (fun f => decide (f.k ≠ canon k))) w (.returned (.tuple #[])) w2 from ⟨rfl, f, h1, h2, h3, h4.after k1 O1.out⟩)
  clear h1 h2 h3 h4
  go_wp2
  go_end0
  rw [← HQ.out]
  exact HP.out
end Go.Proofs.YtjbbapodcngnaaaGreatDoor
namespace Go.Proofs.YtjbbapodcngnaaaGreatDoor
open Go.RowKit Hdr

theorem nodup_inj : ∀ {l : List Fd} {x y : Fd}, (l.map (·.blk)).Nodup → x ∈ l → y ∈ l → x.blk = y.blk → x = y
  | z :: l, x, y, h, hx, hy, e => by
    simp only [List.map_cons, List.nodup_cons] at h
    rcases List.mem_cons.1 hx with hx1 | hx1
    · rcases List.mem_cons.1 hy with hy1 | hy1
      · rw [hx1, hy1]
      · subst hx1
        exact absurd (show x.blk ∈ l.map (·.blk) from e ▸ List.mem_map_of_mem (f := Fd.blk) hy1) h.1
    · rcases List.mem_cons.1 hy with hy1 | hy1
      · subst hy1
        exact absurd (show y.blk ∈ l.map (·.blk) from e ▸ List.mem_map_of_mem (f := Fd.blk) hx1) h.1
      · exact nodup_inj h.2 hx1 hy1 e

theorem Grouped.without' {w W : World} {base : Nat} {gs : List Grp} {fs : List Fd} (h : Grouped w base gs fs) (k : List UInt8) (hP : ∀ x ∈ gs, x.key ≠ k → PS W base x.v x.ps) : Grouped W base (gs.filter (fun x => decide (x.key ≠ k))) (fs.filter (fun f => decide (f.k ≠ k))) := by
  have h2 := h.without k
  exact ⟨h2.keys, h2.apart, fun x hx => hP x (List.mem_filter.1 hx).1 (by simpa using (List.mem_filter.1 hx).2), h2.some_, h2.of, h2.all⟩

/-- What the group of a field is. -/
theorem MG.grp {w : World} {own : List Nat} {lb mb : Nat} {gs : List Grp} {ms : List Fd} (h : MG w own lb mb gs ms) {f : Fd} (hf : f ∈ ms) :
    ∃ a x b g cap, gs = a ++ x :: b ∧ x.key = f.k ∧ (∀ y ∈ a, y.key ≠ f.k) ∧ (∀ y ∈ b, y.key ≠ f.k) ∧ x.v = .slice (some ⟨g, 0, none⟩) x.ps.length cap ∧ PO w 0 g cap x.ps ∧ x.ps = (ms.filter (fun h => decide (h.k = f.k))).map (·.blk) ∧
      g ∈ own ∧ g ≠ lb ∧ g ≠ mb ∧ ∀ W, MapE W mb gs → (Instr.lookup 72 (.map (some mb)) (str f.k) false).run Tryz.prog W = .ok (.slice (some ⟨g, 0, none⟩) x.ps.length cap) W := by
  obtain ⟨hM, hG, hom, hog⟩ := h
  rcases grp_cases gs f.k with hn | ⟨a, x, b, rfl, hxk, hn⟩
  · obtain ⟨x, hx, hk⟩ := hG.all f hf
    exact absurd hk (hn x hx)
  · have hx : x ∈ a ++ x :: b := by simp
    have hv : x.v ≠ .slice none 0 0 := fun e => by
      obtain ⟨g, hg, _⟩ := (hG.own x hx).own_some (hG.some_ x hx)
      rw [e] at hg
      cases hg
    obtain ⟨g, cap, hxv, _, hpo⟩ := PO.of_row (hG.own x hx) hv
    have hob : x.v.ownBlock = some g := by rw [hxv]; rfl
    have hk := hG.keys
    rw [List.pairwise_append, List.pairwise_cons] at hk
    refine ⟨a, x, b, g, cap, rfl, hxk, hn, fun y hy => ?_, hxv, hpo, ?_, (hog x hx g hob).1, (hog x hx g hob).2, (hG.own x hx).ne_mb hM g hob, fun W hW => ?_⟩
    · rw [← hxk]
      exact (hk.2.1.1 y hy).symm
    · rw [hG.of x hx, hxk]
    · have := run_lookup_some W mb a b x hW (by rw [hxk]; exact hn)
      rw [hxk, hxv] at this
      exact this

/-- .. and with one pointer less. -/
theorem MG.less {w w2 : World} {own : List Nat} {lb mb : Nat} {a b : List Grp} {x : Grp} {ms : List Fd} (h : MG w own lb mb (a ++ x :: b) ms) (hN : (ms.map (·.blk)).Nodup) {f : Fd} (hf : f ∈ ms) (hxk : x.key = f.k) (ha : ∀ y ∈ a, y.key ≠ f.k) (hb : ∀ y ∈ b, y.key ≠ f.k)
    {g cap g' cap' n i : Nat} (hxv : x.v = .slice (some ⟨g, 0, none⟩) x.ps.length cap) (hps : x.ps = (ms.filter (fun h => decide (h.k = f.k))).map (·.blk)) (hi : x.ps[i]? = some f.blk) (hn : n = (x.ps.eraseIdx i).length)
    (hL : PO w2 0 g' cap' (x.ps.eraseIdx i)) (k : Keeps (In [g]) w w2) (hg : g' = g ∨ w.heap.size ≤ g') (hlb : lb < w.heap.size) :
    ∃ W, (Instr.mapUpdate 72 (.map (some mb)) (str f.k) (.slice (some ⟨g', 0, none⟩) n cap')).run Tryz.prog w2 = .ok () W ∧ Keeps (In [mb]) w2 W ∧
      MapE W mb (a ++ ⟨f.k, .slice (some ⟨g', 0, none⟩) n cap', x.ps.eraseIdx i⟩ :: b) ∧
      (n ≠ 0 → MG W (g' :: own) lb mb (a ++ ⟨f.k, .slice (some ⟨g', 0, none⟩) n cap', x.ps.eraseIdx i⟩ :: b) (ms.filter (fun h => decide (h.blk ≠ f.blk)))) ∧
      (n = 0 → ∀ W2, MapE W2 mb ((a ++ ⟨f.k, .slice (some ⟨g', 0, none⟩) n cap', x.ps.eraseIdx i⟩ :: b).filter (fun y => decide (y.key ≠ f.k))) → Keeps (In [mb]) W W2 → MG W2 (g' :: own) lb mb (a ++ b) (ms.filter (fun h => decide (h.blk ≠ f.blk)))) := by
  obtain ⟨hM, hG, hom, hog⟩ := h
  have hx : x ∈ a ++ x :: b := by simp
  have hob : x.v.ownBlock = some g := by rw [hxv]; rfl
  have hgm : g ≠ mb := (hG.own x hx).ne_mb hM g hob
  have hgs : g < w.heap.size := ((hG.own x hx).lt g hob).2
  have hM2 := hM.keep k (fun hc => by simp [In] at hc; exact hgm hc.symm)
  obtain ⟨W, hr, hMW, kW⟩ := run_update_some w2 mb a b x ⟨f.k, .slice (some ⟨g', 0, none⟩) n cap', x.ps.eraseIdx i⟩ hM2 hxk ha
  have hgm' : g' ≠ mb := by
    obtain ⟨_, _, _, cur, hB, _⟩ := hL
    exact (hM2.ne hB).symm
  have hap := hG.apart
  rw [List.pairwise_append, List.pairwise_cons] at hap
  have hkk := hG.keys
  rw [List.pairwise_append, List.pairwise_cons] at hkk
  have hne : ∀ y ∈ a ++ b, y ∈ a ++ x :: b ∧ y.v.ownBlock ≠ x.v.ownBlock ∧ y.key ≠ f.k := fun y hy => by
    rcases List.mem_append.1 hy with hy | hy
    · exact ⟨by simp [hy], hap.2.2 y hy x (List.mem_cons_self ..), ha y hy⟩
    · exact ⟨by simp [hy], (hap.2.1.1 y hy).symm, hb y hy⟩
  have hkeep : ∀ (W' : World), Keeps (In [mb]) w2 W' → ∀ y ∈ a ++ b, PS W' 0 y.v y.ps := fun W' kW' y hy => by
    obtain ⟨h1, h2, h3⟩ := hne y hy
    refine PS.keep (PS.keep (hG.own y h1) k (fun b' hb' hc => ?_)) kW' (fun b' hb' hc => ?_)
    · simp [In] at hc
      subst hc
      exact h2 (hb'.trans hob.symm)
    · simp [In] at hc
      exact (hG.own y h1).ne_mb hM b' hb' hc
  have hyb : ∀ y ∈ a ++ b, ∀ g0, y.v.ownBlock = some g0 → g0 ≠ g' := fun y hy g0 hg0 e => by
    obtain ⟨h1, h2, _⟩ := hne y hy
    subst e
    rcases hg with rfl | hg
    · exact h2 (hg0.trans hob.symm)
    · have := ((hG.own y h1).lt g0 hg0).2
      omega
  have hge : (ms.filter (fun h => decide (h.k = f.k))).eraseIdx i = (ms.filter (fun h => decide (h.k = f.k))).filter (fun h => decide (h.blk ≠ f.blk)) := by
    rw [hps, List.getElem?_map] at hi
    cases hq : (ms.filter (fun h => decide (h.k = f.k)))[i]? with
    | none => rw [hq] at hi; cases hi
    | some z =>
      rw [hq] at hi
      obtain ⟨hil, hz⟩ := List.getElem?_eq_some_iff.1 hq
      rw [nodup_erase _ i hil (List.Pairwise.sublist (List.filter_sublist.map _) hN), hz]
      have : z.blk = f.blk := by simpa using hi
      rw [this]
  have hpe : x.ps.eraseIdx i = ((ms.filter (fun h => decide (h.blk ≠ f.blk))).filter (fun h => decide (h.k = f.k))).map (·.blk) := by
    rw [hps, ← map_erase, hge, List.filter_filter, List.filter_filter]
    exact congrArg (List.map Fd.blk) (List.filter_congr (fun z _ => Bool.and_comm _ _))
  have hyof : ∀ y ∈ a ++ b, y.ps = ((ms.filter (fun h => decide (h.blk ≠ f.blk))).filter (fun h => decide (h.k = y.key))).map (·.blk) := fun y hy => by
    obtain ⟨h1, _, h3⟩ := hne y hy
    rw [hG.of y h1, List.filter_filter]
    refine congrArg (List.map Fd.blk) (List.filter_congr (fun z hz => ?_))
    by_cases hzk : z.k = y.key
    · have : z.blk ≠ f.blk := fun e => h3 (by rw [← hzk, nodup_inj hN hz hf e])
      simp [hzk, this]
    · simp [hzk]
  refine ⟨W, hr, kW, hMW, fun hn0 => ?_, fun hn0 W2 hE2 k2 => ?_⟩
  · have hmem : ∀ y ∈ a ++ (⟨f.k, .slice (some ⟨g', 0, none⟩) n cap', x.ps.eraseIdx i⟩ : Grp) :: b, y = ⟨f.k, .slice (some ⟨g', 0, none⟩) n cap', x.ps.eraseIdx i⟩ ∨ y ∈ a ++ b := fun y hy => by
      simp only [List.mem_append, List.mem_cons] at hy ⊢
      rcases hy with hy | hy | hy
      · exact .inr (.inl hy)
      · exact .inl hy
      · exact .inr (.inr hy)
    have hrow : PS W 0 (.slice (some ⟨g', 0, none⟩) n cap') (x.ps.eraseIdx i) := by
      have h1 := (hL.keep kW (fun hc => by simp [In] at hc; exact hgm' hc)).row
      rw [← hn] at h1
      have h2 : (x.ps.eraseIdx i).length = n := hn.symm
      unfold PS
      rw [h2]
      exact h1
    refine ⟨hMW, ⟨?_, ?_, fun y hy => ?_, fun y hy => ?_, fun y hy => ?_, fun z hz => ?_⟩, List.mem_cons_of_mem _ hom, fun y hy g0 hg0 => ?_⟩
    · rw [List.pairwise_append, List.pairwise_cons]
      refine ⟨hkk.1, ⟨fun y hy => (hb y hy).symm, hkk.2.1.2⟩, fun y hy z hz => ?_⟩
      rcases List.mem_cons.1 hz with rfl | hz
      · exact ha y hy
      · exact hkk.2.2 y hy z (List.mem_cons_of_mem _ hz)
    · rw [List.pairwise_append, List.pairwise_cons]
      refine ⟨hap.1, ⟨fun y hy e => hyb y (List.mem_append_right _ hy) g' (e ▸ rfl) rfl, hap.2.1.2⟩, fun y hy z hz => ?_⟩
      rcases List.mem_cons.1 hz with rfl | hz
      · exact fun e => hyb y (List.mem_append_left _ hy) g' (e ▸ rfl) rfl
      · exact hap.2.2 y hy z (List.mem_cons_of_mem _ hz)
    · rcases hmem y hy with rfl | hy
      · exact hrow
      · exact hkeep W kW y hy
    · rcases hmem y hy with rfl | hy
      · intro e
        simp only at e
        rw [e] at hn
        exact hn0 hn
      · exact hG.some_ y (hne y hy).1
    · rcases hmem y hy with rfl | hy
      · exact hpe
      · exact hyof y hy
    · obtain ⟨hz1, hz2⟩ := List.mem_filter.1 hz
      obtain ⟨y, hy, hyk⟩ := hG.all z hz1
      simp only [List.mem_append, List.mem_cons] at hy
      rcases hy with hy | rfl | hy
      · exact ⟨y, by simp [hy], hyk⟩
      · exact ⟨⟨f.k, .slice (some ⟨g', 0, none⟩) n cap', y.ps.eraseIdx i⟩, by simp, by rw [← hyk]; exact hxk.symm⟩
      · exact ⟨y, by simp [hy], hyk⟩
    · rcases hmem y hy with rfl | hy
      · simp only [Value.ownBlock, Option.some.injEq] at hg0
        subst hg0
        refine ⟨List.mem_cons_self .., ?_⟩
        rcases hg with rfl | hg
        · exact (hog x hx _ hob).2
        · omega
      · have := hog y (hne y hy).1 g0 hg0
        exact ⟨List.mem_cons_of_mem _ this.1, this.2⟩
  · have hfil : (a ++ (⟨f.k, .slice (some ⟨g', 0, none⟩) n cap', x.ps.eraseIdx i⟩ : Grp) :: b).filter (fun y => decide (y.key ≠ f.k)) = a ++ b := by
      rw [List.filter_append, List.filter_cons_of_neg (by simp), List.filter_eq_self.2 (fun y hy => decide_eq_true (ha y hy)), List.filter_eq_self.2 (fun y hy => decide_eq_true (hb y hy))]
    rw [hfil] at hE2
    have hfil2 : (a ++ x :: b).filter (fun y => decide (y.key ≠ f.k)) = a ++ b := by
      rw [List.filter_append, List.filter_cons_of_neg (by simp [hxk]), List.filter_eq_self.2 (fun y hy => decide_eq_true (ha y hy)), List.filter_eq_self.2 (fun y hy => decide_eq_true (hb y hy))]
    have hms : ms.filter (fun h => decide (h.blk ≠ f.blk)) = ms.filter (fun h => decide (h.k ≠ f.k)) := by
      have hnil : (ms.filter (fun h => decide (h.blk ≠ f.blk))).filter (fun h => decide (h.k = f.k)) = [] := by
        rw [hpe] at hn
        rw [hn0, List.length_map] at hn
        exact List.length_eq_zero_iff.1 hn.symm
      apply List.filter_congr
      intro z hz
      by_cases hzk : z.k = f.k
      · have : z.blk = f.blk := by
          refine Decidable.byContradiction fun e => ?_
          have : z ∈ (ms.filter (fun h => decide (h.blk ≠ f.blk))).filter (fun h => decide (h.k = f.k)) := List.mem_filter.2 ⟨List.mem_filter.2 ⟨hz, by simpa using e⟩, by simpa using hzk⟩
          rw [hnil] at this
          cases this
        simp [hzk, this]
      · have : z.blk ≠ f.blk := fun e => hzk (by rw [nodup_inj hN hz hf e])
        simp [hzk, this]
    have k3 : Keeps (In [mb]) w2 W2 := kW.trans' k2
    have hG2 := hG.without' (W := W2) f.k (fun y hy hyk => hkeep W2 k3 y (by
      simp only [List.mem_append, List.mem_cons] at hy ⊢
      rcases hy with hy | rfl | hy
      · exact .inl hy
      · exact absurd hxk hyk
      · exact .inr hy))
    rw [hfil2, ← hms] at hG2
    exact ⟨hE2, hG2, List.mem_cons_of_mem _ hom, fun y hy g0 hg0 => ⟨List.mem_cons_of_mem _ (hog y (hne y hy).1 g0 hg0).1, (hog y (hne y hy).1 g0 hg0).2⟩⟩
end Go.Proofs.YtjbbapodcngnaaaGreatDoor
namespace Go.Proofs.YtjbbapodcngnaaaGreatDoor
open Go.RowKit Hdr

theorem erase_rev (fs : List Fd) (j : Nat) (hj : j < fs.length) : fs.eraseIdx j = (fs.reverse.eraseIdx (fs.length - 1 - j)).reverse := by
  rw [List.eraseIdx_eq_take_drop_succ, List.eraseIdx_eq_take_drop_succ, List.reverse_append, List.drop_reverse, List.take_reverse, List.reverse_reverse, List.reverse_reverse]
  congr 2
  · omega
  · omega
theorem info_fd : (Tryz.prog.info? 185).map (fun i => i.size) = some 3 := by kernel_rfl
theorem eql_fd {w : World} {x y : Nat} {a b : List Value} (hx : Blk w x a 185) (hy : Blk w y b 185) :
    (binOp .eql 160 (.pointer (some ⟨x, 0, none⟩)) (.pointer (some ⟨y, 0, none⟩))).run Tryz.prog w = .ok (.bool (decide (x = y))) w := by
  obtain ⟨j, hj, hs⟩ := Option.map_eq_some_iff.1 info_fd
  by_cases h : x = y
  · subst h
    rw [run_eql_ptr_same (P := Tryz.prog) w _ Tryz.underlying160 hj, decide_eq_true rfl]
  · rw [run_eql_ptr_other (P := Tryz.prog) w Tryz.underlying160 hj (a := ⟨x, 0, none⟩) (b := ⟨y, 0, none⟩) (by omega) (fun e => h (by simpa using congrArg Addr.block e)) hx hy, decide_eq_false h]

theorem MuL.touch {S : Nat → Prop} {w W : World} {own : List Nat} {hb lb cap : Nat} {m : Option Nat} {l ms : List Fd} (h : MuL w own hb lb cap m l ms) (k : Keeps S w W) (h1 : ∀ x ∈ own, ¬ S x) (hF : ∀ f ∈ l, FdP W own f) : MuL W own hb lb cap m l ms := by
  refine ⟨h.H.keep k (h1 _ h.oh), h.L.keep k (h1 _ h.ol), ?_, hF, h.oh, h.ol, fun x hx => Nat.lt_of_lt_of_le (h.lt x hx) k.size⟩
  rcases h.M with h3 | ⟨mb, gs, h3, h4⟩
  · exact .inl h3
  · exact .inr ⟨mb, gs, h3, h4.keep k (h1 _ h4.om) (fun x hx g hg => ⟨h1 _ (h4.og x hx g hg).1, (h4.og x hx g hg).2⟩) (fun _ h => h)⟩

set_option maxRecDepth 100000 in
set_option maxHeartbeats 4000000 in
theorem itDel_any (ib hb j : Nat) (fs : List Fd) (own : List Nat) (w : World) (h : HMut w own hb fs) (hI : Blk w ib [.pointer (some ⟨hb, 0, none⟩), .int .i64 j] 157) (hio : ib ∉ own) (hFI : ∀ f ∈ fs, FdP w (ib :: own) f) (hj : j < fs.length) (hn : fs.length ≤ 1000000) :
    Calls Tryz.prog 248 #[.pointer (some ⟨ib, 0, none⟩)] w fun e w' => e = .returned (.tuple #[]) ∧
      ∃ own', HMut w' own' hb (fs.eraseIdx j) ∧ Keeps (In (ib :: own)) w w' ∧ ∀ x ∈ own', x ∈ own ∨ w.heap.size ≤ x := by
  obtain ⟨lb, cap, m, M⟩ := h
  have hFI2 : ∀ f ∈ fs.reverse, FdP w (ib :: own) f := fun f hf => hFI f (List.mem_reverse.1 hf)
  have hN : (fs.reverse.map (·.blk)).Nodup := by rw [List.map_reverse]; exact nodup_rev M.N
  have hfs : fs.eraseIdx j = (fs.reverse.eraseIdx (fs.length - 1 - j)).reverse := erase_rev fs j hj
  rw [hfs]
  have ML := M.toL
  have hjl : j < fs.reverse.length := by simpa using hj
  have hnl : fs.reverse.length ≤ 1000000 := by simpa using hn
  rw [show fs.length - 1 - j = fs.reverse.length - 1 - j by rw [List.length_reverse]]
  clear hfs M hn hj hFI
  generalize fs.reverse = l at *
  have hil : l.length - 1 - j < l.length := by omega
  have he := nodup_erase l (l.length - 1 - j) hil hN
  have hf : l[l.length - 1 - j] ∈ l := List.getElem_mem hil
  have hpc : w.cell? ⟨lb, l.length - 1 - j, none⟩ = some (.pointer (some ⟨l[l.length - 1 - j].blk, 0, none⟩)) := ML.L.own.ptrs.cell_of (by rw [List.getElem?_map, List.getElem?_eq_getElem hil]; rfl)
  generalize hff : l[l.length - 1 - j] = f at *
  have hIt : It w ib hb lb l.length cap m j := ⟨hI, ML.H⟩
  have hfB := (ML.F f hf).B
  have c1 : w.cell? ⟨hb, 1, none⟩ = some (.map m) := ML.H.cell 1
  obtain ⟨ci0, ci1, ch0⟩ := hIt.cells
  have cf1 : w.cell? ⟨f.blk, 1, none⟩ = some (str f.k) := hfB.cell 1
  rcases ML.M with ⟨rfl, rfl⟩ | ⟨mb, gs, rfl, G⟩
  · cases hf
  obtain ⟨a, x, b, g, gcap, rfl, hxk, ha, hb', hxv, hpo, hps, hgo, hgl, hgm, hlk⟩ := G.grp hf
  have hmem : f.blk ∈ x.ps := by
    rw [hps]
    exact List.mem_map_of_mem (f := Fd.blk) (List.mem_filter.2 ⟨hf, by simp⟩)
  have hlk1 : ∀ q, (Instr.lookup 72 (.map (some mb)) (str f.k) false).run Tryz.prog (w.drewN q) = .ok (.slice (some ⟨g, 0, none⟩) x.ps.length gcap) (w.drewN q) := fun q => hlk _ G.E
  have hpsl : x.ps.length ≤ l.length := by rw [hps, List.length_map]; exact List.length_filter_le _ _
  have hFB : ∀ p ∈ x.ps, ∃ c, Blk w p c 185 := fun p hp => by
    rw [hps] at hp
    obtain ⟨z, hz, rfl⟩ := List.mem_map.1 hp
    exact ⟨_, (ML.F z (List.mem_filter.1 hz).1).B⟩
  have HML := Lib.hid ML
  have HFI := Lib.hid hFI2
  have hibw := hI.lt
  clear hFI2
  have HG := Lib.hid G
  have HPO := Lib.hid hpo
  have HFB := Lib.hid hFB
  have HFD := Lib.hid hfB
  have HIT := Lib.hid hIt
  have HPS := Lib.hid hps
  have HMEM := Lib.hid hmem
  have HE := Lib.hid he
  have HN := Lib.hid hN
  have HLK := Lib.hid hlk
  have HXV := Lib.hid hxv
  have HXK := Lib.hid hxk
  have HA := Lib.hid ha
  have HB := Lib.hid hb'
  have HF := Lib.hid hf
  clear ML G hpo hFB hfB hIt hps hmem he hN hlk hxv hxk ha hb' hf hff hil hI
  go_enter Tryz.func248, Tryz.ntmps248
  go_wp2_with (fail)
  refine (field_any ib hb lb l.length cap (some mb) j f.blk w HIT.out hjl hnl hpc).mono ?_
  rintro e w1 ⟨rfl, q1, rfl⟩
  generalize hL : x.ps.length = L at *
  have HL := Lib.hid hL
  clear hL hpc
  go_wp2
  go_quiet (fail)
  rw [World.drewN_drewN]
  generalize q1 + nq = q2
  go_wp2
  go_loopg [21] L (fun n s21 wr => ∃ i : Nat, s21 = .int .i64 i ∧ i + n = L ∧ (∀ p ∈ x.ps.take i, p ≠ f.blk) ∧ w.drewN q2 = wr)
  case atStart => exact ⟨0, rfl, by omega, fun p hp => by simp at hp, rfl⟩
  case round =>
    obtain ⟨i, rfl, hin, hpre, rfl⟩ := hrel
    have HPRE := Lib.hid hpre
    have HIN := Lib.hid hin
    clear hpre hin
    have hiL : i < L := by
      refine Nat.lt_of_not_le (fun h => ?_)
      have h1 := HPRE.out f.blk (by rw [List.take_of_length_le (by rw [HL.out]; exact h)]; exact HMEM.out)
      exact h1 rfl
    have hip : i < x.ps.length := by rw [HL.out]; exact hiL
    have cg : w.cell? ⟨g, i, none⟩ = some (.pointer (some ⟨x.ps[i], 0, none⟩)) := HPO.out.own.ptrs.cell hip
    obtain ⟨cx, hcx⟩ := HFB.out x.ps[i] (List.getElem_mem hip)
    have heq := eql_fd (hcx.drewN q2) (HFD.out.drewN q2)
    have hgi : x.ps[i]? = some x.ps[i] := List.getElem?_eq_getElem hip
    have htk : x.ps.take (i + 1) = x.ps.take i ++ [x.ps[i]] := List.take_succ_eq_append_getElem hip
    generalize hpi : x.ps[i] = pi at *
    have HGI := Lib.hid hgi
    have HTK := Lib.hid htk
    clear hpi hgi htk hcx hip
    have e1 : (i : Int) < (L : Int) := by omega
    have e1' : decide ((i : Int) < (L : Int)) = true := decide_eq_true e1
    by_cases hpf : pi = f.blk
    · rw [decide_eq_true hpf] at heq
      have HPF := Lib.hid hpf
      clear hpf
      go_wp2
      clear heq cg
      have hgc : L ≤ gcap := by have := HPO.out.2.1; rw [HL.out] at this; exact this
      have h2 : (i : Int) ≤ (gcap : Int) := by omega
      have h3 : IntKind.i64.wrap ((i : Int) + 1) = (i : Int) + 1 := by rw [IntKind.wrap_i64]; omega
      have h4 : (i : Int) + 1 ≤ (L : Int) := by omega
      have h6 : (0 : Int) ≤ (i : Int) := by omega
      have h7 : (0 : Int) ≤ (i : Int) + 1 := by omega
      refine region_eff [0, 1, 2, 3, 4, 5, 6, 7, 8, 9, 10, 11, 12, 13, 14, 15, 16, 17, 18, 19, 20, 21, 22, 23, 24, 25, 26, 27, 28, 29, 30, 31, 32, 33, 34, 35, 36, 37, 38, 39] [40] 41 (fun W => W.cell? ⟨ib, 0, none⟩ = some (.pointer (some ⟨hb, 0, none⟩)) ∧ W.cell? ⟨hb, 1, none⟩ = some (.map (some mb)) ∧ W.cell? ⟨f.blk, 1, none⟩ = some (str f.k) ∧ MapE W mb (a ++ x :: b)) (by kernel_rfl) (by kernel_rfl) ?_ ?_
      · exact ⟨ci0, c1, cf1, HG.out.E⟩
      intro ι F hne hF
      have d1 := fun j => (hF j).1
      have d2 := fun j => (hF j).2.1
      have d3 := fun j => (hF j).2.2.1
      have d4 := fun j => HLK.out _ (hF j).2.2.2
      clear hF
      simp only [pick, List.filterMap_cons, List.filterMap_nil, List.getElem?_cons_succ, List.getElem?_cons_zero, List.drop_succ_cons, List.drop_zero]
      repeat (quiet_step (fail))
      refine wpQuiet_nil ?_
      clear d1 d2 d3 d4 hne F ι
      rw [wpEffs]
      refine wpList_append_p rfl (.tmp 53) (.tmp 68) rfl 0 g gcap i (x.ps.take i) rfl (by rw [List.length_take]; have := HL.out; omega) (po_take HPO.out (List.take_append_drop i x.ps).symm) ⟨g, cutAt 0 (i + 1) gcap 1, none⟩ (L - (i + 1)) (gcap - (i + 1)) (x.ps.drop (i + 1)) rfl (by rw [List.length_drop, HL.out]) (po_rest HPO.out (List.take_append_drop (i + 1) x.ps).symm (by rw [List.length_take]; have := HL.out; omega)) (by omega) (Nat.zero_le _) ?_
      intro g' gcap' w4 hL4 k4 hg4
      rw [← List.eraseIdx_eq_take_drop_succ] at hL4
      have k4' : Keeps (In [g]) w w4 := (((Keeps.refl _ w).drewN q2).drew).trans' k4
      have hlbw : lb < w.heap.size := HML.out.lt _ HML.out.ol
      have hnn : i + (L - (i + 1)) = (x.ps.eraseIdx i).length := by rw [List.length_eraseIdx_of_lt (by rw [HL.out]; exact hiL), HL.out]; omega
      have hless := HG.out.less (w2 := w4) HN.out HF.out HXK.out HA.out HB.out (by rw [HL.out]; exact HXV.out) HPS.out (by rw [HGI.out, HPF.out]) hnn hL4 k4' (by simpa using hg4) hlbw
      have HLESS := Lib.hid hless
      have HK4 := Lib.hid k4'
      have hgib : ib ≠ g := fun e => hio (e ▸ hgo)
      have hgfb : f.blk ≠ g := fun e => (HML.out.F f HF.out).out (e ▸ hgo)
      have hghb : hb ≠ g := by
        obtain ⟨_, _, _, cur, hB, _⟩ := HPO.out
        exact HML.out.H.ne hB (by decide)
      have hg5 : g' = g ∨ w.heap.size ≤ g' := by simpa using hg4
      have HG5 := Lib.hid hg5
      have hn6 : i + (L - (i + 1)) = L - 1 := by omega
      have HNN := Lib.hid hnn
      have HL4 := Lib.hid hL4
      clear hless k4 k4' hL4 hg4 hnn hg5
      generalize i + (L - (i + 1)) = n6 at *
      subst hn6
      go_wp2
      refine EffPost.intro ⟨HK4.out.cell ci0 (by simpa [In] using hgib), HK4.out.cell c1 (by simpa [In] using hghb), HK4.out.cell cf1 (by simpa [In] using hgfb), HG.out.E.keep HK4.out (by simpa [In] using hgm.symm)⟩ ?_
      rw [wpEffs]
      go_wp2_with (at_mapUpdate; refine wpList_update rfl (.tmp 35) (.tmp 39) (.tmp 69) rfl mb f.k _ rfl rfl rfl HLESS.out ?_; rintro w7 ⟨k7, hE7, hne7, heq7⟩)
      have k47 : Keeps (In [g, mb]) w w7 := (HK4.out.mono (fun y _ h => by simp only [In, List.mem_cons, List.not_mem_nil, or_false] at h ⊢; exact .inl h)).trans k7 (fun y _ h => by simp only [In, List.mem_cons, List.not_mem_nil, or_false] at h ⊢; exact .inr h)
      have hg7 : g' < w7.heap.size := Nat.lt_of_lt_of_le HL4.out.lt k7.size
      have hmo : mb ∈ own := HG.out.om
      have hmib : ib ≠ mb := fun e => hio (e ▸ hmo)
      have hmfb : f.blk ≠ mb := fun e => (HML.out.F f HF.out).out (e ▸ hmo)
      have hmhb : hb ≠ mb := (HG.out.E.ne HML.out.H).symm
      have c7i : w7.cell? ⟨ib, 0, none⟩ = some (.pointer (some ⟨hb, 0, none⟩)) := k47.cell ci0 (by simp [In]; exact ⟨hgib, hmib⟩)
      have c7h : w7.cell? ⟨hb, 1, none⟩ = some (.map (some mb)) := k47.cell c1 (by simp [In]; exact ⟨hghb, hmhb⟩)
      have c7f : w7.cell? ⟨f.blk, 1, none⟩ = some (str f.k) := k47.cell cf1 (by simp [In]; exact ⟨hgfb, hmfb⟩)
      have hlk7 : ∀ q, (Instr.lookup 72 (.map (some mb)) (str f.k) false).run Tryz.prog (w7.drewN q) = .ok (.slice (some ⟨g', 0, none⟩) (L - 1) gcap') (w7.drewN q) := fun q => run_lookup_some (w7.drewN q) mb a b ⟨f.k, .slice (some ⟨g', 0, none⟩) (L - 1) gcap', x.ps.eraseIdx i⟩ hE7 HA.out
      have HE7 := Lib.hid hE7
      have HNE7 := Lib.hid hne7
      have HEQ7 := Lib.hid heq7
      have HK47 := Lib.hid k47
      have ci0' := Lib.hid ci0
      clear hE7 hne7 heq7 k47 k7 ci0 c1 cf1 hlk1
      go_quiet (fail)
      generalize hn7 : L - 1 = n7 at *
      go_upto_if 83 with (fail)
      go_cut [] (fun wx => ∃ gs', MG wx (g' :: own) lb mb gs' (l.filter (fun h => decide (h.blk ≠ f.blk))) ∧ Keeps (In [g, mb]) w wx ∧ g' < wx.heap.size)
      case first =>
        by_cases hz : n7 = 0
        · have e8 : ((n7 : Int) == 0) = true := by simp [hz]
          have hkk := HG.out.G.keys
          rw [List.pairwise_append, List.pairwise_cons] at hkk
          obtain ⟨wd, hdel, hEd, kd⟩ := run_delete (w7.drewN (nq + 1)) mb _ f.k 0 HE7.out (by
            rw [List.pairwise_append, List.pairwise_cons]
            exact ⟨hkk.1, ⟨fun y hy => (HB.out y hy).symm, hkk.2.1.2⟩, fun y hy z hz => by
              rcases List.mem_cons.1 hz with rfl | hz
              · exact HA.out y hy
              · exact hkk.2.2 y hy z (List.mem_cons_of_mem _ hz)⟩)
          clear hkk
          have kd' : Keeps (In [mb]) w7 wd := ((Keeps.refl _ w7).drewN (nq + 1)).trans' kd
          have HDD := Lib.hid (HEQ7.out hz wd hEd kd')
          have HKD := Lib.hid kd'
          clear hEd kd kd'
          go_wp2
          refine region_tail 11 (by kernel_rfl) (by kernel_rfl) ?_
          simp only [List.take_succ_cons, List.take_zero, List.drop_succ_cons, List.drop_zero]
          repeat still_step
          refine wpStill_nil ?_
          go_wp2
          go_meet
          exact ⟨_, HDD.out, HK47.out.trans HKD.out (fun y _ h => by simp only [In, List.mem_cons, List.not_mem_nil, or_false] at h ⊢; exact .inr h), Nat.lt_of_lt_of_le hg7 HKD.out.size⟩
        · have e8 : ((n7 : Int) == 0) = false := by simp [hz]
          go_wp2
          go_meet
          refine ⟨_, (HNE7.out hz).keep (S := No) ((Keeps.refl _ _).drewN nq) (fun h => h) (fun y hy g0 hg0 => ⟨fun h => h, ((HNE7.out hz).og y hy g0 hg0).2⟩) (fun _ h => h), HK47.out.drewN nq, hg7⟩
      case rest =>
        obtain ⟨gs', G8, k8, hgpl⟩ := hcut
        clear c7i c7h c7f hlk7
        have hgen : ∀ y ∈ g' :: own, y ∈ own ∨ w.heap.size ≤ y := fun y hy => by
          rcases List.mem_cons.1 hy with rfl | hy
          · rcases HG5.out with h | h
            · exact .inl (h ▸ hgo)
            · exact .inr h
          · exact .inl hy
        have hS8 : ∀ y, y < w.heap.size → In [g, mb] y → y ∈ own := fun y _ h => by
          simp only [In, List.mem_cons, List.not_mem_nil, or_false] at h
          rcases h with rfl | rfl
          · exact hgo
          · exact hmo
        have M8 : MuL wc (g' :: own) hb lb cap (some mb) l (l.filter (fun h => decide (h.blk ≠ f.blk))) :=
          ⟨HML.out.H.keep k8 (by simp [In]; exact ⟨hghb, hmhb⟩), HML.out.L.keep k8 (by
            simp [In]
            obtain ⟨_, _, _, cur, hB, _⟩ := HML.out.L
            exact ⟨hgl.symm, (HG.out.E.ne hB).symm⟩), .inr ⟨mb, gs', rfl, G8⟩, fun z hz => (HML.out.F z hz).step k8 hS8 hgen, List.mem_cons_of_mem _ HML.out.oh, List.mem_cons_of_mem _ HML.out.ol, fun y hy => by
            rcases List.mem_cons.1 hy with rfl | hy
            · exact hgpl
            · exact Nat.lt_of_lt_of_le (HML.out.lt y hy) k8.size⟩
        have I8 : It wc ib hb lb l.length cap (some mb) j := HIT.out.keep k8 (by simp [In]; exact ⟨hgib, hmib⟩) (by simp [In]; exact ⟨hghb, hmhb⟩)
        have HM8 := Lib.hid M8
        have HI8 := Lib.hid I8
        have HK8 := Lib.hid k8
        have HGEN := Lib.hid hgen
        have HS8 := Lib.hid hS8
        clear M8 I8 k8 hgen hS8 G8
        go_wp2
        have hix := fun (W : World) (h : It W ib hb lb l.length cap (some mb) j) => index_any ib hb lb l.length cap (some mb) j W h hjl hnl
        have hcap := HM8.out.L.2.1
        rw [List.length_map] at hcap
        have hxl : l.length - 1 - j < l.length := by omega
        have hE8 := HE.out
        have hmx : (l.eraseIdx (l.length - 1 - j)).map (·.blk) = (l.map (·.blk)).eraseIdx (l.length - 1 - j) := map_erase _ _ _
        have hlE : (l.eraseIdx (l.length - 1 - j)).length = l.length - 1 := List.length_eraseIdx_of_lt hxl
        generalize hixe : l.length - 1 - j = ix at *
        have HIXE := Lib.hid hixe
        clear hixe
        have HE8 := Lib.hid hE8
        have HMX := Lib.hid hmx
        have HLE := Lib.hid hlE
        have HIX := Lib.hid hix
        have h12 : (ix : Int) ≤ (cap : Int) := by omega
        have h13 : IntKind.i64.wrap ((ix : Int) + 1) = (ix : Int) + 1 := by rw [IntKind.wrap_i64]; omega
        have h14 : (ix : Int) + 1 ≤ (l.length : Int) := by omega
        have h16 : (0 : Int) ≤ (ix : Int) := by omega
        have h17 : (0 : Int) ≤ (ix : Int) + 1 := by omega
        clear hE8 hmx hlE hix
        refine region_segs [([0, 1, 2, 3, 4, 5, 6, 7, 8, 9, 10, 11, 14, 15, 16, 17, 18, 19, 20, 21], 12), ([13], 22), ([23, 24], 25)] [26, 27] 28 (fun W => It W ib hb lb l.length cap (some mb) j) (by kernel_rfl) (by kernel_rfl) ?_ ?_
        · exact ⟨HI8.out.B.drew, HI8.out.H.drew⟩
        simp only [segPick, List.map_cons, List.map_nil, pick, List.filterMap_cons, List.filterMap_nil, List.getElem?_cons_succ, List.getElem?_cons_zero, List.drop_succ_cons, List.drop_zero]
        rw [wpSegs]
        intro ι F hne hF
        have d1 := fun j => (hF j).cells.1
        have d2 := fun j => (hF j).cells.2.2
        clear hF
        repeat (quiet_step (fail))
        refine wpQuiet_nil ?_
        clear d1 d2 hne F ι
        go_wp2_with (fail)
        refine (HIX.out _ ⟨HI8.out.B.drew, HI8.out.H.drew⟩).mono ?_
        rintro e w9 ⟨rfl, q9, rfl⟩
        go_wp2
        refine EffPost.intro ⟨HI8.out.B.drew.drewN q9, HI8.out.H.drew.drewN q9⟩ ?_
        rw [wpSegs]
        intro ι F hne hF
        clear hF
        repeat (quiet_step (fail))
        refine wpQuiet_nil ?_
        clear hne F ι
        go_wp2_with (fail)
        refine (HIX.out _ (HI8.out.drewN _)).mono ?_
        rintro e w9' ⟨rfl, q10, rfl⟩
        go_wp2
        refine EffPost.intro (HI8.out.drewN _) ?_
        rw [wpSegs]
        intro ι F hne hF
        clear hF
        repeat (quiet_step (fail))
        refine wpQuiet_nil ?_
        clear hne F ι
        refine wpList_append_p rfl (.tmp 112) (.tmp 123) rfl 0 lb cap ix ((l.map (·.blk)).take ix) rfl (by rw [List.length_take, List.length_map]; omega) (po_take HM8.out.L (List.take_append_drop ix _).symm) ⟨lb, cutAt 0 (ix + 1) cap 1, none⟩ (l.length - (ix + 1)) (cap - (ix + 1)) ((l.map (·.blk)).drop (ix + 1)) rfl (by rw [List.length_drop, List.length_map]) (po_rest HM8.out.L (List.take_append_drop (ix + 1) _).symm (by rw [List.length_take, List.length_map]; omega)) (by omega) (Nat.zero_le _) ?_
        intro g'' cap'' w11 hL11 k11 hg11
        have k11' : Keeps (In [lb]) wc w11 := ((Keeps.refl _ wc).drewN _).trans' k11
        have hg12 : g'' = lb ∨ wc.heap.size ≤ g'' := by simpa using hg11
        have hlb2 : lb ∈ own := HML.out.ol
        have hlib : ib ≠ lb := fun e => hio (e ▸ hlb2)
        rw [← List.eraseIdx_eq_take_drop_succ, ← HMX.out, HE8.out] at hL11
        have hnl2 : ix + (l.length - (ix + 1)) = (l.filter (fun h => decide (h.blk ≠ f.blk))).length := by
          rw [← HE8.out, HLE.out]
          omega
        have R12 := HM8.out.relist hnl2 (fun z hz => (List.mem_filter.1 hz).1) k11' hg12 hL11
        have B12 := HM8.out.H.keep k11' (fun hc => by simp [In] at hc; exact HM8.out.hl hc)
        have f12 := B12.frozen
        have c12 : w11.cell? ⟨hb, 0, none⟩ = some (.slice (some ⟨lb, 0, none⟩) l.length cap) := B12.cell 0
        have I12 := HI8.out.keep k11' (by simp [In]; exact hlib) (fun hc => by simp [In] at hc; exact HM8.out.hl hc)
        have HR12 := Lib.hid R12
        have HI12 := Lib.hid I12
        have HNL2 := Lib.hid hnl2
        have HG12 := Lib.hid hg12
        clear R12 B12 I12 k11 k11' hL11 hg11 hnl2 hg12
        generalize ix + (l.length - (ix + 1)) = n12 at *
        go_wp2
        refine EffPost.intro HI12.out ?_
        rw [wpSegs]
        intro ι F hne hF
        clear hF
        repeat (quiet_step (fail))
        refine wpQuiet_nil ?_
        clear hne F ι
        have hbi : hb ≠ ib := fun e => hio (e ▸ HML.out.oh)
        have B13 := HI12.out.B.set_other (p := ⟨hb, 0, none⟩) hbi (.slice (some ⟨g'', 0, none⟩) n12 cap'')
        have f13 := B13.frozen
        have c13 : (w11.setCell ⟨hb, 0, none⟩ (.slice (some ⟨g'', 0, none⟩) n12 cap'')).cell? ⟨ib, 1, none⟩ = some (.int .i64 j) := B13.cell 1
        have h21 : IntKind.i64.wrap ((j : Int) - 1) = (j : Int) - 1 := by rw [IntKind.wrap_i64]; omega
        go_wp2
        go_end0
        obtain ⟨hM12, hk12, ho12⟩ := HR12.out
        have k14 : Keeps (In [ib]) (w11.setCell ⟨hb, 0, none⟩ (.slice (some ⟨g'', 0, none⟩) n12 cap'')) ((w11.setCell ⟨hb, 0, none⟩ (.slice (some ⟨g'', 0, none⟩) n12 cap'')).setCell ⟨ib, 1, none⟩ (.int .i64 ((j : Int) - 1))) := (Keeps.refl _ _).setCell (.inl (by simp [In])) _
        generalize ((w11.setCell ⟨hb, 0, none⟩ (.slice (some ⟨g'', 0, none⟩) n12 cap'')).setCell ⟨ib, 1, none⟩ (.int .i64 ((j : Int) - 1))) = w14 at *
        generalize w11.setCell ⟨hb, 0, none⟩ (.slice (some ⟨g'', 0, none⟩) n12 cap'') = w12 at *
        have hsz8 := HK8.out.size
        have hin : ∀ y ∈ g'' :: g' :: own, y ∈ own ∨ w.heap.size ≤ y := fun y hy => by
          rcases ho12 y hy with h | h
          · exact HGEN.out y h
          · exact .inr (by omega)
        have kall : Keeps (In (ib :: own)) w w14 := by
          refine ((HK8.out.mono (fun y hy h => List.mem_cons_of_mem _ (HS8.out y hy h))).trans hk12 (fun y hy h => ?_)).trans k14 (fun y hy h => ?_)
          · rcases HGEN.out y h with h | h
            · exact List.mem_cons_of_mem _ h
            · omega
          · simp only [In, List.mem_cons, List.not_mem_nil, or_false] at h
            exact h ▸ List.mem_cons_self ..
        refine ⟨rfl, g'' :: g' :: own, ⟨g'', cap'', some mb, ?_⟩, kall, hin⟩
        rw [HIXE.out, HE.out]
        refine (hM12.touch k14 (fun y hy hc => ?_) (fun z hz => ?_)).toMu (List.Pairwise.sublist (List.filter_sublist.map _) HN.out)
        · simp only [In, List.mem_cons, List.not_mem_nil, or_false] at hc
          subst hc
          rcases hin y hy with h | h
          · exact hio h
          · omega
        · exact (HFI.out z (List.mem_filter.1 hz).1).step kall (fun _ _ h => h) (fun y hy => (hin y hy).imp (fun h => List.mem_cons_of_mem _ h) id)
    · rw [decide_eq_false hpf] at heq
      have HPF := Lib.hid hpf
      clear hpf
      go_wp2
      go_roundg (gk - 1)
      case measure => have := HIN.out; omega
      case rel =>
        refine ⟨i + 1, by simp, by have := HIN.out; omega, fun p hp => ?_, rfl⟩
        rw [HTK.out] at hp
        rcases List.mem_append.1 hp with hp | hp
        · exact HPRE.out p hp
        · simp only [List.mem_cons, List.not_mem_nil, or_false] at hp
          rw [hp]
          exact HPF.out
end Go.Proofs.YtjbbapodcngnaaaGreatDoor
namespace Go.Proofs.YtjbbapodcngnaaaGreatDoor
open Go.RowKit Hdr

/-- What Copy leaves: a list and a map of its own, the same fields. -/
def CpPost (fs : List Fd) (w : World) (e : Ending) (w' : World) : Prop :=
  ∃ (lb cap : Nat) (m : Option Nat), e = .returned (.agg #[.slice (some ⟨lb, 0, none⟩) fs.length cap, .map m]) ∧ w.heap.size ≤ lb ∧ POwn w' lb cap (fs.reverse.map (·.blk)) ∧ HMap w' (lb + 1) m fs.reverse ∧ Keeps No w w'

theorem run_make_hfs (w : World) (n : Nat) (hn : n ≤ 1000000) : (Instr.makeSlice 71 (.int .i64 (n : Int)) (.int .i64 (n : Int))).run Tryz.prog w = .ok (.slice (some ⟨w.heap.size, 0, none⟩) n n) (w.alloc (.cells (Array.replicate n (.pointer none)) 160)) := by
  have h := run_make_row' (P := Tryz.prog) 71 160 (.pointer none) 8 Tryz.underlying71 info_hf rfl .i64 .i64 n (by omega) (by omega) w
  have e : madeCells #[Value.pointer none] n = Array.replicate n (Value.pointer none) := Array.toList_inj.1 (by rw [toList_madeCells_one, Array.toList_replicate])
  rw [h, e]

theorem ptrs_cells {w : World} {lb : Nat} {l : List Nat} (h : PtrsAt w lb l) : ∀ j v, (ptrs l)[j]? = some v → w.cell? ((⟨lb, 0, none⟩ : Addr).add j) = some v := by
  intro j v hj
  have hjl : j < l.length := by
    have := (List.getElem?_eq_some_iff.1 hj).1
    simpa using this
  have hc := h.cell hjl
  simp [ptrs, hjl] at hj
  subst hj
  simp only [Addr.add, Nat.zero_add]
  split
  · rename_i h0
    subst h0
    exact hc
  · exact hc

set_option maxRecDepth 100000 in
set_option maxHeartbeats 1000000 in
theorem Copy_any (hb lb cap lo : Nat) (m : Option Nat) (fs : List Fd) (w : World) (hB : Blk w hb [.slice (some ⟨lb, 0, none⟩) fs.length cap, .map m] 74) (hp : POwn w lb cap (fs.reverse.map (·.blk))) (hf : Fds w lo w.heap.size fs) (hn : fs.length ≤ 1000000) :
    Calls Tryz.prog 52 #[.pointer (some ⟨hb, 0, none⟩)] w (CpPost fs w) := by
  have HB := Lib.hid hB
  have HP := Lib.hid hp
  have HF := Lib.hid hf
  have hlbw := hp.ptrs.lt
  have hhbw := hB.lt
  clear hB hp hf
  go_enter Tryz.func52, Tryz.ntmps52
  have hmk := fun w => run_make_hfs w fs.length hn
  have c0 : (w.alloc (.cells #[.slice none 0 0, .map none] 74)).cell? ⟨hb, 0, none⟩ = some (.slice (some ⟨lb, 0, none⟩) fs.length cap) := (HB.out.alloc _).cell 0
  have hBn : Blk ((w.alloc (.cells #[.slice none 0 0, .map none] 74)).alloc (.cells (Array.replicate fs.length (.pointer none)) 160)) (w.heap.size + 1) (List.replicate fs.length (.pointer none)) 160 := by
    have h := Blk.new (w.alloc (.cells #[.slice none 0 0, .map none] 74)) (List.replicate fs.length (.pointer none)) 160
    rw [List.toArray_replicate] at h
    simpa using h
  have hBh : Blk ((w.alloc (.cells #[.slice none 0 0, .map none] 74)).alloc (.cells (Array.replicate fs.length (.pointer none)) 160)) w.heap.size [.slice none 0 0, .map none] 74 := (Blk.new w _ _).alloc _
  have kA : Keeps No w ((w.alloc (.cells #[.slice none 0 0, .map none] 74)).alloc (.cells (Array.replicate fs.length (.pointer none)) 160)) := ((Keeps.refl No w).alloc _).alloc _
  have hpl : (ptrs (fs.reverse.map (·.blk))).length = fs.length := by simp
  have HBN := Lib.hid hBn
  have HBH := Lib.hid hBh
  have HKA := Lib.hid kA
  have HPL := Lib.hid hpl
  clear hBn hBh kA hpl
  go_wp2_with (refine wpList_copy_cells rfl (.tmp 11) (.tmp 15) 71 71 rfl 160 Tryz.underlying71 (by kernel_rfl) (w.heap.size + 1) 0 fs.length fs.length _ fs.length cap rfl rfl (List.replicate fs.length (.pointer none)) 160 HBN.out (ptrs (fs.reverse.map (·.blk))) (by rw [HPL.out, Nat.min_self]) ⟨_, rfl, ptrs_cells (HP.out.ptrs.keep HKA.out (fun h => h))⟩ (by rw [HPL.out, List.length_replicate]; omega) (ptrs_one _) ?_; intro W B1 K1)
  have K2 : Keeps (In [w.heap.size + 1]) w W := HKA.out.of_no.trans' K1
  have B2 : POwn W (w.heap.size + 1) fs.length (fs.reverse.map (·.blk)) := by
    refine ⟨[], B1.out.to ?_, by simp, by unfold maxLen; omega⟩
    rw [List.take_zero, HPL.out, List.nil_append, Nat.zero_add, List.drop_eq_nil_of_le (by simp)]
  have B3 := HBH.out.keep K1 (fun h => by simp [In] at h)
  have F2 := (HF.out.keep K2 (fun x h => by simp [In] at h; omega))
  have HB2 := Lib.hid B2
  have HB3 := Lib.hid B3
  have HF2 := Lib.hid F2
  have HK2 := Lib.hid K2
  clear B1 B2 B3 F2 K1 c0
  go_wp2_with (fail)
  refine (makeHeaderMap_any (w.heap.size + 1) fs.length lo w.heap.size fs.reverse fs.length (by rw [List.length_reverse]) W HB2.out.ptrs (fun f h => HF2.out f (List.mem_reverse.1 h)) K2.size (by simpa using hn)).mono ?_
  rintro e w2 ⟨mv, rfl, hm2, k2⟩
  have hB4 := HB3.out.keep_no k2
  have fz4 := hB4.frozen
  have d0 : w2.cell? ⟨w.heap.size, 0, none⟩ = some (.slice none 0 0) := hB4.cell 0
  have d1 : w2.cell? ⟨w.heap.size, 1, none⟩ = some (.map none) := hB4.cell 1
  have HM2 := Lib.hid hm2
  have HB4 := Lib.hid hB4
  clear hm2 hB4
  go_wp2
  refine bodyPost_ret (results_cell_row rfl _ _ w.heap.size 74 #[.slice (some ⟨w.heap.size + 1, 0, none⟩) fs.length fs.length, .map mv] (0, 0) _ rfl ((HB4.out.set 0 (.slice (some ⟨w.heap.size + 1, 0, none⟩) fs.length fs.length)).set 1 (.map mv)) Tryz.underlying74 rfl (by kernel_rfl)) rfl ?_
  have kk : Keeps (In [w.heap.size]) w2 ((w2.setCell ⟨w.heap.size, 0, none⟩ (.slice (some ⟨w.heap.size + 1, 0, none⟩) fs.length fs.length)).setCell ⟨w.heap.size, 1, none⟩ (.map mv)) := ((Keeps.refl _ w2).setCell (.inl (by simp [In])) _).setCell (.inl (by simp [In])) _
  have hlt2 := HB2.out.ptrs.lt
  refine ⟨w.heap.size + 1, fs.length, mv, rfl, Nat.le_succ _, (HB2.out.keep k2 (fun h => h)).keep kk (fun h => by simp [In] at h), HMap.to HM2.out kk (fun x h => by simp [In] at h; omega) (by have := HB2.out.ptrs.lt; omega), ?_⟩
  exact ((HK2.out.trans_no k2).trans kk (fun i hi h => by simp [In] at h; omega)).mono (fun i hi h => by simp [In] at h; omega)
end Go.Proofs.YtjbbapodcngnaaaGreatDoor
