/- The iterator by key. headerFieldsByKey.Del. FieldsByKey; the methods of the iterators. deleted: a field by its place. deleted: a field by its place among those of a key. -/
import Derived.Test.YtjbbapodcngnaaaGreatDoorZqae
namespace Go.Proofs.YtjbbapodcngnaaaGreatDoor
open Go.RowKit Hdr

/-- An iterator by key at block ib over the header at block hb; the key's group is a slice at block g. -/
structure ItK (w : World) (ib hb lb n cap mb : Nat) (gs : List Grp) (ck : List UInt8) (g len gcap : Nat) (c : Int) : Prop where
  B : Blk w ib [.pointer (some ⟨hb, 0, none⟩), str ck, .int .i64 c] 192
  H : Blk w hb [.slice (some ⟨lb, 0, none⟩) n cap, .map (some mb)] 74
  E : MapE w mb gs
  L : ∀ W, MapE W mb gs → (Instr.lookup 72 (.map (some mb)) (str ck) false).run Tryz.prog W = .ok (.slice (some ⟨g, 0, none⟩) len gcap) W
theorem ItK.keep {S : Nat → Prop} {w w' : World} {ib hb lb n cap mb : Nat} {gs : List Grp} {ck : List UInt8} {g len gcap : Nat} {c : Int} (h : ItK w ib hb lb n cap mb gs ck g len gcap c) (k : Keeps S w w') (h1 : ¬ S ib) (h2 : ¬ S hb) (h3 : ¬ S mb) : ItK w' ib hb lb n cap mb gs ck g len gcap c :=
  ⟨h.B.keep k h1, h.H.keep k h2, h.E.keep k h3, h.L⟩
theorem ItK.drewN {w : World} {ib hb lb n cap mb : Nat} {gs : List Grp} {ck : List UInt8} {g len gcap : Nat} {c : Int} (h : ItK w ib hb lb n cap mb gs ck g len gcap c) (q : Nat) : ItK (w.drewN q) ib hb lb n cap mb gs ck g len gcap c :=
  h.keep (S := No) ((Keeps.refl _ w).drewN q) (fun h => h) (fun h => h) (fun h => h)

section
variable {ib hb lb n cap mb : Nat} {gs : List Grp} {ck : List UInt8} {g len gcap : Nat}

set_option maxRecDepth 100000 in
set_option maxHeartbeats 1000000 in
theorem nextK_any {c : Int} (w : World) (h : ItK w ib hb lb n cap mb gs ck g len gcap c) (h1 : -1 ≤ c) (h2 : c < len) (hn : len ≤ 1000000) :
    Calls Tryz.prog 264 #[.pointer (some ⟨ib, 0, none⟩)] w fun e w' => e = .returned (.bool (decide (c + 1 < len))) ∧ ItK w' ib hb lb n cap mb gs ck g len gcap (c + 1) ∧ Keeps (In [ib]) w w' := by
  have c0 : w.cell? ⟨ib, 0, none⟩ = some (.pointer (some ⟨hb, 0, none⟩)) := h.B.cell 0
  have c1 : w.cell? ⟨ib, 1, none⟩ = some (str ck) := h.B.cell 1
  have c2 : w.cell? ⟨ib, 2, none⟩ = some (.int .i64 c) := h.B.cell 2
  have c3 : w.cell? ⟨hb, 1, none⟩ = some (.map (some mb)) := h.H.cell 1
  have fz := h.B.frozen
  have hne : ib ≠ hb := h.B.ne h.H (by decide)
  have hnm : mb ≠ ib := h.E.ne h.B
  have kS : Keeps (In [ib]) w (w.setCell ⟨ib, 2, none⟩ (.int .i64 (c + 1))) := (Keeps.refl _ w).setCell (.inl (by simp [In])) _
  have hE2 : ∀ q, MapE ((w.setCell ⟨ib, 2, none⟩ (.int .i64 (c + 1))).drewN q) mb gs := fun q => h.E.keep (kS.drewN q) (by simp [In]; exact hnm)
  have hlk : ∀ q, (Instr.lookup 72 (.map (some mb)) (str ck) false).run Tryz.prog ((w.setCell ⟨ib, 2, none⟩ (.int .i64 (c + 1))).drewN q) = .ok (.slice (some ⟨g, 0, none⟩) len gcap) ((w.setCell ⟨ib, 2, none⟩ (.int .i64 (c + 1))).drewN q) := fun q => h.L _ (hE2 q)
  have H := Lib.hid h
  have HE2 := Lib.hid hE2
  have hw : IntKind.i64.wrap (c + 1) = c + 1 := by rw [IntKind.wrap_i64]; omega
  clear h hE2
  go_enter Tryz.func264, Tryz.ntmps264
  go_wp2
  go_quiet (fail)
  go_wp2
  go_ret
  have hB := (H.out.B.set 2 (.int .i64 (c + 1))).drewN nq
  exact ⟨rfl, ⟨hB.to rfl, (H.out.H.set_other (p := ⟨ib, 2, none⟩) hne _).drewN nq, HE2.out nq, H.out.L⟩, kS.drewN nq⟩

set_option maxRecDepth 100000 in
set_option maxHeartbeats 1000000 in
theorem indexK_any {j : Nat} (w : World) (h : ItK w ib hb lb n cap mb gs ck g len gcap j) (hj : j < len) (hn : len ≤ 1000000) :
    Calls Tryz.prog 268 #[.pointer (some ⟨ib, 0, none⟩)] w fun e w' => e = .returned (.int .i64 ((len - 1 - j : Nat) : Int)) ∧ ∃ q, w' = w.drewN q := by
  have c0 : w.cell? ⟨ib, 0, none⟩ = some (.pointer (some ⟨hb, 0, none⟩)) := h.B.cell 0
  have c1 : w.cell? ⟨ib, 1, none⟩ = some (str ck) := h.B.cell 1
  have c2 : w.cell? ⟨ib, 2, none⟩ = some (.int .i64 j) := h.B.cell 2
  have c3 : w.cell? ⟨hb, 1, none⟩ = some (.map (some mb)) := h.H.cell 1
  have hlk : ∀ q, (Instr.lookup 72 (.map (some mb)) (str ck) false).run Tryz.prog (w.drewN q) = .ok (.slice (some ⟨g, 0, none⟩) len gcap) (w.drewN q) := fun q => h.L _ (h.drewN q).E
  have e1 : decide ((j : Int) < 0) = false := decide_eq_false (by omega)
  have e2 : decide ((len : Int) ≤ (j : Int)) = false := decide_eq_false (by omega)
  have e2' : decide (len ≤ j) = false := decide_eq_false (by omega)
  have e3 : IntKind.i64.wrap ((len : Int) - j) = (len : Int) - j := by rw [IntKind.wrap_i64]; omega
  have e4 : IntKind.i64.wrap ((len : Int) - j - 1) = (len : Int) - j - 1 := by rw [IntKind.wrap_i64]; omega
  have e5 : ((len - 1 - j : Nat) : Int) = (len : Int) - j - 1 := by omega
  rw [e5]
  clear h e5
  go_enter Tryz.func268, Tryz.ntmps268
  go_wp2
  go_quiet (fail)
  go_wp2
  go_quiet (fail)
  go_wp2
  go_ret
  exact ⟨rfl, _, World.drewN_drewN _ _ _⟩

set_option maxRecDepth 100000 in
set_option maxHeartbeats 1000000 in
theorem fieldK_any {j fb : Nat} (w : World) (h : ItK w ib hb lb n cap mb gs ck g len gcap j) (hj : j < len) (hn : len ≤ 1000000) (hc : w.cell? ⟨g, len - 1 - j, none⟩ = some (.pointer (some ⟨fb, 0, none⟩))) :
    Calls Tryz.prog 267 #[.pointer (some ⟨ib, 0, none⟩)] w fun e w' => e = .returned (.pointer (some ⟨fb, 0, none⟩)) ∧ ∃ q, w' = w.drewN q := by
  have c0 : w.cell? ⟨ib, 0, none⟩ = some (.pointer (some ⟨hb, 0, none⟩)) := h.B.cell 0
  have c1 : w.cell? ⟨ib, 1, none⟩ = some (str ck) := h.B.cell 1
  have c3 : w.cell? ⟨hb, 1, none⟩ = some (.map (some mb)) := h.H.cell 1
  have hlk : ∀ q, (Instr.lookup 72 (.map (some mb)) (str ck) false).run Tryz.prog (w.drewN q) = .ok (.slice (some ⟨g, 0, none⟩) len gcap) (w.drewN q) := fun q => h.L _ (h.drewN q).E
  have H := Lib.hid h
  have e1 : ((len - 1 - j : Nat) : Int) < (len : Int) := by omega
  have e2 : (0 : Int) ≤ ((len - 1 - j : Nat) : Int) := by omega
  have hix := fun (w' : World) (h : ItK w' ib hb lb n cap mb gs ck g len gcap j) => indexK_any w' h hj hn
  generalize len - 1 - j = ix at *
  clear h
  go_enter Tryz.func267, Tryz.ntmps267
  go_wp2
  go_quiet ((go_at_call 268; exact Calls.quiet_of (hix _ (H.out.drewN _))))
  go_wp2
  go_ret
  exact ⟨rfl, _, rfl⟩
end
end Go.Proofs.YtjbbapodcngnaaaGreatDoor
namespace Go.Proofs.YtjbbapodcngnaaaGreatDoor
open Go.RowKit Hdr

/-- The map behind a new list. -/
theorem MuL.relistG {w W : World} {own : List Nat} {hb lb cap g' mb : Nat} {gs : List Grp} {l ms : List Fd} (h : MuL w own hb lb cap (some mb) l ms) (h4 : MG w own lb mb gs ms) (k2 : Keeps (In [lb, hb]) w W) (hg : g' = lb ∨ w.heap.size ≤ g') : MG W (g' :: own) g' mb gs ms := by
  refine h4.keep k2 (fun hc => ?_) (fun x hx g hgx => ?_) (fun _ h => List.mem_cons_of_mem _ h)
  · simp only [In, List.mem_cons, List.not_mem_nil, or_false] at hc
    rcases hc with rfl | rfl
    · obtain ⟨_, _, _, cur, hB, _⟩ := h.L
      exact h4.E.ne hB rfl
    · exact h4.E.ne h.H rfl
  · obtain ⟨h1, h2⟩ := h4.og x hx g hgx
    have h5 := (h4.G.own x hx).ne_hb h.H g hgx
    have h6 := ((h4.G.own x hx).lt g hgx).2
    refine ⟨fun hc => ?_, ?_⟩
    · simp only [In, List.mem_cons, List.not_mem_nil, or_false] at hc
      rcases hc with hc | hc
      · exact h2 hc
      · exact h5 hc
    · rcases hg with rfl | hg
      · exact h2
      · omega

set_option maxRecDepth 100000 in
set_option maxHeartbeats 4000000 in
theorem itDelK_any (ib hb j : Nat) (ck : List UInt8) (fs : List Fd) (own : List Nat) (w : World) (f : Fd) (h : HMut w own hb fs) (hI : Blk w ib [.pointer (some ⟨hb, 0, none⟩), str ck, .int .i64 j] 192) (hio : ib ∉ own) (hFI : ∀ f ∈ fs, FdP w (ib :: own) f)
    (hf0 : (fs.filter (fun h => decide (h.k = ck)))[j]? = some f) (hn : fs.length ≤ 1000000) :
    Calls Tryz.prog 261 #[.pointer (some ⟨ib, 0, none⟩)] w fun e w' => e = .returned (.tuple #[]) ∧
      ∃ own', HMut w' own' hb (fs.filter (fun h => decide (h.blk ≠ f.blk))) ∧ Keeps (In (ib :: own)) w w' ∧ ∀ x ∈ own', x ∈ own ∨ w.heap.size ≤ x := by
  obtain ⟨lb, cap, m, M⟩ := h
  have hjl0 := (List.getElem?_eq_some_iff.1 hf0).1
  have hfk : f.k = ck := by simpa using (List.mem_filter.1 (List.mem_of_getElem? hf0)).2
  have hffs : f ∈ fs := (List.mem_filter.1 (List.mem_of_getElem? hf0)).1
  have hFI2 : ∀ f ∈ fs.reverse, FdP w (ib :: own) f := fun f hf => hFI f (List.mem_reverse.1 hf)
  have hN : (fs.reverse.map (·.blk)).Nodup := by rw [List.map_reverse]; exact nodup_rev M.N
  have hfs : fs.filter (fun h => decide (h.blk ≠ f.blk)) = (fs.reverse.filter (fun h => decide (h.blk ≠ f.blk))).reverse := by rw [List.filter_reverse, List.reverse_reverse]
  rw [hfs]
  have ML := M.toL
  have hnl : fs.reverse.length ≤ 1000000 := by simpa using hn
  have hf : f ∈ fs.reverse := List.mem_reverse.2 hffs
  have hsl : (fs.reverse.filter (fun h => decide (h.k = f.k))).length = (fs.filter (fun h => decide (h.k = f.k))).length := by rw [List.filter_reverse, List.length_reverse]
  have hsj : (fs.reverse.filter (fun h => decide (h.k = f.k)))[(fs.filter (fun h => decide (h.k = f.k))).length - 1 - j]? = some f := by
    rw [List.filter_reverse]
    rw [← hfk] at hf0 hjl0
    rw [List.getElem?_reverse (by omega), show (fs.filter (fun h => decide (h.k = f.k))).length - 1 - ((fs.filter (fun h => decide (h.k = f.k))).length - 1 - j) = j by omega]
    exact hf0
  rw [← hfk] at hjl0 hI
  rw [← hsl] at hsj hjl0
  clear hfs M hn hFI hf0 hffs hsl
  generalize fs.reverse = l at *
  obtain ⟨il, hil⟩ := List.getElem?_of_mem hf
  obtain ⟨hill, hile⟩ := List.getElem?_eq_some_iff.1 hil
  rcases ML.M with ⟨rfl, rfl⟩ | ⟨mb, gs, rfl, G⟩
  · cases hf
  obtain ⟨a, x, b, g, gcap, rfl, hxk, ha, hb', hxv, hpo, hps, hgo, hgl, hgm, hlk⟩ := G.grp hf
  have hxl : x.ps.length = (l.filter (fun h => decide (h.k = f.k))).length := by rw [hps, List.length_map]
  have hIt : ItK w ib hb lb l.length cap mb (a ++ x :: b) f.k g x.ps.length gcap j := ⟨hI, ML.H, G.E, hlk⟩
  have hpc : w.cell? ⟨g, x.ps.length - 1 - j, none⟩ = some (.pointer (some ⟨f.blk, 0, none⟩)) := hpo.own.ptrs.cell_of (by rw [hxl, hps, List.getElem?_map, hsj]; rfl)
  have hjx : j < x.ps.length := by rw [hxl]; exact hjl0
  have hpsl : x.ps.length ≤ l.length := by rw [hxl]; exact List.length_filter_le _ _
  have hpi : x.ps[x.ps.length - 1 - j]? = some f.blk := by rw [hxl, hps, List.getElem?_map, hsj]; rfl
  have ci0 : w.cell? ⟨ib, 0, none⟩ = some (.pointer (some ⟨hb, 0, none⟩)) := hI.cell 0
  have ch0 : w.cell? ⟨hb, 0, none⟩ = some (.slice (some ⟨lb, 0, none⟩) l.length cap) := ML.H.cell 0
  have hfB := (ML.F f hf).B
  have hibw := hI.lt
  have HML := Lib.hid ML
  have HG := Lib.hid G
  have HPO := Lib.hid hpo
  have HFD := Lib.hid hfB
  have HIT := Lib.hid hIt
  have HPS := Lib.hid hps
  have HPI := Lib.hid hpi
  have HN := Lib.hid hN
  have HXV := Lib.hid hxv
  have HXK := Lib.hid hxk
  have HA := Lib.hid ha
  have HB := Lib.hid hb'
  have HF := Lib.hid hf
  have HFI := Lib.hid hFI2
  clear ML G hpo hfB hIt hps hN hlk hxv hxk ha hb' hf hI hFI2 hsj hxl hpi hil hill hile il hjl0 hfk
  go_enter Tryz.func261, Tryz.ntmps261
  go_wp2_with (fail)
  refine (fieldK_any w HIT.out hjx (by omega) hpc).mono ?_
  rintro e w1 ⟨rfl, q1, rfl⟩
  generalize hL : x.ps.length = L at *
  have HL := Lib.hid hL
  clear hL hpc
  go_wp2
  go_loopg [15] l.length (fun n s15 wr => ∃ i : Nat, s15 = .int .i64 i ∧ i + n = l.length ∧ (∀ z ∈ l.take i, z.blk ≠ f.blk) ∧ w.drewN q1 = wr)
  case atStart => exact ⟨0, rfl, by omega, fun p hp => by simp at hp, rfl⟩
  case round =>
    obtain ⟨i, rfl, hin, hpre, rfl⟩ := hrel
    have HPRE := Lib.hid hpre
    have HIN := Lib.hid hin
    clear hpre hin
    have hip : i < l.length := by
      refine Nat.lt_of_not_le (fun h => ?_)
      exact HPRE.out f (by rw [List.take_of_length_le h]; exact HF.out) rfl
    have cg : w.cell? ⟨lb, i, none⟩ = some (.pointer (some ⟨l[i].blk, 0, none⟩)) := HML.out.L.own.ptrs.cell_of (by rw [List.getElem?_map, List.getElem?_eq_getElem hip]; rfl)
    have hcx := (HML.out.F l[i] (List.getElem_mem hip)).B
    have heq := eql_fd (HFD.out.drewN q1) (hcx.drewN q1)
    have htk : l.take (i + 1) = l.take i ++ [l[i]] := List.take_succ_eq_append_getElem hip
    have her := nodup_erase l i hip HN.out
    generalize hz : l[i] = z at *
    have HTK := Lib.hid htk
    have HER := Lib.hid her
    clear hz htk hcx her
    have e1 : (i : Int) < (l.length : Int) := by omega
    by_cases hpf : f.blk = z.blk
    · rw [decide_eq_true hpf] at heq
      have HPF := Lib.hid hpf
      clear hpf
      go_wp2
      clear heq cg
      have hcap := HML.out.L.2.1
      rw [List.length_map] at hcap
      have hmx : (l.eraseIdx i).map (·.blk) = (l.map (·.blk)).eraseIdx i := map_erase _ _ _
      have hlE : (l.eraseIdx i).length = l.length - 1 := List.length_eraseIdx_of_lt hip
      have her : l.eraseIdx i = l.filter (fun h => decide (h.blk ≠ f.blk)) := by rw [HER.out, HPF.out]
      have HE8 := Lib.hid her
      have HMX := Lib.hid hmx
      have HLE := Lib.hid hlE
      have h12 : (i : Int) ≤ (cap : Int) := by omega
      have h13 : IntKind.i64.wrap ((i : Int) + 1) = (i : Int) + 1 := by rw [IntKind.wrap_i64]; omega
      have h14 : (i : Int) + 1 ≤ (l.length : Int) := by omega
      have h16 : (0 : Int) ≤ (i : Int) := by omega
      have h17 : (0 : Int) ≤ (i : Int) + 1 := by omega
      clear her hmx hlE HER HPF HTK
      refine region_segs [([0, 1, 2, 3, 4, 5, 6, 7, 8, 9, 10, 11, 12, 13, 14, 15, 16, 17, 18, 19, 20, 21, 22], 23)] [24, 25] 26 (fun W => W.cell? ⟨ib, 0, none⟩ = some (.pointer (some ⟨hb, 0, none⟩)) ∧ W.cell? ⟨hb, 0, none⟩ = some (.slice (some ⟨lb, 0, none⟩) l.length cap)) (by kernel_rfl) (by kernel_rfl) ?_ ?_
      · exact ⟨ci0, ch0⟩
      simp only [segPick, List.map_cons, List.map_nil, pick, List.filterMap_cons, List.filterMap_nil, List.getElem?_cons_succ, List.getElem?_cons_zero, List.drop_succ_cons, List.drop_zero]
      rw [wpSegs]
      intro ι F hne hF
      have d1 := fun j => (hF j).1
      have d2 := fun j => (hF j).2
      clear hF
      repeat (quiet_step (fail))
      refine wpQuiet_nil ?_
      clear d1 d2 hne F ι
      refine wpList_append_p rfl (.tmp 42) (.tmp 52) rfl 0 lb cap i ((l.map (·.blk)).take i) rfl (by rw [List.length_take, List.length_map]; omega) (po_take HML.out.L (List.take_append_drop i _).symm) ⟨lb, cutAt 0 (i + 1) cap 1, none⟩ (l.length - (i + 1)) (cap - (i + 1)) ((l.map (·.blk)).drop (i + 1)) rfl (by rw [List.length_drop, List.length_map]) (po_rest HML.out.L (List.take_append_drop (i + 1) _).symm (by rw [List.length_take, List.length_map]; omega)) (by omega) (Nat.zero_le _) ?_
      intro g' cap' w11 hL11 k11 hg11
      have k11' : Keeps (In [lb]) w w11 := (((Keeps.refl _ w).drewN q1).drew).trans' k11
      have hg12 : g' = lb ∨ w.heap.size ≤ g' := by simpa using hg11
      have hlb2 : lb ∈ own := HML.out.ol
      have hlib : ib ≠ lb := fun e => hio (e ▸ hlb2)
      rw [← List.eraseIdx_eq_take_drop_succ, ← HMX.out, HE8.out] at hL11
      have hnl2 : i + (l.length - (i + 1)) = (l.filter (fun h => decide (h.blk ≠ f.blk))).length := by
        rw [← HE8.out, HLE.out]
        omega
      have R12 := HML.out.relist hnl2 (fun z hz => (List.mem_filter.1 hz).1) k11' hg12 hL11
      have B12 := HML.out.H.keep k11' (fun hc => by simp [In] at hc; exact HML.out.hl hc)
      have f12 := B12.frozen
      have c12 : w11.cell? ⟨hb, 0, none⟩ = some (.slice (some ⟨lb, 0, none⟩) l.length cap) := B12.cell 0
      have I12 : w11.cell? ⟨ib, 0, none⟩ = some (.pointer (some ⟨hb, 0, none⟩)) := k11'.cell ci0 (by simp [In]; exact hlib)
      have BI12 := HIT.out.B.keep k11' (by simp [In]; exact hlib)
      have hmlb : mb ≠ lb := by
        obtain ⟨_, _, _, cur, hB, _⟩ := HML.out.L
        exact HG.out.E.ne hB
      have E12 := HG.out.E.keep k11' (by simp [In]; exact hmlb)
      have hbi : hb ≠ ib := fun e => hio (e ▸ HML.out.oh)
      have hmhb : mb ≠ hb := HG.out.E.ne HML.out.H
      have KLH : Keeps (In [lb, hb]) w (w11.setCell ⟨hb, 0, none⟩ (.slice (some ⟨g', 0, none⟩) (i + (l.length - (i + 1))) cap')) := (k11'.mono (fun x _ h => by simp only [In, List.mem_cons, List.not_mem_nil, or_false] at h ⊢; exact .inl h)).setCell (.inl (by simp [In])) _
      have HKLH := Lib.hid KLH
      have HG13 := Lib.hid (HML.out.relistG HG.out KLH hg12)
      clear KLH
      have HR12 := Lib.hid R12
      have HNL2 := Lib.hid hnl2
      have HG12 := Lib.hid hg12
      have HB12 := Lib.hid B12
      have HBI12 := Lib.hid BI12
      have HE12 := Lib.hid E12
      clear R12 k11 k11' hL11 hg11 hnl2 hg12 ci0 ch0 B12 BI12 E12
      generalize i + (l.length - (i + 1)) = n12 at *
      go_wp2
      refine EffPost.intro ⟨I12, c12⟩ ?_
      rw [wpSegs]
      intro ι F hne hF
      clear hF
      repeat (quiet_step (fail))
      refine wpQuiet_nil ?_
      clear hne F ι
      have IK : ItK (w11.setCell ⟨hb, 0, none⟩ (.slice (some ⟨g', 0, none⟩) n12 cap')) ib hb g' n12 cap' mb (a ++ x :: b) f.k g L gcap j :=
        ⟨HBI12.out.set_other (p := ⟨hb, 0, none⟩) hbi _, HB12.out.set 0 _, HE12.out.keep (S := In [hb]) ((Keeps.refl _ _).setCell (.inl (by simp [In])) _) (by simp [In]; exact hmhb), HIT.out.L⟩
      go_wp2
      generalize w11.setCell ⟨hb, 0, none⟩ (.slice (some ⟨g', 0, none⟩) n12 cap') = w12 at *
      clear I12 c12 f12
      have HIK := Lib.hid IK
      have hpo12 : PO w12 0 g gcap x.ps := HPO.out.keep HKLH.out (fun hc => by
        simp only [In, List.mem_cons, List.not_mem_nil, or_false] at hc
        rcases hc with rfl | rfl
        · exact hgl rfl
        · obtain ⟨_, _, _, cur, hB, _⟩ := HPO.out
          exact HML.out.H.ne hB (by decide) rfl)
      have HPO12 := Lib.hid hpo12
      have hix := fun (W : World) (h : ItK W ib hb g' n12 cap' mb (a ++ x :: b) f.k g L gcap j) => indexK_any W h hjx (Nat.le_trans hpsl hnl)
      have hgc : L ≤ gcap := by have := HPO.out.2.1; rw [HL.out] at this; exact this
      have hjn := hjx
      generalize hjxx : L - 1 - j = jx at *
      have HJX := Lib.hid hjxx
      have hjx2 : jx < L := by omega
      have HIX := Lib.hid hix
      have h22 : (jx : Int) ≤ (gcap : Int) := by omega
      have h23 : IntKind.i64.wrap ((jx : Int) + 1) = (jx : Int) + 1 := by rw [IntKind.wrap_i64]; omega
      have h24 : (jx : Int) + 1 ≤ (L : Int) := by omega
      have h26 : (0 : Int) ≤ (jx : Int) := by omega
      have h27 : (0 : Int) ≤ (jx : Int) + 1 := by omega
      clear hix IK hpo12 hjxx
      refine region_segs [([0, 1, 2, 3, 4, 5, 6, 7, 8, 9, 10, 11, 12, 13, 14, 15, 16, 17, 18, 19, 20, 21, 22, 23, 26, 27, 28, 29, 30, 31, 32, 33, 34, 35, 36, 37, 38], 24), ([25], 39), ([40, 41], 42)] [] 43 (fun W => W.cell? ⟨ib, 0, none⟩ = some (.pointer (some ⟨hb, 0, none⟩)) ∧ W.cell? ⟨ib, 1, none⟩ = some (str f.k) ∧ W.cell? ⟨hb, 1, none⟩ = some (.map (some mb)) ∧ MapE W mb (a ++ x :: b)) (by kernel_rfl) (by kernel_rfl) ?_ ?_
      · exact ⟨HIK.out.B.cell 0, HIK.out.B.cell 1, HIK.out.H.cell 1, (HIK.out.drewN 1).E⟩
      simp only [segPick, List.map_cons, List.map_nil, pick, List.filterMap_cons, List.filterMap_nil, List.getElem?_cons_succ, List.getElem?_cons_zero, List.drop_succ_cons, List.drop_zero]
      rw [wpSegs]
      intro ι F hne hF
      have d1 := fun j => (hF j).1
      have d2 := fun j => (hF j).2.1
      have d3 := fun j => (hF j).2.2.1
      have d4 := fun j => HIT.out.L _ (hF j).2.2.2
      clear hF
      repeat (quiet_step (fail))
      refine wpQuiet_nil ?_
      clear d1 d2 d3 d4 hne F ι
      have hC : ∀ q, (w12.drewN q).cell? ⟨ib, 0, none⟩ = some (.pointer (some ⟨hb, 0, none⟩)) ∧ (w12.drewN q).cell? ⟨ib, 1, none⟩ = some (str f.k) ∧ (w12.drewN q).cell? ⟨hb, 1, none⟩ = some (.map (some mb)) ∧ MapE (w12.drewN q) mb (a ++ x :: b) := fun q => ⟨(HIK.out.drewN q).B.cell 0, (HIK.out.drewN q).B.cell 1, (HIK.out.drewN q).H.cell 1, (HIK.out.drewN q).E⟩
      have HC := Lib.hid hC
      clear hC
      go_wp2_with (fail)
      refine (HIX.out _ (HIK.out.drewN 1)).mono ?_
      rintro e w9 ⟨rfl, q9, rfl⟩
      go_wp2
      refine EffPost.intro (HC.out (1 + q9)) ?_
      rw [wpSegs]
      intro ι F hne hF
      clear hF
      repeat (quiet_step (fail))
      refine wpQuiet_nil ?_
      clear hne F ι
      go_wp2_with (fail)
      refine (HIX.out _ (HIK.out.drewN _)).mono ?_
      rintro e w9' ⟨rfl, q10, rfl⟩
      go_wp2
      refine EffPost.intro (HC.out _) ?_
      rw [wpSegs]
      intro ι F hne hF
      clear hF
      repeat (quiet_step (fail))
      refine wpQuiet_nil ?_
      clear hne F ι
      refine wpList_append_p rfl (.tmp 85) (.tmp 101) rfl 0 g gcap jx (x.ps.take jx) rfl (by rw [List.length_take]; have := HL.out; omega) (po_take HPO12.out (List.take_append_drop jx x.ps).symm) ⟨g, cutAt 0 (jx + 1) gcap 1, none⟩ (L - (jx + 1)) (gcap - (jx + 1)) (x.ps.drop (jx + 1)) rfl (by rw [List.length_drop, HL.out]) (po_rest HPO12.out (List.take_append_drop (jx + 1) x.ps).symm (by rw [List.length_take]; have := HL.out; omega)) (by omega) (Nat.zero_le _) ?_
      intro g'' gcap' w4 hL4 k4 hg4
      rw [← List.eraseIdx_eq_take_drop_succ] at hL4
      have k4' : Keeps (In [g]) w12 w4 := ((Keeps.refl _ w12).drewN _).trans' k4
      have hlbw : g' < w12.heap.size := HR12.out.1.lt _ HR12.out.1.ol
      have hnn : jx + (L - (jx + 1)) = (x.ps.eraseIdx jx).length := by rw [List.length_eraseIdx_of_lt (by rw [HL.out]; exact hjx2), HL.out]; omega
      have hless := HG13.out.less (w2 := w4) HN.out HF.out HXK.out HA.out HB.out (by rw [HL.out]; exact HXV.out) HPS.out HPI.out hnn hL4 k4' (by simpa using hg4) hlbw
      have HLESS := Lib.hid hless
      have HK4 := Lib.hid k4'
      have hgib : ib ≠ g := fun e => hio (e ▸ hgo)
      have hghb : hb ≠ g := by
        obtain ⟨_, _, _, cur, hB, _⟩ := HPO.out
        exact HML.out.H.ne hB (by decide)
      have hg5 : g'' = g ∨ w12.heap.size ≤ g'' := by simpa using hg4
      have HG5 := Lib.hid hg5
      have hn6 : jx + (L - (jx + 1)) = L - 1 := by omega
      have HL4 := Lib.hid hL4
      have c4i : w4.cell? ⟨ib, 0, none⟩ = some (.pointer (some ⟨hb, 0, none⟩)) := k4'.cell (HIK.out.B.cell 0) (by simpa [In] using hgib)
      have c4k : w4.cell? ⟨ib, 1, none⟩ = some (str f.k) := k4'.cell (HIK.out.B.cell 1) (by simpa [In] using hgib)
      have c4h : w4.cell? ⟨hb, 1, none⟩ = some (.map (some mb)) := k4'.cell (HIK.out.H.cell 1) (by simpa [In] using hghb)
      have E4 := HIK.out.E.keep k4' (by simpa [In] using hgm.symm)
      have HC4 := Lib.hid (And.intro c4i (And.intro c4k (And.intro c4h E4)))
      clear hless k4 k4' hL4 hg4 hnn hg5 c4i c4k c4h E4
      generalize jx + (L - (jx + 1)) = n6 at *
      subst hn6
      go_wp2
      refine EffPost.intro HC4.out ?_
      rw [wpSegs]
      intro ι F hne hF
      clear hF
      repeat (quiet_step (fail))
      refine wpQuiet_nil ?_
      clear hne F ι
      go_wp2_with (at_mapUpdate; refine wpList_update rfl (.tmp 66) (.tmp 70) (.tmp 102) rfl mb f.k _ rfl rfl rfl HLESS.out ?_; rintro w7 ⟨k7, hE7, hne7, heq7⟩)
      have k47 : Keeps (In [g, mb]) w12 w7 := (HK4.out.mono (fun y _ h => by simp only [In, List.mem_cons, List.not_mem_nil, or_false] at h ⊢; exact .inl h)).trans k7 (fun y _ h => by simp only [In, List.mem_cons, List.not_mem_nil, or_false] at h ⊢; exact .inr h)
      have hmo : mb ∈ own := HG.out.om
      have hmib : ib ≠ mb := fun e => hio (e ▸ hmo)
      have c7i : w7.cell? ⟨ib, 0, none⟩ = some (.pointer (some ⟨hb, 0, none⟩)) := k47.cell (HIK.out.B.cell 0) (by simp [In]; exact ⟨hgib, hmib⟩)
      have c7k : w7.cell? ⟨ib, 1, none⟩ = some (str f.k) := k47.cell (HIK.out.B.cell 1) (by simp [In]; exact ⟨hgib, hmib⟩)
      have c7h : w7.cell? ⟨hb, 1, none⟩ = some (.map (some mb)) := k47.cell (HIK.out.H.cell 1) (by simp [In]; exact ⟨hghb, hmhb.symm⟩)
      have hlk7 : ∀ q, (Instr.lookup 72 (.map (some mb)) (str f.k) false).run Tryz.prog (w7.drewN q) = .ok (.slice (some ⟨g'', 0, none⟩) (L - 1) gcap') (w7.drewN q) := fun q => run_lookup_some (w7.drewN q) mb a b ⟨f.k, .slice (some ⟨g'', 0, none⟩) (L - 1) gcap', x.ps.eraseIdx jx⟩ hE7 HA.out
      have hg7 : g'' < w7.heap.size := Nat.lt_of_lt_of_le HL4.out.lt k7.size
      have HE7 := Lib.hid hE7
      have HNE7 := Lib.hid hne7
      have HEQ7 := Lib.hid heq7
      have HK47 := Lib.hid k47
      clear hE7 hne7 heq7 k47 k7
      go_quiet (fail)
      generalize hn7 : L - 1 = n7 at *
      go_upto_if 116 with (fail)
      go_cut [] (fun wx => ∃ gs', MG wx (g'' :: g' :: own) g' mb gs' (l.filter (fun h => decide (h.blk ≠ f.blk))) ∧ Keeps (In [g, mb]) w12 wx ∧ g'' < wx.heap.size)
      case first =>
        by_cases hz : n7 = 0
        · have e8 : ((n7 : Int) == 0) = true := by simp [hz]
          have hkk := HG.out.G.keys
          rw [List.pairwise_append, List.pairwise_cons] at hkk
          obtain ⟨wd, hdel, hEd, kd⟩ := run_delete (w7.drewN (nq + 1)) mb _ f.k 0 HE7.out (by
            rw [List.pairwise_append, List.pairwise_cons]
            exact ⟨hkk.1, ⟨fun y hy => (HB.out y hy).symm, hkk.2.1.2⟩, fun y hy z hz => by
              rcases List.mem_cons.1 hz with rfl | hz
              · exact HA.out y hy
              · exact hkk.2.2 y hy z (List.mem_cons_of_mem _ hz)⟩)
          clear hkk
          have kd' : Keeps (In [mb]) w7 wd := ((Keeps.refl _ w7).drewN (nq + 1)).trans' kd
          have HDD := Lib.hid (HEQ7.out hz wd hEd kd')
          have HKD := Lib.hid kd'
          clear hEd kd kd'
          go_wp2
          refine region_tail 11 (by kernel_rfl) (by kernel_rfl) ?_
          simp only [List.take_succ_cons, List.take_zero, List.drop_succ_cons, List.drop_zero]
          repeat still_step
          refine wpStill_nil ?_
          go_wp2
          go_meet
          exact ⟨_, HDD.out, HK47.out.trans HKD.out (fun y _ h => by simp only [In, List.mem_cons, List.not_mem_nil, or_false] at h ⊢; exact .inr h), Nat.lt_of_lt_of_le hg7 HKD.out.size⟩
        · have e8 : ((n7 : Int) == 0) = false := by simp [hz]
          go_wp2
          go_meet
          refine ⟨_, (HNE7.out hz).keep (S := No) ((Keeps.refl _ _).drewN nq) (fun h => h) (fun y hy g0 hg0 => ⟨fun h => h, ((HNE7.out hz).og y hy g0 hg0).2⟩) (fun _ h => h), HK47.out.drewN nq, hg7⟩
      case rest =>
        obtain ⟨gs', G8, k8, hgpl⟩ := hcut
        clear c7i c7k c7h hlk7
        have BI8 := HIK.out.B.keep k8 (by simp [In]; exact ⟨hgib, hmib⟩)
        have c8 : wc.cell? ⟨ib, 2, none⟩ = some (.int .i64 j) := BI8.cell 2
        have f8 := BI8.frozen
        have h21 : IntKind.i64.wrap ((j : Int) - 1) = (j : Int) - 1 := by rw [IntKind.wrap_i64]; omega
        have HG8 := Lib.hid G8
        have HK8 := Lib.hid k8
        clear G8 k8 BI8
        go_wp2
        go_end0
        obtain ⟨hM12, hk12, ho12⟩ := HR12.out
        have k14 : Keeps (In [ib]) wc (wc.setCell ⟨ib, 2, none⟩ (.int .i64 ((j : Int) - 1))) := (Keeps.refl _ _).setCell (.inl (by simp [In])) _
        generalize wc.setCell ⟨ib, 2, none⟩ (.int .i64 ((j : Int) - 1)) = w14 at *
        have hsz := hk12.size
        have hsz8 := HK8.out.size
        have hgg : g ≠ g' := (HG13.out.og x (by simp) g (by rw [HXV.out]; rfl)).2
        have ho13 : ∀ y ∈ g'' :: g' :: own, y ∈ g' :: own ∨ w12.heap.size ≤ y := fun y hy => by
          rcases List.mem_cons.1 hy with rfl | hy
          · rcases HG5.out with h | h
            · exact .inl (h ▸ List.mem_cons_of_mem _ hgo)
            · exact .inr h
          · exact .inl hy
        have hin : ∀ y ∈ g'' :: g' :: own, y ∈ own ∨ w.heap.size ≤ y := fun y hy => by
          rcases ho13 y hy with h | h
          · exact ho12 y h
          · exact .inr (by omega)
        have hS8 : ∀ y, y < w12.heap.size → In [g, mb] y → y ∈ g' :: own := fun y _ h => by
          simp only [In, List.mem_cons, List.not_mem_nil, or_false] at h
          rcases h with rfl | rfl
          · exact List.mem_cons_of_mem _ hgo
          · exact List.mem_cons_of_mem _ hmo
        have kall : Keeps (In (ib :: own)) w w14 := by
          refine (((hk12.mono (fun y _ h => List.mem_cons_of_mem _ h)).trans HK8.out (fun y hy h => ?_))).trans k14 (fun y hy h => ?_)
          · simp only [In, List.mem_cons, List.not_mem_nil, or_false] at h
            rcases h with rfl | rfl
            · exact List.mem_cons_of_mem _ hgo
            · exact List.mem_cons_of_mem _ hmo
          · simp only [In, List.mem_cons, List.not_mem_nil, or_false] at h
            exact h ▸ List.mem_cons_self ..
        have M8 : MuL wc (g'' :: g' :: own) hb g' cap' (some mb) (l.filter (fun h => decide (h.blk ≠ f.blk))) (l.filter (fun h => decide (h.blk ≠ f.blk))) :=
          ⟨hM12.H.keep HK8.out (by simp [In]; exact ⟨hghb, hmhb.symm⟩), hM12.L.keep HK8.out (by
            simp [In]
            obtain ⟨_, _, _, cur, hB, _⟩ := hM12.L
            exact ⟨hgg.symm, (HG13.out.E.ne hB).symm⟩), .inr ⟨mb, gs', rfl, HG8.out⟩, fun z hz => (hM12.F z hz).step HK8.out hS8 ho13, List.mem_cons_of_mem _ hM12.oh, List.mem_cons_of_mem _ hM12.ol, fun y hy => by
            rcases List.mem_cons.1 hy with rfl | hy
            · exact hgpl
            · exact Nat.lt_of_lt_of_le (hM12.lt y hy) hsz8⟩
        refine ⟨rfl, g'' :: g' :: own, ⟨g', cap', some mb, ?_⟩, kall, hin⟩
        refine (M8.touch k14 (fun y hy hc => ?_) (fun z hz => ?_)).toMu (List.Pairwise.sublist (List.filter_sublist.map _) HN.out)
        · simp only [In, List.mem_cons, List.not_mem_nil, or_false] at hc
          subst hc
          rcases hin y hy with h | h
          · exact hio h
          · omega
        · exact (HFI.out z (List.mem_filter.1 hz).1).step kall (fun _ _ h => h) (fun y hy => (hin y hy).imp (fun h => List.mem_cons_of_mem _ h) id)
    · rw [decide_eq_false hpf] at heq
      have HPF := Lib.hid hpf
      clear hpf
      go_wp2
      go_roundg (gk - 1)
      case measure => have := HIN.out; omega
      case rel =>
        refine ⟨i + 1, by simp, by have := HIN.out; omega, fun p hp => ?_, rfl⟩
        rw [HTK.out] at hp
        rcases List.mem_append.1 hp with hp | hp
        · exact HPRE.out p hp
        · simp only [List.mem_cons, List.not_mem_nil, or_false] at hp
          rw [hp]
          exact fun h => HPF.out h.symm
end Go.Proofs.YtjbbapodcngnaaaGreatDoor
namespace Go.Proofs.YtjbbapodcngnaaaGreatDoor
open Go.RowKit Hdr

/-- What FieldsByKey leaves. -/
def FbkP (hb : Nat) (ck : List UInt8) (w : World) (e : Ending) (w' : World) : Prop :=
  ∃ ib : Nat, e = .returned (.iface 190 (.pointer (some ⟨ib, 0, none⟩))) ∧ w.heap.size ≤ ib ∧ Blk w' ib [.pointer (some ⟨hb, 0, none⟩), str ck, .int .i64 (-1)] 192 ∧ Keeps No w w'

set_option maxRecDepth 100000 in
theorem byKey_any (hb : Nat) (key : List UInt8) (w : World) (hlen : key.length ≤ 1000000000) :
    Calls Tryz.prog 78 #[.pointer (some ⟨hb, 0, none⟩), str key] w (FbkP hb (canon key) w) := by
  go_enter Tryz.func78, Tryz.ntmps78
  go_wp2_with (fail)
  refine (canonicalKey_any key _ hlen).mono ?_
  rintro e w1 ⟨rfl, K⟩
  go_wp2
  go_ret
  exact ⟨w1.heap.size, rfl, K.size, Blk.new w1 _ _, K.alloc _⟩

theorem method_del (b : Nat) (w : World) : (method 477 155 (.pointer (some ⟨b, 0, none⟩)) "Del").run Tryz.prog w = .ok (248, .pointer (some ⟨b, 0, none⟩)) w := by kernel_rfl
theorem method_nextK (b : Nat) (w : World) : (method 477 190 (.pointer (some ⟨b, 0, none⟩)) "Next").run Tryz.prog w = .ok (264, .pointer (some ⟨b, 0, none⟩)) w := by kernel_rfl
theorem method_delK (b : Nat) (w : World) : (method 477 190 (.pointer (some ⟨b, 0, none⟩)) "Del").run Tryz.prog w = .ok (261, .pointer (some ⟨b, 0, none⟩)) w := by kernel_rfl
end Go.Proofs.YtjbbapodcngnaaaGreatDoor
namespace Go.Proofs.YtjbbapodcngnaaaGreatDoor
open Go.RowKit Hdr

set_option maxRecDepth 100000 in
set_option maxHeartbeats 2000000 in
theorem deletedAt_any (ib hb N : Nat) (fs : List Fd) (own : List Nat) (w : World) (h : HMut w own hb fs) (hI : Blk w ib [.pointer (some ⟨hb, 0, none⟩), .int .i64 (-1)] 157) (hio : ib ∉ own) (hFI : ∀ f ∈ fs, FdP w (ib :: own) f) (hN : N < fs.length) (hn : fs.length ≤ 1000000) :
    Calls Tryz.prog 77 #[.iface 155 (.pointer (some ⟨ib, 0, none⟩)), .int .i64 N] w fun e w' => e = .returned (.bool true) ∧
      ∃ own', HMut w' own' hb (fs.eraseIdx N) ∧ Keeps (In (ib :: own)) w w' ∧ ∀ x ∈ own', x ∈ own ∨ w.heap.size ≤ x := by
  obtain ⟨lb, cap, m, M⟩ := h
  have HM := Lib.hid M
  have HFI := Lib.hid hFI
  have HI := Lib.hid hI
  have hibh : hb ≠ ib := fun e => hio (e ▸ M.oh)
  have hm1 := method_next ib
  have hm2 := method_del ib
  clear M hFI hI
  go_enter Tryz.func77, Tryz.ntmps77
  go_wp2
  go_loopg [5] (N + 1) (fun n s5 wr => ∃ i : Nat, s5 = .int .i64 i ∧ i + n = N + 1 ∧ i ≤ N ∧ Blk wr ib [.pointer (some ⟨hb, 0, none⟩), .int .i64 ((i : Int) - 1)] 157 ∧ Keeps (In [ib]) w wr)
  case atStart => exact ⟨0, rfl, by omega, Nat.zero_le _, HI.out, Keeps.refl _ _⟩
  case round =>
    obtain ⟨i, rfl, hin, hiN, hB, K⟩ := hrel
    have HIN := Lib.hid hin
    have hIt : It wr ib hb lb fs.length cap m ((i : Int) - 1) := ⟨hB, HM.out.H.keep K (by simp [In]; exact hibh)⟩
    have HIT := Lib.hid hIt
    have HK := Lib.hid K
    clear hin hB hIt K
    go_wp2_with (fail)
    refine (next_any ib hb lb fs.length cap m ((i : Int) - 1) wr HIT.out (by omega) (by omega) hn).mono ?_
    rintro e w1 ⟨rfl, hIt1, k1⟩
    have e1 : decide ((i : Int) - 1 + 1 < (fs.length : Int)) = true := decide_eq_true (by omega)
    rw [e1]
    rw [show (i : Int) - 1 + 1 = (i : Int) by omega] at hIt1
    have HIT1 := Lib.hid hIt1
    have HK1 := Lib.hid (HK.out.trans' k1)
    clear e1 hIt1 k1
    by_cases hiN2 : i = N
    · subst hiN2
      have M1 : HMut w1 own hb fs := ⟨lb, cap, m, HM.out.keep (T := ib :: own) HK1.out (fun y hy hc => by simp [In] at hc; exact hio (hc ▸ hy)) HFI.out (fun y _ hc => by simp [In] at hc; exact hc ▸ List.mem_cons_self ..)⟩
      have F1 : ∀ f ∈ fs, FdP w1 (ib :: own) f := fun f hf => (HFI.out f hf).step HK1.out (fun y _ hc => by simp [In] at hc; exact hc ▸ List.mem_cons_self ..) (fun y hy => .inl hy)
      have HM1 := Lib.hid M1
      have HF1 := Lib.hid F1
      clear M1 F1
      go_wp2_with (fail)
      refine (itDel_any ib hb i fs own w1 HM1.out HIT1.out.B hio HF1.out hN hn).mono ?_
      rintro e w2 ⟨rfl, own', hM2, k2, ho2⟩
      have HM2 := Lib.hid hM2
      have HO2 := Lib.hid ho2
      have HK2 := Lib.hid k2
      clear hM2 ho2 k2
      go_wp2
      go_ret
      have hsz := HK1.out.size
      exact ⟨rfl, own', HM2.out, (HK1.out.mono (fun y _ hc => by simp only [In, List.mem_cons, List.not_mem_nil, or_false] at hc ⊢; exact .inl hc)).trans' HK2.out, fun y hy => (HO2.out y hy).imp id (fun h => by omega)⟩
    · have e2 : ((i : Int) == (N : Int)) = false := by simp only [beq_eq_false_iff_ne, ne_eq]; omega
      have e3 : IntKind.i64.wrap ((i : Int) + 1) = (i : Int) + 1 := by rw [IntKind.wrap_i64]; omega
      have HI2 := Lib.hid hiN2
      clear hiN2
      go_wp2
      go_roundg (gk - 1)
      case measure => have := HIN.out; omega
      case rel =>
        have hI2 := HI2.out
        refine ⟨i + 1, by simp, by have := HIN.out; omega, by omega, ?_, HK1.out⟩
        have := HIT1.out.B
        rwa [show (((i + 1 : Nat) : Int) - 1) = (i : Int) by omega]
end Go.Proofs.YtjbbapodcngnaaaGreatDoor
namespace Go.Proofs.YtjbbapodcngnaaaGreatDoor
open Go.RowKit Hdr

set_option maxRecDepth 100000 in
set_option maxHeartbeats 2000000 in
theorem deletedKey_any (ib hb N : Nat) (ck : List UInt8) (fs : List Fd) (own : List Nat) (w : World) (f : Fd) (h : HMut w own hb fs) (hI : Blk w ib [.pointer (some ⟨hb, 0, none⟩), str ck, .int .i64 (-1)] 192) (hio : ib ∉ own) (hFI : ∀ f ∈ fs, FdP w (ib :: own) f) (hf0 : (fs.filter (fun h => decide (h.k = ck)))[N]? = some f) (hn : fs.length ≤ 1000000) :
    Calls Tryz.prog 77 #[.iface 190 (.pointer (some ⟨ib, 0, none⟩)), .int .i64 N] w fun e w' => e = .returned (.bool true) ∧
      ∃ own', HMut w' own' hb (fs.filter (fun h => decide (h.blk ≠ f.blk))) ∧ Keeps (In (ib :: own)) w w' ∧ ∀ x ∈ own', x ∈ own ∨ w.heap.size ≤ x := by
  obtain ⟨lb, cap, m, M⟩ := h
  have hNl := (List.getElem?_eq_some_iff.1 hf0).1
  have hfk : f.k = ck := by simpa using (List.mem_filter.1 (List.mem_of_getElem? hf0)).2
  have hffs : f ∈ fs := (List.mem_filter.1 (List.mem_of_getElem? hf0)).1
  rcases M.M with ⟨rfl, rfl⟩ | ⟨mb, gs, rfl, G⟩
  · cases hffs
  obtain ⟨a, x, b, g, gcap, rfl, hxk, ha, hb', hxv, hpo, hps, hgo, hgl, hgm, hlk⟩ := G.grp (List.mem_reverse.2 hffs)
  rw [hfk] at hlk hps
  have hxl : x.ps.length = (fs.filter (fun h => decide (h.k = ck))).length := by rw [hps, List.length_map, List.filter_reverse, List.length_reverse]
  have hxn : x.ps.length ≤ fs.length := by rw [hxl]; exact List.length_filter_le _ _
  rw [← hxl] at hNl
  have HM := Lib.hid M
  have HFI := Lib.hid hFI
  have HI := Lib.hid hI
  have HF0 := Lib.hid hf0
  have HLK := Lib.hid hlk
  have HE := Lib.hid G.E
  have hibh : hb ≠ ib := fun e => hio (e ▸ M.oh)
  have hibm : mb ≠ ib := fun e => hio (e ▸ G.om)
  have hm1 := method_nextK ib
  have hm2 := method_delK ib
  clear M hFI hI hf0 hlk G hpo hps hxv hxk ha hb' hxl
  go_enter Tryz.func77, Tryz.ntmps77
  go_wp2
  go_loopg [5] (N + 1) (fun n s5 wr => ∃ i : Nat, s5 = .int .i64 i ∧ i + n = N + 1 ∧ i ≤ N ∧ Blk wr ib [.pointer (some ⟨hb, 0, none⟩), str ck, .int .i64 ((i : Int) - 1)] 192 ∧ Keeps (In [ib]) w wr)
  case atStart => exact ⟨0, rfl, by omega, Nat.zero_le _, HI.out, Keeps.refl _ _⟩
  case round =>
    obtain ⟨i, rfl, hin, hiN, hB, K⟩ := hrel
    have HIN := Lib.hid hin
    have hIt : ItK wr ib hb lb fs.length cap mb (a ++ x :: b) ck g x.ps.length gcap ((i : Int) - 1) := ⟨hB, HM.out.H.keep K (by simp [In]; exact hibh), HE.out.keep K (by simp [In]; exact hibm), HLK.out⟩
    have HIT := Lib.hid hIt
    have HK := Lib.hid K
    clear hin hB hIt K
    go_wp2_with (fail)
    refine (nextK_any wr HIT.out (by omega) (by omega) (by omega)).mono ?_
    rintro e w1 ⟨rfl, hIt1, k1⟩
    have e1 : decide ((i : Int) - 1 + 1 < (x.ps.length : Int)) = true := decide_eq_true (by omega)
    rw [e1]
    rw [show (i : Int) - 1 + 1 = (i : Int) by omega] at hIt1
    have HIT1 := Lib.hid hIt1
    have HK1 := Lib.hid (HK.out.trans' k1)
    clear e1 hIt1 k1
    by_cases hiN2 : i = N
    · subst hiN2
      have M1 : HMut w1 own hb fs := ⟨lb, cap, _, HM.out.keep (T := ib :: own) HK1.out (fun y hy hc => by simp [In] at hc; exact hio (hc ▸ hy)) HFI.out (fun y _ hc => by simp [In] at hc; exact hc ▸ List.mem_cons_self ..)⟩
      have F1 : ∀ f ∈ fs, FdP w1 (ib :: own) f := fun f hf => (HFI.out f hf).step HK1.out (fun y _ hc => by simp [In] at hc; exact hc ▸ List.mem_cons_self ..) (fun y hy => .inl hy)
      have HM1 := Lib.hid M1
      have HF1 := Lib.hid F1
      clear M1 F1
      go_wp2_with (fail)
      refine (itDelK_any ib hb i ck fs own w1 f HM1.out HIT1.out.B hio HF1.out HF0.out hn).mono ?_
      rintro e w2 ⟨rfl, own', hM2, k2, ho2⟩
      have HM2 := Lib.hid hM2
      have HO2 := Lib.hid ho2
      have HK2 := Lib.hid k2
      clear hM2 ho2 k2
      go_wp2
      go_ret
      have hsz := HK1.out.size
      exact ⟨rfl, own', HM2.out, (HK1.out.mono (fun y _ hc => by simp only [In, List.mem_cons, List.not_mem_nil, or_false] at hc ⊢; exact .inl hc)).trans' HK2.out, fun y hy => (HO2.out y hy).imp id (fun h => by omega)⟩
    · have e2 : ((i : Int) == (N : Int)) = false := by simp only [beq_eq_false_iff_ne, ne_eq]; omega
      have e3 : IntKind.i64.wrap ((i : Int) + 1) = (i : Int) + 1 := by rw [IntKind.wrap_i64]; omega
      have HI2 := Lib.hid hiN2
      clear hiN2
      go_wp2
      go_roundg (gk - 1)
      case measure => have := HIN.out; omega
      case rel =>
        have hI2 := HI2.out
        refine ⟨i + 1, by simp, by have := HIN.out; omega, by omega, ?_, HK1.out⟩
        have := HIT1.out.B
        rwa [show (((i + 1 : Nat) : Int) - 1) = (i : Int) by omega]
end Go.Proofs.YtjbbapodcngnaaaGreatDoor
