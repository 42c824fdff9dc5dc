/- impl.fieldsOf. -/
import Derived.Test.YtjbbapodcngnaaaDoorImC
namespace Go.Proofs.YtjbbapodcngnaaaDoor
open Go.RowKit Hdr

/-- Fields as cells. -/
def hfs (l : List PF) : List Value := l.flatMap fun p => [str p.k, str p.v, str p.raw]
theorem hfs_length (l : List PF) : (hfs l).length = l.length * 3 := by
  induction l with
  | nil => rfl
  | cons p l ih => simp [hfs] at *; omega
theorem hfs_append (l m : List PF) : hfs (l ++ m) = hfs l ++ hfs m := by simp [hfs]

theorem info_hfield : (Tryd.prog.info? 28).map (fun i => (i.zero, i.size, i.bytes)) = some (some (.agg #[.string ⟨#[]⟩, .string ⟨#[]⟩, .string ⟨#[]⟩]), 3, 48) := by kernel_rfl

theorem Tells.length : ∀ {fs : List Fd} {ps : List PF}, Tells fs ps → fs.length = ps.length
  | [], [], _ => rfl
  | _ :: _, _ :: _, h => by simp [Tells.length h.2]
  | [], _ :: _, h => h.elim
  | _ :: _, [], h => h.elim
theorem Tells.get : ∀ {fs : List Fd} {ps : List PF}, Tells fs ps → ∀ {j : Nat} (h1 : j < fs.length) (h2 : j < ps.length), fs[j].tells ps[j]
  | _ :: _, _ :: _, h, 0, _, _ => h.1
  | _ :: _, _ :: _, h, j + 1, h1, h2 => Tells.get h.2 (by simpa using h1) (by simpa using h2)
  | [], _, _, _, h1, _ => by simp at h1
  | _ :: _, [], h, _, _, _ => h.elim

/-- What fieldsOf leaves. -/
def FofPost (ps : List PF) (w : World) (e : Ending) (w' : World) : Prop :=
  ∃ v, e = .returned v ∧ w'.ownsRow w.heap.size 28 3 v ps.length (hfs ps) ∧ Keeps No w w'

set_option maxRecDepth 100000 in
set_option maxHeartbeats 2000000 in
theorem fieldsOf_any (lo : Nat) (hv : Value) (fs : List Fd) (ps : List PF) (w : World) (h : HdrAt w lo hv fs) (ht : Tells fs ps) (hn : fs.length ≤ 100000) :
    Calls Tryd.prog 20 #[hv] w (FofPost ps w) := by
  obtain ⟨lb, cap, m, rfl, hlo, hcap, hpo, hm, hf⟩ := h
  have hlbw := hpo.ptrs.lt
  have hlen := ht.length
  have HT := Lib.hid ht
  have HP := Lib.hid hpo.ptrs
  have HF := Lib.hid hf
  have HL := Lib.hid hlen
  clear hpo hm hf ht hlen
  generalize hfl : fs.length = n at *
  have HFL := Lib.hid hfl
  clear hfl
  go_enter Tryd.func20, Tryd.ntmps20
  go_wp2_with (fail)
  refine (fields_any w.heap.size _).mono ?_
  rintro e w1 ⟨rfl, rfl⟩
  have hsz : (w.alloc (.cells #[.slice (some ⟨lb, 0, none⟩) n cap, .map m] 45)).heap.size = w.heap.size + 1 := by simp
  have hIt0 : It ((w.alloc (.cells #[.slice (some ⟨lb, 0, none⟩) n cap, .map m] 45)).alloc (.cells #[.pointer (some ⟨w.heap.size, 0, none⟩), .int .i64 (-1)] 91)) (w.heap.size + 1) w.heap.size lb n cap m (-1) := by
    refine ⟨?_, (Blk.new w _ _).alloc _⟩
    have := Blk.new (w.alloc (.cells #[.slice (some ⟨lb, 0, none⟩) n cap, .map m] 45)) [.pointer (some ⟨w.heap.size, 0, none⟩), .int .i64 (-1)] 91
    rwa [hsz] at this
  have K0 : Keeps No w ((w.alloc (.cells #[.slice (some ⟨lb, 0, none⟩) n cap, .map m] 45)).alloc (.cells #[.pointer (some ⟨w.heap.size, 0, none⟩), .int .i64 (-1)] 91)) := ((Keeps.refl No w).alloc _).alloc _
  have HI0 := Lib.hid hIt0
  have mN := method_next (w.heap.size + 1)
  have mR := method_raw (w.heap.size + 1)
  have mK := method_key (w.heap.size + 1)
  have mV := method_value (w.heap.size + 1)
  clear hsz hIt0
  go_wp2
  go_loopg [3] n (fun q s3 wr => ∃ j : Nat, j + q = n ∧ wr.ownsRow (w.heap.size + 2) 28 3 s3 j (hfs (ps.take j)) ∧ It wr (w.heap.size + 1) w.heap.size lb n cap m ((j : Int) - 1) ∧ Keeps (Up w.heap.size []) w wr ∧ w.heap.size + 2 ≤ wr.heap.size)
  case atStart => exact ⟨0, by omega, World.ownsRow_nil _ _ _ _, HI0.out, K0.of_no, by simp⟩
  case round =>
    obtain ⟨j, hjn, hrow, hIt, K, hsz⟩ := hrel
    have HJN := Lib.hid hjn
    have HROW := Lib.hid hrow
    have HIT := Lib.hid hIt
    have hj0 : j ≤ n := by omega
    clear hjn hrow hIt
    go_wp2_with (fail)
    refine (next_any (w.heap.size + 1) w.heap.size lb n cap m ((j : Int) - 1) wr HIT.out (by omega) (by omega) (by omega)).mono ?_
    rintro e w2 ⟨rfl, hIt2, K2⟩
    have ej : (j : Int) - 1 + 1 = (j : Int) := by omega
    rw [ej] at hIt2 ⊢
    have hrow2 : w2.ownsRow (w.heap.size + 2) 28 3 _ j (hfs (ps.take j)) := HROW.out.kept (row := some (w.heap.size + 1)) ⟨K2.os, K2.tape, K2.output, K2.size, fun k hk hne => K2.block k hk (fun h => hne (by simp [In] at h; rw [h]))⟩ (by
      rcases h0 : Value.ownBlock _ with _ | b
      · exact .inl rfl
      · refine .inr (fun h => ?_)
        have := (HROW.out.lt _ h0).1
        simp at h
        omega)
    have K02 : Keeps (Up w.heap.size []) w w2 := K.trans' (K2.mono (fun k _ h => .inr (by simp [In] at h; omega)))
    have hsz2 : w.heap.size + 2 ≤ w2.heap.size := by have := K2.size; omega
    have HI2 := Lib.hid hIt2
    have HR2 := Lib.hid hrow2
    clear hIt2 hrow2 HIT HROW
    by_cases hj : j < n
    · have e1 : decide ((j : Int) < (n : Int)) = true := decide_eq_true (by omega)
      rw [e1]
      clear e1
      have hjf : j < fs.length := by have := HFL.out; omega
      have hjp : j < ps.length := by have := HL.out; omega
      have hfd := (HF.out fs[j] (List.getElem_mem _)).keep K02 (fun x h => by rcases h with h | h; cases h; exact .inr h)
      obtain ⟨t1, t2, t3⟩ := HT.out.get hjf hjp
      have hcell : w2.cell? ⟨lb, n - 1 - j, none⟩ = some (.pointer (some ⟨fs[j].blk, 0, none⟩)) := by
        refine (HP.out.keep K02 (fun h => by rcases h with h | h; cases h; omega)).cell_of ?_
        have := HFL.out
        rw [List.getElem?_map, List.getElem?_reverse (by omega)]
        rw [show fs.length - 1 - (n - 1 - j) = j by omega, List.getElem?_eq_getElem hjf]
        rfl
      have hB := hfd.B
      have hRaw := hfd.R
      rw [t3] at hRaw
      obtain ⟨rb, ro, rcap, hrv, hrc, hr1, hr2, hby, hty⟩ := hRaw
      rw [t1, t2, hrv] at hB
      have hAt : At w2 (w.heap.size + 1) w.heap.size lb n cap m j fs[j].blk (.slice (some ⟨rb, ro, none⟩) ps[j].raw.length rcap) ps[j].k ps[j].v := ⟨HI2.out, hcell, hB⟩
      have htk : ps.take (j + 1) = ps.take j ++ [ps[j]] := List.take_succ_eq_append_getElem hjp
      generalize hpj : ps[j] = p at *
      generalize fs[j].blk = fb at *
      have HAT := Lib.hid hAt
      have HBY := Lib.hid hby
      have HTK := Lib.hid htk
      clear hfd t1 t2 t3 hcell hB hrv hAt hpj hby htk
      go_wp2_with (fail)
      refine (raw_some (w.heap.size + 1) w.heap.size lb n cap m j fb ⟨rb, ro, none⟩ p.raw.length rcap p.k p.v w2 HAT.out hj (by omega)).mono ?_
      rintro e w3 ⟨rfl, q3, rfl⟩
      go_wp2
      refine region_segs [([0, 1, 3, 5, 6], 2), ([], 4), ([7], 8), ([], 9)] [] 10 (fun W => BytesAt W rb ro p.raw) (by kernel_rfl) (by kernel_rfl) ?_ ?_
      · exact HBY.out
      simp only [segPick, List.map_cons, List.map_nil, pick, List.filterMap_cons, List.filterMap_nil, List.getElem?_cons_succ, List.getElem?_cons_zero, List.drop_succ_cons, List.drop_zero]
      rw [wpSegs]
      intro ι F hne hF
      have c1 := fun i => run_string_of (F i) rb ro rcap p.raw p.raw.length rfl (hF i)
      clear hF
      repeat (quiet_step (fail))
      refine wpQuiet_nil ?_
      clear c1 hne F ι
      go_wp2_with (fail)
      have hw3 : (w2.drewN q3).drew = w2.drewN (q3 + 1) := rfl
      refine (key_any (w.heap.size + 1) w.heap.size lb n cap m j fb (.slice (some ⟨rb, ro, none⟩) p.raw.length rcap) p.k p.v (w2.drewN (q3 + 1)) (HAT.out.drewN _) hj (by omega)).mono ?_
      rintro e w4 ⟨rfl, q4, rfl⟩
      rw [World.drewN_drewN]
      go_wp2
      refine EffPost.intro (HBY.out.keep ((Keeps.refl No w2).drewN _) (fun h => h)) ?_
      rw [wpSegs]
      intro ι F hne hF
      clear hF
      repeat (quiet_step (fail))
      refine wpQuiet_nil ?_
      clear hne F ι
      go_wp2_with (fail)
      refine (value_any (w.heap.size + 1) w.heap.size lb n cap m j fb (.slice (some ⟨rb, ro, none⟩) p.raw.length rcap) p.k p.v (w2.drewN (q3 + 1 + q4)) (HAT.out.drewN _) hj (by omega)).mono ?_
      rintro e w5 ⟨rfl, q5, rfl⟩
      rw [World.drewN_drewN]
      go_wp2
      refine EffPost.intro (HBY.out.keep ((Keeps.refl No w2).drewN _) (fun h => h)) ?_
      rw [wpSegs]
      intro ι F hne hF
      clear hF
      repeat (quiet_step (fail))
      refine wpQuiet_nil ?_
      clear hne F ι
      generalize hw5 : w2.drewN (q3 + 1 + q4 + q5) = w5
      have k5 : Keeps No w2 w5 := by rw [← hw5]; exact (Keeps.refl No w2).drewN _
      clear hw5
      have hby5 := Lib.hid (HBY.out.keep k5 (fun h => h))
      have hrow5 := HR2.out.kept (row := none) ⟨k5.os, k5.tape, k5.output, k5.size, fun k hk _ => k5.block k hk (fun h => h)⟩ (by
        cases Value.ownBlock _ with
        | none => exact .inl rfl
        | some b => exact .inr (fun h => by cases h))
      have hHI5 := Lib.hid (HI2.out.keep k5 (fun h => h) (fun h => h))
      have HROW5 := Lib.hid hrow5
      clear hrow5 HR2 HI2
      go_wp2
      have kA := ((Keeps.refl No w5).alloc (.cells #[str p.k, str p.v, str p.raw] 28))
      refine EffPost.intro (hby5.out.keep kA (fun h => h)) ?_
      rw [wpSegs]
      intro ι F hne hF
      clear hF
      repeat (quiet_step (fail))
      refine wpQuiet_nil ?_
      clear hne F ι
      obtain ⟨i0, hi, hz0, hz1, hz2⟩ := info_parts info_hfield
      have hc1 : ∀ i u, (hfs [p])[i]? = some u → (w5.alloc (.cells #[str p.k, str p.v, str p.raw] 28)).cell? ((⟨w5.heap.size, 0, none⟩ : Addr).add i) = some u := fun i u hi => by
        have hb := Blk.new w5 [str p.k, str p.v, str p.raw] 28
        have hadd : (⟨w5.heap.size, 0, none⟩ : Addr).add i = ⟨w5.heap.size, i, none⟩ := by unfold Addr.add; split <;> simp_all
        rw [hadd]
        exact (hb.cell i).trans hi
      have hc2 : ∀ u ∈ hfs [p], u.oneCell' = true := fun u hu => by
        simp [hfs] at hu
        rcases hu with rfl | rfl | rfl <;> rfl
      have hb5 : w.heap.size + 2 ≤ w5.heap.size := by have := k5.size; omega
      have HC1 := Lib.hid hc1
      clear hc1
      change wpList _ _ _ (_ :: []) _ _
      go_wp2_with (at_builtin; refine wpList_append_own _ rfl (.tmp 15) (.tmp 23) 23 rfl (w.heap.size + 2) 28 i0 (.agg #[.string ⟨#[]⟩, .string ⟨#[]⟩, .string ⟨#[]⟩]) 3 48 Tryd.underlying23 hi hz0 hz1 hz2 rfl (by decide) _ j (hfs (ps.take j)) rfl (HROW5.out.alloc _) ⟨w5.heap.size, 0, none⟩ 1 1 (hfs [p]) rfl (by rw [hfs_length]; rfl) HC1.out hc2 (by unfold maxLen; omega) (by omega) (by simp; omega) ?_; intro v' W hrow' hgr _)
      have kW : Keeps (Up w.heap.size []) w2 W := ((k5.of_no (T := Up w.heap.size [])).trans' (kA.of_no)).grown hgr (fun k hk => .inl (.inr (by have := (HROW5.out.lt k hk).1; omega)))
      have hag : ∀ k, k < w.heap.size + 2 → W.heap[k]? = w5.heap[k]? := fun k hk => by
        rw [hgr.block k (by simp; omega) (fun h => by have := (HROW5.out.lt k h.symm).1; omega)]
        exact kA.block k (by omega) (fun h => h)
      have hbyW : BytesAt W rb ro p.raw := by
        obtain ⟨cs, t, f, h1, h2⟩ := hby5.out
        exact ⟨cs, t, f, (hag rb (by omega)).trans h1, h2⟩
      have hItW : It W (w.heap.size + 1) w.heap.size lb n cap m j := ⟨(hag _ (by omega)).trans hHI5.out.B, (hag _ (by omega)).trans hHI5.out.H⟩
      rw [← hfs_append, ← HTK.out] at hrow'
      have HRW := Lib.hid hrow'
      have HITW := Lib.hid hItW
      clear hrow' hItW hag
      go_wp2
      refine EffPost.intro hbyW ?_
      rw [wpSegs]
      intro ι F hne hF
      clear hF
      repeat (quiet_step (fail))
      refine wpQuiet_nil ?_
      clear hne F ι
      change wpList _ _ _ (_ :: []) _ _
      go_wp2
      go_roundg (gk - 1)
      case measure => have := HJN.out; omega
      case rel =>
        have hw := kW.size
        refine ⟨j + 1, by have := HJN.out; omega, HRW.out, ?_, K02.trans' kW, by omega⟩
        have : (((j + 1 : Nat) : Int) - 1) = (j : Int) := by omega
        rw [this]
        exact HITW.out
    · have e1 : decide ((j : Int) < (n : Int)) = false := decide_eq_false (by omega)
      rw [e1]
      clear e1
      have hjn : j = n := by omega
      go_wp2
      go_ret
      refine ⟨_, rfl, ?_, K02.down (Nat.le_refl _) |>.mono (fun _ _ h => by cases h)⟩
      have h2 := HR2.out
      rw [hjn, HL.out, List.take_length] at h2
      obtain ⟨h3, h4⟩ := h2
      refine ⟨h3, ?_⟩
      rcases h4 with h4 | ⟨g, c, cur, h5, h6, h7⟩
      · exact .inl h4
      · exact .inr ⟨g, c, cur, h5, by omega, h7⟩
end Go.Proofs.YtjbbapodcngnaaaDoor
