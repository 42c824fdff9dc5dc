/- impl.fieldsOf. impl.HeaderOf. spec: isBlank9, hasByte9, trim9. spec: trim9. spec: Canonical9. spec: key9. spec: fieldOf9. spec: the closure of header9. -/
import Derived.Test.YtjbbapodcngnaaaGreatDoorZqab
import Derived.Test.YtjbbapodcngnaaaGreatDoorZqaa
import Derived.Maps.AppendAt
namespace Go.Proofs.YtjbbapodcngnaaaGreatDoor
open Go.RowKit Hdr

/-- Fields as cells. -/
def hfs (l : List PF) : List Value := l.flatMap fun p => [str p.k, str p.v, str p.raw]
theorem hfs_length (l : List PF) : (hfs l).length = l.length * 3 := by
  induction l with
  | nil => rfl
  | cons p l ih => simp [hfs] at *; omega
theorem hfs_append (l m : List PF) : hfs (l ++ m) = hfs l ++ hfs m := by simp [hfs]

theorem info_hfield : (Tryz.prog.info? 38).map (fun i => (i.zero, i.size, i.bytes)) = some (some (.agg #[.string ⟨#[]⟩, .string ⟨#[]⟩, .string ⟨#[]⟩]), 3, 48) := by kernel_rfl

theorem Tells.length : ∀ {fs : List Fd} {ps : List PF}, Tells fs ps → fs.length = ps.length
  | [], [], _ => rfl
  | _ :: _, _ :: _, h => by simp [Tells.length h.2]
  | [], _ :: _, h => h.elim
  | _ :: _, [], h => h.elim
theorem Tells.get : ∀ {fs : List Fd} {ps : List PF}, Tells fs ps → ∀ {j : Nat} (h1 : j < fs.length) (h2 : j < ps.length), fs[j].tells ps[j]
  | _ :: _, _ :: _, h, 0, _, _ => h.1
  | _ :: _, _ :: _, h, j + 1, h1, h2 => Tells.get h.2 (by simpa using h1) (by simpa using h2)
  | [], _, _, _, h1, _ => by simp at h1
  | _ :: _, [], h, _, _, _ => h.elim

/-- What fieldsOf leaves. -/
def FofPost (ps : List PF) (w : World) (e : Ending) (w' : World) : Prop :=
  ∃ v, e = .returned v ∧ w'.ownsRow w.heap.size 38 3 v ps.length (hfs ps) ∧ Keeps No w w'

set_option maxRecDepth 100000 in
set_option maxHeartbeats 2000000 in
theorem fieldsOf_any (lo : Nat) (hv : Value) (fs : List Fd) (ps : List PF) (w : World) (h : HdrAt w lo hv fs) (ht : Tells fs ps) (hn : fs.length ≤ 100000) :
    Calls Tryz.prog 34 #[hv] w (FofPost ps w) := by
  obtain ⟨lb, cap, m, rfl, hlo, hcap, hpo, hm, hf⟩ := h
  have hlbw := hpo.ptrs.lt
  have hlen := ht.length
  have HT := Lib.hid ht
  have HP := Lib.hid hpo.ptrs
  have HF := Lib.hid hf
  have HL := Lib.hid hlen
  clear hpo hm hf ht hlen
  generalize hfl : fs.length = n at *
  have HFL := Lib.hid hfl
  clear hfl
  go_enter Tryz.func34, Tryz.ntmps34
  go_wp2_with (fail)
  refine (fields_any w.heap.size _).mono ?_
  rintro e w1 ⟨rfl, rfl⟩
  have hsz : (w.alloc (.cells #[.slice (some ⟨lb, 0, none⟩) n cap, .map m] 74)).heap.size = w.heap.size + 1 := by simp
  have hIt0 : It ((w.alloc (.cells #[.slice (some ⟨lb, 0, none⟩) n cap, .map m] 74)).alloc (.cells #[.pointer (some ⟨w.heap.size, 0, none⟩), .int .i64 (-1)] 157)) (w.heap.size + 1) w.heap.size lb n cap m (-1) := by
    refine ⟨?_, (Blk.new w _ _).alloc _⟩
    have := Blk.new (w.alloc (.cells #[.slice (some ⟨lb, 0, none⟩) n cap, .map m] 74)) [.pointer (some ⟨w.heap.size, 0, none⟩), .int .i64 (-1)] 157
    rwa [hsz] at this
  have K0 : Keeps No w ((w.alloc (.cells #[.slice (some ⟨lb, 0, none⟩) n cap, .map m] 74)).alloc (.cells #[.pointer (some ⟨w.heap.size, 0, none⟩), .int .i64 (-1)] 157)) := ((Keeps.refl No w).alloc _).alloc _
  have HI0 := Lib.hid hIt0
  have mN := method_next (w.heap.size + 1)
  have mR := method_raw (w.heap.size + 1)
  have mK := method_key (w.heap.size + 1)
  have mV := method_value (w.heap.size + 1)
  clear hsz hIt0
  go_wp2
  go_loopg [3] n (fun q s3 wr => ∃ j : Nat, j + q = n ∧ wr.ownsRow (w.heap.size + 2) 38 3 s3 j (hfs (ps.take j)) ∧ It wr (w.heap.size + 1) w.heap.size lb n cap m ((j : Int) - 1) ∧ Keeps (Up w.heap.size []) w wr ∧ w.heap.size + 2 ≤ wr.heap.size)
  case atStart => exact ⟨0, by omega, World.ownsRow_nil _ _ _ _, HI0.out, K0.of_no, by simp⟩
  case round =>
    obtain ⟨j, hjn, hrow, hIt, K, hsz⟩ := hrel
    have HJN := Lib.hid hjn
    have HROW := Lib.hid hrow
    have HIT := Lib.hid hIt
    have hj0 : j ≤ n := by omega
    clear hjn hrow hIt
    go_wp2_with (fail)
    refine (next_any (w.heap.size + 1) w.heap.size lb n cap m ((j : Int) - 1) wr HIT.out (by omega) (by omega) (by omega)).mono ?_
    rintro e w2 ⟨rfl, hIt2, K2⟩
    have ej : (j : Int) - 1 + 1 = (j : Int) := by omega
    rw [ej] at hIt2 ⊢
    have hrow2 : w2.ownsRow (w.heap.size + 2) 38 3 _ j (hfs (ps.take j)) := HROW.out.kept (row := some (w.heap.size + 1)) ⟨K2.os, K2.tape, K2.output, K2.size, fun k hk hne => K2.block k hk (fun h => hne (by simp [In] at h; rw [h]))⟩ (by
      rcases h0 : Value.ownBlock _ with _ | b
      · exact .inl rfl
      · refine .inr (fun h => ?_)
        have := (HROW.out.lt _ h0).1
        simp at h
        omega)
    have K02 : Keeps (Up w.heap.size []) w w2 := K.trans' (K2.mono (fun k _ h => .inr (by simp [In] at h; omega)))
    have hsz2 : w.heap.size + 2 ≤ w2.heap.size := by have := K2.size; omega
    have HI2 := Lib.hid hIt2
    have HR2 := Lib.hid hrow2
    clear hIt2 hrow2 HIT HROW
    by_cases hj : j < n
    · have e1 : decide ((j : Int) < (n : Int)) = true := decide_eq_true (by omega)
      rw [e1]
      clear e1
      have hjf : j < fs.length := by have := HFL.out; omega
      have hjp : j < ps.length := by have := HL.out; omega
      have hfd := (HF.out fs[j] (List.getElem_mem _)).keep K02 (fun x h => by rcases h with h | h; cases h; exact .inr h)
      obtain ⟨t1, t2, t3⟩ := HT.out.get hjf hjp
      have hcell : w2.cell? ⟨lb, n - 1 - j, none⟩ = some (.pointer (some ⟨fs[j].blk, 0, none⟩)) := by
        refine (HP.out.keep K02 (fun h => by rcases h with h | h; cases h; omega)).cell_of ?_
        have := HFL.out
        rw [List.getElem?_map, List.getElem?_reverse (by omega)]
        rw [show fs.length - 1 - (n - 1 - j) = j by omega, List.getElem?_eq_getElem hjf]
        rfl
      have hB := hfd.B
      have hRaw := hfd.R
      rw [t3] at hRaw
      obtain ⟨rb, ro, rcap, hrv, hrc, hr1, hr2, hby, hty⟩ := hRaw
      rw [t1, t2, hrv] at hB
      have hAt : At w2 (w.heap.size + 1) w.heap.size lb n cap m j fs[j].blk (.slice (some ⟨rb, ro, none⟩) ps[j].raw.length rcap) ps[j].k ps[j].v := ⟨HI2.out, hcell, hB⟩
      have htk : ps.take (j + 1) = ps.take j ++ [ps[j]] := List.take_succ_eq_append_getElem hjp
      generalize hpj : ps[j] = p at *
      generalize fs[j].blk = fb at *
      have HAT := Lib.hid hAt
      have HBY := Lib.hid hby
      have HTK := Lib.hid htk
      clear hfd t1 t2 t3 hcell hB hrv hAt hpj hby htk
      go_wp2_with (fail)
      refine (raw_some (w.heap.size + 1) w.heap.size lb n cap m j fb ⟨rb, ro, none⟩ p.raw.length rcap p.k p.v w2 HAT.out hj (by omega)).mono ?_
      rintro e w3 ⟨rfl, q3, rfl⟩
      go_wp2
      refine region_segs [([0, 1, 3, 5, 6], 2), ([], 4), ([7], 8), ([], 9)] [] 10 (fun W => BytesAt W rb ro p.raw) (by kernel_rfl) (by kernel_rfl) ?_ ?_
      · exact HBY.out
      simp only [segPick, List.map_cons, List.map_nil, pick, List.filterMap_cons, List.filterMap_nil, List.getElem?_cons_succ, List.getElem?_cons_zero, List.drop_succ_cons, List.drop_zero]
      rw [wpSegs]
      intro ι F hne hF
      have c1 := fun i => run_string_of (F i) rb ro rcap p.raw p.raw.length rfl (hF i)
      clear hF
      repeat (quiet_step (fail))
      refine wpQuiet_nil ?_
      clear c1 hne F ι
      go_wp2_with (fail)
      have hw3 : (w2.drewN q3).drew = w2.drewN (q3 + 1) := rfl
      refine (key_any (w.heap.size + 1) w.heap.size lb n cap m j fb (.slice (some ⟨rb, ro, none⟩) p.raw.length rcap) p.k p.v (w2.drewN (q3 + 1)) (HAT.out.drewN _) hj (by omega)).mono ?_
      rintro e w4 ⟨rfl, q4, rfl⟩
      rw [World.drewN_drewN]
      go_wp2
      refine EffPost.intro (HBY.out.keep ((Keeps.refl No w2).drewN _) (fun h => h)) ?_
      rw [wpSegs]
      intro ι F hne hF
      clear hF
      repeat (quiet_step (fail))
      refine wpQuiet_nil ?_
      clear hne F ι
      go_wp2_with (fail)
      refine (value_any (w.heap.size + 1) w.heap.size lb n cap m j fb (.slice (some ⟨rb, ro, none⟩) p.raw.length rcap) p.k p.v (w2.drewN (q3 + 1 + q4)) (HAT.out.drewN _) hj (by omega)).mono ?_
      rintro e w5 ⟨rfl, q5, rfl⟩
      rw [World.drewN_drewN]
      go_wp2
      refine EffPost.intro (HBY.out.keep ((Keeps.refl No w2).drewN _) (fun h => h)) ?_
      rw [wpSegs]
      intro ι F hne hF
      clear hF
      repeat (quiet_step (fail))
      refine wpQuiet_nil ?_
      clear hne F ι
      generalize hw5 : w2.drewN (q3 + 1 + q4 + q5) = w5
      have k5 : Keeps No w2 w5 := by rw [← hw5]; exact (Keeps.refl No w2).drewN _
      clear hw5
      have hby5 := Lib.hid (HBY.out.keep k5 (fun h => h))
      have hrow5 := HR2.out.kept (row := none) ⟨k5.os, k5.tape, k5.output, k5.size, fun k hk _ => k5.block k hk (fun h => h)⟩ (by
        cases Value.ownBlock _ with
        | none => exact .inl rfl
        | some b => exact .inr (fun h => by cases h))
      have hHI5 := Lib.hid (HI2.out.keep k5 (fun h => h) (fun h => h))
      have HROW5 := Lib.hid hrow5
      clear hrow5 HR2 HI2
      go_wp2
      have kA := ((Keeps.refl No w5).alloc (.cells #[str p.k, str p.v, str p.raw] 38))
      refine EffPost.intro (hby5.out.keep kA (fun h => h)) ?_
      rw [wpSegs]
      intro ι F hne hF
      clear hF
      repeat (quiet_step (fail))
      refine wpQuiet_nil ?_
      clear hne F ι
      obtain ⟨i0, hi, hz0, hz1, hz2⟩ := info_parts info_hfield
      have hc1 : ∀ i u, (hfs [p])[i]? = some u → (w5.alloc (.cells #[str p.k, str p.v, str p.raw] 38)).cell? ((⟨w5.heap.size, 0, none⟩ : Addr).add i) = some u := fun i u hi => by
        have hb := Blk.new w5 [str p.k, str p.v, str p.raw] 38
        have hadd : (⟨w5.heap.size, 0, none⟩ : Addr).add i = ⟨w5.heap.size, i, none⟩ := by unfold Addr.add; split <;> simp_all
        rw [hadd]
        exact (hb.cell i).trans hi
      have hc2 : ∀ u ∈ hfs [p], u.oneCell' = true := fun u hu => by
        simp [hfs] at hu
        rcases hu with rfl | rfl | rfl <;> rfl
      have hb5 : w.heap.size + 2 ≤ w5.heap.size := by have := k5.size; omega
      have HC1 := Lib.hid hc1
      clear hc1
      change wpList _ _ _ (_ :: []) _ _
      go_wp2_with (at_builtin; refine wpList_append_own _ rfl (.tmp 15) (.tmp 23) 24 rfl (w.heap.size + 2) 38 i0 (.agg #[.string ⟨#[]⟩, .string ⟨#[]⟩, .string ⟨#[]⟩]) 3 48 Tryz.underlying24 hi hz0 hz1 hz2 rfl (by decide) _ j (hfs (ps.take j)) rfl (HROW5.out.alloc _) ⟨w5.heap.size, 0, none⟩ 1 1 (hfs [p]) rfl (by rw [hfs_length]; rfl) HC1.out hc2 (by unfold maxLen; omega) (by omega) (by simp; omega) ?_; intro v' W hrow' hgr _)
      have kW : Keeps (Up w.heap.size []) w2 W := ((k5.of_no (T := Up w.heap.size [])).trans' (kA.of_no)).grown hgr (fun k hk => .inl (.inr (by have := (HROW5.out.lt k hk).1; omega)))
      have hag : ∀ k, k < w.heap.size + 2 → W.heap[k]? = w5.heap[k]? := fun k hk => by
        rw [hgr.block k (by simp; omega) (fun h => by have := (HROW5.out.lt k h.symm).1; omega)]
        exact kA.block k (by omega) (fun h => h)
      have hbyW : BytesAt W rb ro p.raw := by
        obtain ⟨cs, t, f, h1, h2⟩ := hby5.out
        exact ⟨cs, t, f, (hag rb (by omega)).trans h1, h2⟩
      have hItW : It W (w.heap.size + 1) w.heap.size lb n cap m j := ⟨(hag _ (by omega)).trans hHI5.out.B, (hag _ (by omega)).trans hHI5.out.H⟩
      rw [← hfs_append, ← HTK.out] at hrow'
      have HRW := Lib.hid hrow'
      have HITW := Lib.hid hItW
      clear hrow' hItW hag
      go_wp2
      refine EffPost.intro hbyW ?_
      rw [wpSegs]
      intro ι F hne hF
      clear hF
      repeat (quiet_step (fail))
      refine wpQuiet_nil ?_
      clear hne F ι
      change wpList _ _ _ (_ :: []) _ _
      go_wp2
      go_roundg (gk - 1)
      case measure => have := HJN.out; omega
      case rel =>
        have hw := kW.size
        refine ⟨j + 1, by have := HJN.out; omega, HRW.out, ?_, K02.trans' kW, by omega⟩
        have : (((j + 1 : Nat) : Int) - 1) = (j : Int) := by omega
        rw [this]
        exact HITW.out
    · have e1 : decide ((j : Int) < (n : Int)) = false := decide_eq_false (by omega)
      rw [e1]
      clear e1
      have hjn : j = n := by omega
      go_wp2
      go_ret
      refine ⟨_, rfl, ?_, K02.down (Nat.le_refl _) |>.mono (fun _ _ h => by cases h)⟩
      have h2 := HR2.out
      rw [hjn, HL.out, List.take_length] at h2
      obtain ⟨h3, h4⟩ := h2
      refine ⟨h3, ?_⟩
      rcases h4 with h4 | ⟨g, c, cur, h5, h6, h7⟩
      · exact .inl h4
      · exact .inr ⟨g, c, cur, h5, by omega, h7⟩
end Go.Proofs.YtjbbapodcngnaaaGreatDoor
namespace Go.Proofs.YtjbbapodcngnaaaGreatDoor
open Go.RowKit Hdr

theorem HMap.up {S : Nat → Prop} {w w' : World} {lo : Nat} {m : Option Nat} {fs : List Fd} (h : HMap w lo m fs) (k : Keeps S w w') (hS : ∀ x, S x → w.heap.size ≤ x) : HMap w' lo m fs := by
  rcases h with ⟨h1, h2⟩ | ⟨mb, gs, h1, h2, h3, h4⟩
  · exact .inl ⟨h1, h2⟩
  · refine .inr ⟨mb, gs, h1, h2, h3.keep k (fun h => by have := hS _ h; have := h3.lt; omega), ?_⟩
    exact h4.keep k (fun x hx b hb h => by
      have := ((h4.own x hx).lt b hb).2
      have := hS _ h
      omega)
theorem HdrAt.up {S : Nat → Prop} {w w' : World} {lo : Nat} {hv : Value} {fs : List Fd} (h : HdrAt w lo hv fs) (k : Keeps S w w') (hS : ∀ x, S x → w.heap.size ≤ x) : HdrAt w' lo hv fs := by
  obtain ⟨lb, cap, m, h1, h2, h3, h4, h5, h6⟩ := h
  exact ⟨lb, cap, m, h1, h2, h3, h4.keep k (fun h => by have := hS _ h; have := h4.ptrs.lt; omega), h5.up k hS, (h6.keep k (fun x h => .inr (hS x h))).mono k.size⟩

theorem ownsRow_mono {w : World} {base base' : Nat} {e : TypeId} {size : Nat} {v : Value} {n : Nat} {xs : List Value} (h : w.ownsRow base' e size v n xs) (hb : base ≤ base') : w.ownsRow base e size v n xs := by
  obtain ⟨h3, h4⟩ := h
  refine ⟨h3, ?_⟩
  rcases h4 with h4 | ⟨g, c, cur, h5, h6, h7⟩
  · exact .inl h4
  · exact .inr ⟨g, c, cur, h5, by omega, h7⟩

/-- What HeaderOf leaves. -/
def HoPost (l : List UInt8) (r : Option (List PF × List UInt8)) (w : World) (e : Ending) (w' : World) : Prop :=
  Keeps No w w' ∧
  match r with
  | none => e = .returned (.tuple #[.slice none 0 0, .int .i64 0, .bool false])
  | some (ps, c) => ∃ v, e = .returned (.tuple #[v, .int .i64 ((l.length : Int) - c.length), .bool true]) ∧ w'.ownsRow w.heap.size 38 3 v ps.length (hfs ps)

set_option maxRecDepth 100000 in
set_option maxHeartbeats 1000000 in
theorem headerOf_any (l : List UInt8) (ea : Addr) (w : World) (hs : Short l) (hlen : l.length ≤ 100000) {N : Nat} (L : Laid N ea w) (hN : N ≤ w.heap.size) (hr : ∀ ps c, rhd l = some (ps, c) → ps.length ≤ 100000 ∧ c.length ≤ l.length) :
    Calls Tryz.prog 12 #[str l] w (HoPost l (rhd l) w) := by
  have H := headed_any l ea w hs (by omega) L hN
  generalize rhd l = r at *
  have HR := Lib.hid hr
  clear hr hs L
  have hls : (⟨l.toArray⟩ : ByteArray).size = l.length := by show l.toArray.size = _; simp
  unfold str at *
  go_enter Tryz.func12, Tryz.ntmps12
  go_wp2_with (fail)
  refine H.mono ?_
  rintro e w1 ⟨K, hpost⟩
  cases r with
  | none =>
    obtain ⟨xa, xn, xc, ym, k, rfl⟩ := hpost
    clear H
    go_wp2
    go_ret3
    exact ⟨K.alloc _, rfl⟩
  | some pc =>
    obtain ⟨ps, c⟩ := pc
    obtain ⟨hv, fs, rfl, hh, ht⟩ := hpost
    obtain ⟨hpl, hcl⟩ := HR.out ps c rfl
    clear H HR
    have HH := Lib.hid hh
    obtain ⟨lb, cap, m, rfl, hh2⟩ := hh
    clear hh2
    go_wp2_with (fail)
    have kA : Keeps No w1 (w1.alloc (.cells #[.slice (some ⟨lb, 0, none⟩) fs.length cap, .map m] 74)) := (Keeps.refl No w1).alloc _
    refine (fieldsOf_any w.heap.size _ fs ps _ (HH.out.up kA (fun x h => h.elim)) ht (by rw [ht.length]; exact hpl)).mono ?_
    rintro e w2 ⟨v, rfl, hrow, K2⟩
    have hsum : IntKind.i64.wrap ((l.length : Int) - (c.length : Int)) = (l.length : Int) - c.length := by rw [IntKind.wrap_i64]; omega
    have HROW := Lib.hid hrow
    clear hrow
    go_wp2
    go_ret3
    refine ⟨K.trans' (kA.trans' K2), v, rfl, ownsRow_mono HROW.out ?_⟩
    have := K.size
    simp
    omega
end Go.Proofs.YtjbbapodcngnaaaGreatDoor
namespace Go.Proofs.YtjbbapodcngnaaaGreatDoor
open Go.RowKit Hdr

set_option maxRecDepth 100000 in
theorem isBlank9_any (c : UInt8) (w : World) :
    Calls Tryz.prog 46 #[.int .u8 c.toNat] w fun e w' => e = .returned (.bool (sp c)) ∧ w' = w := by
  have hsp : sp c = decide (c.toNat = 32 ∨ c.toNat = 9) := by
    unfold sp
    rw [Bool.eq_iff_iff]
    simp only [Bool.or_eq_true, beq_iff_eq, decide_eq_true_eq]
    constructor
    · rintro (rfl | rfl)
      · exact .inl rfl
      · exact .inr rfl
    · rintro (h | h)
      · exact .inl (UInt8.toNat.inj h)
      · exact .inr (UInt8.toNat.inj h)
  rw [hsp]
  clear hsp
  generalize hm : c.toNat = m
  clear hm
  go_enter Tryz.func46, Tryz.ntmps46
  go_wp2
  all_goals go_ret
  all_goals refine ⟨congrArg (fun b => Ending.returned (Value.bool b)) (?_ : (_ : Bool) = _), rfl⟩
  all_goals (rw [Bool.eq_iff_iff]; simp only [beq_iff_eq, Bool.or_eq_true, decide_eq_true_eq, eq_self, true_iff] at *; omega)

theorem str_get (l : List UInt8) (j : Nat) (h : j < l.length) : (⟨l.toArray⟩ : ByteArray)[j]'(by show j < l.toArray.size; simpa using h) = l[j] := rfl

set_option maxRecDepth 100000 in
set_option maxHeartbeats 1000000 in
theorem hasByte9_any (l : List UInt8) (c : UInt8) (w : World) (hlen : l.length ≤ 100000000000) :
    Calls Tryz.prog 25 #[str l, .int .u8 c.toNat] w fun e w' => e = .returned (.bool (l.contains c)) ∧ w' = w := by
  go_enter Tryz.func25, Tryz.ntmps25
  go_wp2
  go_loopg [8] l.length (fun n s8 wr => ∃ j : Nat, s8 = .int .i64 j ∧ j + n = l.length ∧ (l.take j).contains c = false ∧ w = wr)
  case atStart => exact ⟨0, rfl, by omega, rfl, rfl⟩
  case round =>
    obtain ⟨j, rfl, hjn, hjc, rfl⟩ := hrel
    have HJC := Lib.hid hjc
    have HJN := Lib.hid hjn
    have hjl : j ≤ l.length := by omega
    clear hjc hjn
    by_cases hj : j < l.length
    · have hx := str_get l j hj
      have htk : l.take (j + 1) = l.take j ++ [l[j]] := List.take_succ_eq_append_getElem hj
      have hmem : l[j] ∈ l := List.getElem_mem _
      generalize l[j] = x at *
      have HTK := Lib.hid htk
      have hjj : (j : Int) < (l.length : Int) := by omega
      clear htk
      by_cases hxc : x = c
      · subst hxc
        have hcon : l.contains x = true := by simpa using hmem
        have e1 : ((x.toNat : Int) == (x.toNat : Int)) = true := by simp
        have HC := Lib.hid hcon
        clear hcon
        go_wp2
        go_ret
        exact ⟨by rw [HC.out]; rfl, rfl⟩
      · have e1 : ((x.toNat : Int) == (c.toNat : Int)) = false := by
          simp only [beq_eq_false_iff_ne, ne_eq]
          intro h
          exact hxc (UInt8.toNat.inj (by show x.toNat = c.toNat; omega))
        have HXC := Lib.hid hxc
        clear hxc
        go_wp2
        go_roundg (gk - 1)
        case measure => have := HJN.out; omega
        case rel =>
          refine ⟨j + 1, by simp, by have := HJN.out; omega, ?_, rfl⟩
          rw [HTK.out, List.contains_append, HJC.out]
          simp [Ne.symm HXC.out]
    · have hjl2 : j = l.length := by omega
      have hcon : l.contains c = false := by have := HJC.out; rwa [hjl2, List.take_length] at this
      have e1 : decide (j < l.length) = false := decide_eq_false hj
      have HC := Lib.hid hcon
      clear hcon hjl2
      go_wp2
      go_ret
      exact ⟨by rw [HC.out]; rfl, rfl⟩
end Go.Proofs.YtjbbapodcngnaaaGreatDoor
namespace Go.Proofs.YtjbbapodcngnaaaGreatDoor
open Go.RowKit Hdr

theorem str_cut (l : List UInt8) (i j : Nat) : (⟨l.toArray⟩ : ByteArray).extract i j = ⟨((l.drop i).take (j - i)).toArray⟩ := by
  apply ByteArray.ext
  apply Array.toList_inj.1
  rw [extract_mid]
theorem str_len (l : List UInt8) : (⟨l.toArray⟩ : ByteArray).size = l.length := by show l.toArray.size = _; simp

/-- What trim9 leaves. -/
def T9Post (l : List UInt8) (w : World) (e : Ending) (w' : World) : Prop := e = .returned (str (trim l)) ∧ w' = w

set_option maxRecDepth 100000 in
set_option maxHeartbeats 1000000 in
theorem trim9_any (l : List UInt8) (w : World) (hlen : l.length ≤ 100000000000) :
    Calls Tryz.prog 70 #[str l] w (T9Post l w) := by
  go_enter Tryz.func70, Tryz.ntmps70
  go_upto_block 0 with (fail)
  go_cut [0] (fun s0 wx => s0 = str (trimL l) ∧ w = wx)
  case first =>
    go_wp2
    go_loopg [0] l.length (fun n s0 wr => ∃ c, s0 = str c ∧ n = c.length ∧ c.length ≤ l.length ∧ trimL c = trimL l ∧ w = wr)
    case atStart => exact ⟨l, rfl, rfl, Nat.le_refl _, rfl, rfl⟩
    case round =>
      obtain ⟨c, rfl, hn, hcl, ht, rfl⟩ := hrel
      have HN := Lib.hid hn
      have HT := Lib.hid ht
      clear hn ht
      cases c with
      | nil =>
        go_wp2
        go_meet
        exact ⟨by rw [← HT.out]; rfl, rfl⟩
      | cons x r =>
        have hx := str_get (x :: r) 0 (by simp)
        have hr := str_cut (x :: r) 1 (r.length + 1)
        have hl := str_len (x :: r)
        simp only [List.getElem_cons_zero, List.drop_succ_cons, List.drop_zero, Nat.add_sub_cancel, List.take_length, List.length_cons] at hx hr hl
        have HR := Lib.hid hr
        clear hr
        go_wp2_with (fail)
        refine (isBlank9_any x w).mono ?_
        rintro e w1 ⟨rfl, rfl⟩
        have hr := HR.out
        cases hsp : sp x with
        | true =>
          have HSP := Lib.hid hsp
          clear hsp
          go_wp2
          go_roundg r.length
          case measure => have := HN.out; simp at this; omega
          case rel =>
            refine ⟨r, rfl, rfl, by simp at hcl; omega, ?_, rfl⟩
            have h1 := HT.out
            unfold trimL at h1
            rw [List.dropWhile_cons, if_pos HSP.out] at h1
            exact h1
        | false =>
          have HSP := Lib.hid hsp
          clear hsp
          go_wp2
          go_meet
          refine ⟨?_, rfl⟩
          have h1 := HT.out
          unfold trimL at h1
          rw [List.dropWhile_cons, if_neg (by rw [HSP.out]; decide)] at h1
          unfold trimL
          rw [← h1]
  case rest =>
    obtain ⟨rfl, rfl⟩ := hcut
    have hll := trimL_len l
    have htr : trim l = trimR (trimL l) := rfl
    generalize htt : trimL l = t at *
    have HTR := Lib.hid htr
    clear htt htr
    go_upto_block 2 with (fail)
    go_cut [0] (fun s0 wx => s0 = str (trimR t) ∧ w = wx)
    case first =>
      go_wp2
      go_loopg [0] t.length (fun n s0 wr => ∃ c, s0 = str c ∧ n = c.length ∧ c.length ≤ t.length ∧ trimR c = trimR t ∧ w = wr)
      case atStart => exact ⟨t, rfl, rfl, Nat.le_refl _, rfl, rfl⟩
      case round =>
        obtain ⟨c, rfl, hn, hcl, ht, rfl⟩ := hrel
        have HN := Lib.hid hn
        have HT := Lib.hid ht
        clear hn ht
        rcases nil_or_snoc c with rfl | ⟨r, x, hc⟩
        · go_wp2
          go_meet
          exact ⟨by rw [← HT.out]; rfl, rfl⟩
        · have hlc : c.length = r.length + 1 := by rw [hc]; simp
          have hx : (⟨c.toArray⟩ : ByteArray)[r.length]'(by show r.length < c.toArray.size; simp; omega) = x := by
            subst hc
            rw [str_get _ _ (by simp)]
            simp
          have hr : (⟨c.toArray⟩ : ByteArray).extract 0 r.length = ⟨r.toArray⟩ := by
            rw [str_cut, hc]
            simp [List.take_left']
          have hl : (⟨c.toArray⟩ : ByteArray).size = r.length + 1 := by rw [str_len, hlc]
          have hemp : c.isEmpty = false := by rw [hc]; cases r <;> rfl
          have hcl2 : r.length ≤ 100000000000 := by omega
          have e1 : IntKind.i64.wrap (((r.length + 1 : Nat) : Int) - 1) = (r.length : Int) := by rw [IntKind.wrap_i64]; omega
          have e2 : (((r.length + 1 : Nat) : Int) - 1) = (r.length : Int) := by omega
          have HR := Lib.hid hr
          have HCC := Lib.hid hc
          have HLC := Lib.hid hlc
          have hlt : r.length < c.length := by omega
          have hx2 : (⟨c.toArray⟩ : ByteArray)[r.length]'(by show r.length < c.toArray.size; simpa using hlt) = x := hx
          clear hx hr hc
          clear hlc
          go_wp2_with (fail)
          refine (isBlank9_any x w).mono ?_
          rintro e w1 ⟨rfl, rfl⟩
          have hr := HR.out
          cases hsp : sp x with
          | true =>
            have HSP := Lib.hid hsp
            clear hsp
            go_wp2
            go_roundg r.length
            case measure => have := HN.out; have := HLC.out; omega
            case rel =>
              refine ⟨r, rfl, rfl, by have := HLC.out; omega, ?_, rfl⟩
              have h1 := HT.out
              rw [HCC.out, trimR_snoc, if_pos HSP.out] at h1
              exact h1
          | false =>
            have HSP := Lib.hid hsp
            clear hsp
            go_wp2
            go_meet
            refine ⟨?_, rfl⟩
            have h1 := HT.out
            rw [HCC.out, trimR_snoc, if_neg (by rw [HSP.out]; decide), ← HCC.out] at h1
            rw [← h1]
    case rest =>
      obtain ⟨rfl, rfl⟩ := hcut
      go_wp2
      go_ret
      exact ⟨by rw [HTR.out]; rfl, rfl⟩
end Go.Proofs.YtjbbapodcngnaaaGreatDoor
namespace Go.Proofs.YtjbbapodcngnaaaGreatDoor
open Go.RowKit Hdr

set_option maxRecDepth 100000 in
theorem bits_up : ∀ n : Fin 256, (97 ≤ n.val ∧ n.val ≤ 122 → bits .andNot .u8 (n.val : Int) 32 = (n.val : Int) - 97 + 65 ∧ bits .or .u8 (n.val : Int) 32 = (n.val : Int)) ∧ (65 ≤ n.val ∧ n.val ≤ 90 → bits .andNot .u8 (n.val : Int) 32 = (n.val : Int) ∧ bits .or .u8 (n.val : Int) 32 = (n.val : Int) - 65 + 97) := by decide
set_option maxRecDepth 100000 in
theorem sign_contains (c : UInt8) : ([33, 35, 36, 37, 38, 39, 42, 43, 45, 46, 94, 95, 96, 124, 126] : List UInt8).contains c = decide (signN c.toNat) := by
  have h : ∀ n : Fin 256, ([33, 35, 36, 37, 38, 39, 42, 43, 45, 46, 94, 95, 96, 124, 126] : List UInt8).contains (UInt8.ofNat n.val) = decide (signN n.val) := by decide
  have h2 := h ⟨c.toNat, c.toNat_lt⟩
  simp only [UInt8.ofNat_toNat] at h2
  exact h2

set_option maxRecDepth 100000 in
set_option maxHeartbeats 2000000 in
theorem canonical9_any (l : List UInt8) (w : World) (hlen : l.length ≤ 100000000000) :
    Calls Tryz.prog 28 #[str l] w (CanPost l w) := by
  obtain ⟨cap, W, hcv, hrow, K, hsz⟩ := run_bytes_of w l
  unfold str at hcv ⊢
  go_enter Tryz.func28, Tryz.ntmps28
  go_wp2
  clear hcv
  go_loopg [4, 12] l.length (fun n s4 s12 wr => ∃ (pre post : List UInt8) (up : Bool), s4 = .bool up ∧ s12 = .int .i64 pre.length ∧ pre.length + post.length = l.length ∧ n = post.length ∧ post = l.drop pre.length ∧ (l.take pre.length).all tok = true ∧ canonGo true l = pre ++ canonGo up post ∧
    Row wr w.heap.size (pre ++ post) ∧ Keeps (Up w.heap.size []) w wr)
  case atStart => exact ⟨[], l, true, rfl, rfl, by simp, rfl, rfl, rfl, rfl, hrow, K.of_no⟩
  case round =>
    obtain ⟨pre, post, up, rfl, rfl, hl, hn, hpo, hal, hc, hr, kr⟩ := hrel
    have HC := Lib.hid hc
    have HA := Lib.hid hal
    have HN := Lib.hid hn
    have HP := Lib.hid hpo
    have HL := Lib.hid hl
    have HR := Lib.hid hr
    have hp1 : pre.length ≤ l.length := by omega
    clear hc hal hn hpo hl hr
    cases post with
    | nil =>
      have hpl : pre.length = l.length := by have := HL.out; simpa using this
      have e1 : decide (pre.length < l.length) = false := decide_eq_false (by omega)
      have hcan : pre = canon l := by
        have h1 := HA.out
        have h2 := HC.out
        rw [hpl, List.take_length] at h1
        rw [show canonGo up [] = [] from rfl, List.append_nil] at h2
        unfold canon
        rw [if_pos h1, h2]
      have hb := HR.out.bytes
      rw [List.append_nil] at hb
      have hst := run_string_of wr w.heap.size 0 cap pre l.length hpl.symm hb
      unfold str at hst
      have HPL := Lib.hid hcan
      clear hpl hcan hb
      go_wp2
      go_ret
      exact ⟨by rw [← HPL.out]; rfl, (kr.down (Nat.le_refl _)).mono (fun _ _ h => by cases h)⟩
    | cons c r =>
      have hpl : pre.length < l.length := by have := HL.out; simp at this; omega
      have e1 : decide ((pre.length : Int) < (l.length : Int)) = true := decide_eq_true (by omega)
      have hi2 : (pre.length : Int) < (l.length : Int) := by omega
      have hx := HR.out.bytes.cell (i := pre.length) (by simp)
      rw [List.getElem_append_right (Nat.le_refl _)] at hx
      simp only [Nat.sub_self, List.getElem_cons_zero, Nat.zero_add] at hx
      unfold byt at hx
      have hfz : wr.frozen? ⟨w.heap.size, pre.length, none⟩ = false := HR.out.frozen (by simp)
      have hset := fun x : UInt8 => HR.out.set pre.length x
      have htk : l.take (pre.length + 1) = l.take pre.length ++ [c] := by
        have h1 := HP.out
        rw [List.take_succ_eq_append_getElem hpl]
        congr 2
        rw [List.drop_eq_getElem_cons hpl] at h1
        injection h1 with h1 _
        exact h1.symm
      have HTK := Lib.hid htk
      clear htk
      have hm : c.toNat < 256 := c.toNat_lt
      have hlen2 : pre.length ≤ 100000000000 := by omega
      have hnext : tok c = true → ∀ w2, Row w2 w.heap.size (pre ++ cased up c :: r) → Keeps (Up w.heap.size []) w w2 → ∃ (pre' post : List UInt8) (up' : Bool), Value.bool ((c.toNat : Int) == 45) = .bool up' ∧ Value.int .i64 ((pre.length : Int) + 1) = .int .i64 pre'.length ∧ pre'.length + post.length = l.length ∧ gk - 1 = post.length ∧ post = l.drop pre'.length ∧
          (l.take pre'.length).all tok = true ∧ canonGo true l = pre' ++ canonGo up' post ∧ Row w2 w.heap.size (pre' ++ post) ∧ Keeps (Up w.heap.size []) w w2 := by
        intro hT w2 h1 h2
        have hcc : ((c.toNat : Int) == 45) = (c == 45) := by
          rw [Bool.eq_iff_iff]
          simp only [beq_iff_eq]
          constructor
          · intro h; apply UInt8.toNat.inj; show c.toNat = 45; omega
          · rintro rfl; rfl
        refine ⟨pre ++ [cased up c], r, c == 45, by rw [hcc], by simp, by have := HL.out; simp at this ⊢; omega, by have := HN.out; simp at this; omega, ?_, ?_, ?_, by simpa using h1, h2⟩
        · have h3 := HP.out
          rw [List.drop_eq_getElem_cons hpl] at h3
          injection h3 with _ h3
          simpa using h3
        · have h3 := HA.out
          simp only [List.length_append, List.length_cons, List.length_nil, Nat.zero_add]
          rw [HTK.out, List.all_append, h3]
          simp [hT]
        · rw [HC.out]
          simp [canonGo]
      have hmeas : gk - 1 < gk := by have := HN.out; simp at this; omega
      have hput : ∀ x, cased up c = x → Row (wr.setCell ⟨w.heap.size, pre.length, none⟩ (byt x)) w.heap.size (pre ++ cased up c :: r) := fun x h => by
        have := hset x
        rw [List.set_append_right _ _ (Nat.le_refl _), Nat.sub_self, List.set_cons_zero] at this
        rw [h]
        exact this
      have hsame : cased up c = c → Row wr w.heap.size (pre ++ cased up c :: r) := fun h => by rw [h]; exact HR.out
      have hkeep : ∀ v, Keeps (Up w.heap.size []) w (wr.setCell ⟨w.heap.size, pre.length, none⟩ v) := fun v => kr.setCell (.inr (Nat.le_refl _)) v
      have hbad : tok c = false → canon l = l := fun htok => by
        unfold canon
        rw [if_neg]
        intro h
        rw [List.all_eq_true] at h
        have h2 := h c (by rw [← List.take_append_drop pre.length l, ← HP.out]; simp)
        rw [htok] at h2
        cases h2
      have HBAD := Lib.hid hbad
      have HNEXT := Lib.hid hnext
      have HPUT := Lib.hid hput
      have HSAME := Lib.hid hsame
      clear hbad hnext hput hsame hset hp1 HA HC HP HL HTK HR
      obtain ⟨hb1, hb2⟩ := bits_up ⟨c.toNat, hm⟩
      simp only at hb1 hb2
      by_cases hlow : 97 ≤ c.toNat ∧ c.toNat ≤ 122
      · obtain ⟨hb3, hb4⟩ := hb1 hlow
        have htok : tok c = true := decide_eq_true (.inr (.inr (.inl hlow)))
        have a1 : decide ((97 : Int) ≤ (c.toNat : Int)) = true := decide_eq_true (by omega)
        have a2 : decide ((c.toNat : Int) ≤ 122) = true := decide_eq_true (by omega)
        have HB3 := Lib.hid hb3
        have HB4 := Lib.hid hb4
        have HTK := Lib.hid htok
        clear hb1 hb2 hb3 hb4 htok
        cases up with
        | true =>
          have hcs : cased true c = c - 97 + 65 := by unfold cased; rw [if_pos ⟨rfl, hlow⟩]
          have hv : byt (c - 97 + 65) = .int .u8 ((c.toNat : Int) - 97 + 65) := by
            unfold byt
            have : (c - 97 + 65).toNat = c.toNat - 97 + 65 := by
              rw [UInt8.toNat_add, UInt8.toNat_sub_of_le _ _ (by rw [UInt8.le_iff_toNat_le]; exact hlow.1)]
              show (c.toNat - 97 + 65) % 256 = _
              omega
            rw [this]
            congr 1
            omega
          have hp := HPUT.out _ hcs
          rw [hv, ← HB3.out] at hp
          have HP := Lib.hid hp
          clear hp hcs hv
          go_wp2
          go_roundg (gk - 1)
          case measure => exact hmeas
          case rel => exact HNEXT.out HTK.out _ HP.out (hkeep _)
        | false =>
          have hcs : cased false c = c := by unfold cased; rw [if_neg (by simp), if_neg (by omega)]
          have hp := HPUT.out _ hcs
          unfold byt at hp
          rw [← HB4.out] at hp
          have HP := Lib.hid hp
          clear hp hcs
          go_wp2
          go_roundg (gk - 1)
          case measure => exact hmeas
          case rel => exact HNEXT.out HTK.out _ HP.out (hkeep _)
      · by_cases hupp : 65 ≤ c.toNat ∧ c.toNat ≤ 90
        · obtain ⟨hb3, hb4⟩ := hb2 hupp
          have htok : tok c = true := decide_eq_true (.inr (.inr (.inr hupp)))
          have a1 : decide ((97 : Int) ≤ (c.toNat : Int)) = false := decide_eq_false (by omega)
          have a2 : decide ((65 : Int) ≤ (c.toNat : Int)) = true := decide_eq_true (by omega)
          have a3 : decide ((c.toNat : Int) ≤ 90) = true := decide_eq_true (by omega)
          have HB3 := Lib.hid hb3
          have HB4 := Lib.hid hb4
          have HTK := Lib.hid htok
          clear hb1 hb2 hb3 hb4 htok
          cases up with
          | false =>
            have hcs : cased false c = c - 65 + 97 := by unfold cased; rw [if_neg (by simp), if_pos ⟨rfl, hupp⟩]
            have hv : byt (c - 65 + 97) = .int .u8 ((c.toNat : Int) - 65 + 97) := by
              unfold byt
              have : (c - 65 + 97).toNat = c.toNat - 65 + 97 := by
                rw [UInt8.toNat_add, UInt8.toNat_sub_of_le _ _ (by rw [UInt8.le_iff_toNat_le]; exact hupp.1)]
                show (c.toNat - 65 + 97) % 256 = _
                omega
              rw [this]
              congr 1
              omega
            have hp := HPUT.out _ hcs
            rw [hv, ← HB4.out] at hp
            have HP := Lib.hid hp
            clear hp hcs hv
            go_wp2
            go_roundg (gk - 1)
            case measure => exact hmeas
            case rel => exact HNEXT.out HTK.out _ HP.out (hkeep _)
          | true =>
            have hcs : cased true c = c := by unfold cased; rw [if_neg (by omega), if_neg (by simp)]
            have hp := HPUT.out _ hcs
            unfold byt at hp
            rw [← HB3.out] at hp
            have HP := Lib.hid hp
            clear hp hcs
            go_wp2
            go_roundg (gk - 1)
            case measure => exact hmeas
            case rel => exact HNEXT.out HTK.out _ HP.out (hkeep _)
        · have hcs : cased up c = c := by unfold cased; rw [if_neg (fun h => hlow h.2), if_neg (fun h => hupp h.2)]
          have HP := Lib.hid (HSAME.out hcs)
          clear hcs hb1 hb2
          obtain ⟨sg, hsg⟩ : ∃ sg : Bool, sg = decide (signN c.toNat) := ⟨_, rfl⟩
          have hby : ∀ W : World, Calls Tryz.prog 25 #[.string ⟨#[33, 35, 36, 37, 38, 39, 42, 43, 45, 46, 94, 95, 96, 124, 126]⟩, .int .u8 c.toNat] W fun e w' => e = .returned (.bool sg) ∧ w' = W := fun W => by
            rw [hsg, ← sign_contains]
            exact hasByte9_any [33, 35, 36, 37, 38, 39, 42, 43, 45, 46, 94, 95, 96, 124, 126] c W (by decide)
          have HSG := Lib.hid hsg
          have HLOW := Lib.hid hlow
          have HUPP := Lib.hid hupp
          have htokT : sg = true → tok c = true := fun h => decide_eq_true (.inl (of_decide_eq_true (HSG.out.symm.trans h)))
          have htokD : 48 ≤ c.toNat → c.toNat ≤ 57 → tok c = true := fun h1 h2 => decide_eq_true (.inr (.inl ⟨h1, h2⟩))
          have htokF : sg = false → ¬ (48 ≤ c.toNat ∧ c.toNat ≤ 57) → tok c = false := fun h h2 => by
            have h3 := of_decide_eq_false (HSG.out.symm.trans h)
            have h4 := HLOW.out
            have h5 := HUPP.out
            exact decide_eq_false (fun h6 => by rcases h6 with h6 | h6 | h6 | h6; exact h3 h6; exact h2 h6; exact h4 h6; exact h5 h6)
          have HTT := Lib.hid htokT
          have HTD := Lib.hid htokD
          have HTF := Lib.hid htokF
          clear hsg hlow hupp htokT htokD htokF
          have hret : tok c = false → (.returned (.string ⟨l.toArray⟩) : Ending) = .returned (str (canon l)) ∧ Keeps No w wr := fun h => ⟨by rw [HBAD.out h], (kr.down (Nat.le_refl _)).mono (fun _ _ h => by cases h)⟩
          have HRET := Lib.hid hret
          clear hret
          have h4 := HLOW.out
          have h5 := HUPP.out
          have hcases : (c.toNat < 48 ∨ (57 < c.toNat ∧ c.toNat < 65)) ∨ (48 ≤ c.toNat ∧ c.toNat ≤ 57) ∨ (91 ≤ c.toNat ∧ c.toNat ≤ 96) ∨ 123 ≤ c.toNat := by omega
          clear h4 h5
          by_cases hdig : 48 ≤ c.toNat ∧ c.toNat ≤ 57
          · have htok := HTD.out hdig.1 hdig.2
            have a1 : decide ((97 : Int) ≤ (c.toNat : Int)) = false := decide_eq_false (by omega)
            have a2 : decide ((65 : Int) ≤ (c.toNat : Int)) = false := decide_eq_false (by omega)
            have a3 : decide ((c.toNat : Int) < 48) = false := decide_eq_false (by omega)
            have a4 : decide ((57 : Int) < (c.toNat : Int)) = false := decide_eq_false (by omega)
            have HTK := Lib.hid htok
            clear htok hcases hdig
            go_wp2
            go_roundg (gk - 1)
            case measure => exact hmeas
            case rel => exact HNEXT.out HTK.out _ HP.out kr
          · have hgo : sg = false → tok c = false := fun h => HTF.out h hdig
            have HGO := Lib.hid hgo
            have HLU := HLOW.out
            have HLV := HUPP.out
            have hc4 : (c.toNat < 48) ∨ (57 < c.toNat ∧ c.toNat < 65) ∨ (91 ≤ c.toNat ∧ c.toNat ≤ 96) ∨ 123 ≤ c.toNat := by omega
            clear hgo hcases hdig HLU HLV
            rcases hc4 with hq | hq | hq | hq
            · have a0 : decide ((97 : Int) ≤ (c.toNat : Int)) = false := decide_eq_false (by omega)
              have a1 : decide ((c.toNat : Int) ≤ 122) = true := decide_eq_true (by omega)
              have a2 : decide ((65 : Int) ≤ (c.toNat : Int)) = false := decide_eq_false (by omega)
              have a3 : decide ((c.toNat : Int) ≤ 90) = true := decide_eq_true (by omega)
              have a4 : decide ((c.toNat : Int) < 48) = true := decide_eq_true (by omega)
              have a5 : decide ((57 : Int) < (c.toNat : Int)) = false := decide_eq_false (by omega)
              clear hq
              cases sg with
              | true =>
                have HTK := Lib.hid (HTT.out rfl)
                go_wp2_with (go_at_call 25; refine (hby _).mono ?_; rintro e w1 ⟨rfl, rfl⟩)
                go_roundg (gk - 1)
                case measure => exact hmeas
                case rel => exact HNEXT.out HTK.out _ HP.out kr
              | false =>
                have HTK := Lib.hid (HGO.out rfl)
                go_wp2_with (go_at_call 25; refine (hby _).mono ?_; rintro e w1 ⟨rfl, rfl⟩)
                go_ret
                exact HRET.out HTK.out
            · have a0 : decide ((97 : Int) ≤ (c.toNat : Int)) = false := decide_eq_false (by omega)
              have a1 : decide ((c.toNat : Int) ≤ 122) = true := decide_eq_true (by omega)
              have a2 : decide ((65 : Int) ≤ (c.toNat : Int)) = false := decide_eq_false (by omega)
              have a3 : decide ((c.toNat : Int) ≤ 90) = true := decide_eq_true (by omega)
              have a4 : decide ((c.toNat : Int) < 48) = false := decide_eq_false (by omega)
              have a5 : decide ((57 : Int) < (c.toNat : Int)) = true := decide_eq_true (by omega)
              clear hq
              cases sg with
              | true =>
                have HTK := Lib.hid (HTT.out rfl)
                go_wp2_with (go_at_call 25; refine (hby _).mono ?_; rintro e w1 ⟨rfl, rfl⟩)
                go_roundg (gk - 1)
                case measure => exact hmeas
                case rel => exact HNEXT.out HTK.out _ HP.out kr
              | false =>
                have HTK := Lib.hid (HGO.out rfl)
                go_wp2_with (go_at_call 25; refine (hby _).mono ?_; rintro e w1 ⟨rfl, rfl⟩)
                go_ret
                exact HRET.out HTK.out
            · have a0 : decide ((97 : Int) ≤ (c.toNat : Int)) = false := decide_eq_false (by omega)
              have a1 : decide ((c.toNat : Int) ≤ 122) = true := decide_eq_true (by omega)
              have a2 : decide ((65 : Int) ≤ (c.toNat : Int)) = true := decide_eq_true (by omega)
              have a3 : decide ((c.toNat : Int) ≤ 90) = false := decide_eq_false (by omega)
              have a4 : decide ((c.toNat : Int) < 48) = false := decide_eq_false (by omega)
              have a5 : decide ((57 : Int) < (c.toNat : Int)) = true := decide_eq_true (by omega)
              clear hq
              cases sg with
              | true =>
                have HTK := Lib.hid (HTT.out rfl)
                go_wp2_with (go_at_call 25; refine (hby _).mono ?_; rintro e w1 ⟨rfl, rfl⟩)
                go_roundg (gk - 1)
                case measure => exact hmeas
                case rel => exact HNEXT.out HTK.out _ HP.out kr
              | false =>
                have HTK := Lib.hid (HGO.out rfl)
                go_wp2_with (go_at_call 25; refine (hby _).mono ?_; rintro e w1 ⟨rfl, rfl⟩)
                go_ret
                exact HRET.out HTK.out
            · have a0 : decide ((97 : Int) ≤ (c.toNat : Int)) = true := decide_eq_true (by omega)
              have a1 : decide ((c.toNat : Int) ≤ 122) = false := decide_eq_false (by omega)
              have a2 : decide ((65 : Int) ≤ (c.toNat : Int)) = true := decide_eq_true (by omega)
              have a3 : decide ((c.toNat : Int) ≤ 90) = false := decide_eq_false (by omega)
              have a4 : decide ((c.toNat : Int) < 48) = false := decide_eq_false (by omega)
              have a5 : decide ((57 : Int) < (c.toNat : Int)) = true := decide_eq_true (by omega)
              clear hq
              cases sg with
              | true =>
                have HTK := Lib.hid (HTT.out rfl)
                go_wp2_with (go_at_call 25; refine (hby _).mono ?_; rintro e w1 ⟨rfl, rfl⟩)
                go_roundg (gk - 1)
                case measure => exact hmeas
                case rel => exact HNEXT.out HTK.out _ HP.out kr
              | false =>
                have HTK := Lib.hid (HGO.out rfl)
                go_wp2_with (go_at_call 25; refine (hby _).mono ?_; rintro e w1 ⟨rfl, rfl⟩)
                go_ret
                exact HRET.out HTK.out
end Go.Proofs.YtjbbapodcngnaaaGreatDoor
namespace Go.Proofs.YtjbbapodcngnaaaGreatDoor
open Go.RowKit Hdr

/-- What key9 leaves. -/
def K9Post (t : List UInt8) (w : World) (e : Ending) (w' : World) : Prop :=
  e = .returned (.tuple #[str (if t.all keyb = true then canon t else []), .bool (t.all keyb)]) ∧ Keeps No w w'

set_option maxRecDepth 100000 in
set_option maxHeartbeats 2000000 in
theorem key9_any (l : List UInt8) (w : World) (hlen : l.length ≤ 100000000000) :
    Calls Tryz.prog 69 #[str l] w (K9Post (trim l) w) := by
  have htl := trim_len l
  have H9 := trim9_any l w hlen
  unfold T9Post at H9
  generalize trim l = t at *
  have H := Lib.hid H9
  clear H9
  go_enter Tryz.func69, Tryz.ntmps69
  go_wp2_with (fail)
  refine H.out.mono ?_
  rintro e w1 ⟨rfl, rfl⟩
  go_wp2
  go_loopg [9] t.length (fun n s9 wr => ∃ j : Nat, s9 = .int .i64 j ∧ j + n = t.length ∧ (t.take j).all keyb = true ∧ w1 = wr)
  case atStart => exact ⟨0, rfl, by omega, rfl, rfl⟩
  case round =>
    obtain ⟨j, rfl, hjn, hjc, rfl⟩ := hrel
    have HJC := Lib.hid hjc
    have HJN := Lib.hid hjn
    have hjl : j ≤ t.length := by omega
    clear hjc hjn
    by_cases hj : j < t.length
    · have hx := str_get t j hj
      have htk : t.take (j + 1) = t.take j ++ [t[j]] := List.take_succ_eq_append_getElem hj
      have hmem : t[j] ∈ t := List.getElem_mem _
      generalize t[j] = x at *
      have HTK := Lib.hid htk
      have hjj : (j : Int) < (t.length : Int) := by omega
      have hm : x.toNat < 256 := x.toNat_lt
      clear htk
      by_cases hk : keyN x.toNat
      · have a1 : decide ((x.toNat : Int) ≤ 32) = false := decide_eq_false (by have := hk.1; omega)
        have a2 : decide ((126 : Int) < (x.toNat : Int)) = false := decide_eq_false (by have := hk.2.1; omega)
        have a3 : ((x.toNat : Int) == 58) = false := by have := hk.2.2; simp; omega
        have HK := Lib.hid hk
        clear hk
        go_wp2
        go_roundg (gk - 1)
        case measure => have := HJN.out; omega
        case rel =>
          refine ⟨j + 1, by simp, by have := HJN.out; omega, ?_, rfl⟩
          rw [HTK.out, List.all_append, HJC.out]
          simp [keyb, HK.out]
      · have hall : t.all keyb = false := by
          cases h : t.all keyb with
          | false => rfl
          | true =>
            rw [List.all_eq_true] at h
            exact absurd (of_decide_eq_true (h x hmem)) hk
        have HALL := Lib.hid hall
        have hc : x.toNat ≤ 32 ∨ (33 ≤ x.toNat ∧ 126 < x.toNat) ∨ (33 ≤ x.toNat ∧ x.toNat ≤ 126 ∧ x.toNat = 58) := by unfold keyN at hk; omega
        clear hk hall
        rcases hc with hq | hq | hq
        · have a1 : decide ((x.toNat : Int) ≤ 32) = true := decide_eq_true (by omega)
          clear hq
          go_wp2
          go_ret2
          exact ⟨by rw [HALL.out]; rfl, Keeps.refl _ _⟩
        · have a1 : decide ((x.toNat : Int) ≤ 32) = false := decide_eq_false (by omega)
          have a2 : decide ((126 : Int) < (x.toNat : Int)) = true := decide_eq_true (by omega)
          clear hq
          go_wp2
          go_ret2
          exact ⟨by rw [HALL.out]; rfl, Keeps.refl _ _⟩
        · have a1 : decide ((x.toNat : Int) ≤ 32) = false := decide_eq_false (by omega)
          have a2 : decide ((126 : Int) < (x.toNat : Int)) = false := decide_eq_false (by omega)
          have a3 : ((x.toNat : Int) == 58) = true := by rw [hq.2.2]; rfl
          clear hq
          go_wp2
          go_ret2
          exact ⟨by rw [HALL.out]; rfl, Keeps.refl _ _⟩
    · have hjl2 : j = t.length := by omega
      have hall : t.all keyb = true := by have := HJC.out; rwa [hjl2, List.take_length] at this
      have e1 : decide (j < t.length) = false := decide_eq_false hj
      have HALL := Lib.hid hall
      clear hall hjl2
      go_wp2_with (fail)
      refine (canonical9_any t _ (by omega)).mono ?_
      rintro e w2 ⟨rfl, K⟩
      go_wp2
      go_ret2
      exact ⟨by rw [HALL.out]; rfl, K⟩
end Go.Proofs.YtjbbapodcngnaaaGreatDoor
namespace Go.Proofs.YtjbbapodcngnaaaGreatDoor
open Go.RowKit Hdr

/-- A row of strings in block g. -/
def Strs (w : World) (g : Nat) (ls : List (List UInt8)) : Prop := ∃ cs f, w.heap[g]? = some (.cells cs 9 f) ∧ cs.toList.take ls.length = ls.map str
theorem Strs.lt {w : World} {g : Nat} {ls : List (List UInt8)} (h : Strs w g ls) : g < w.heap.size := by
  obtain ⟨cs, f, h, _⟩ := h
  exact (Array.getElem?_eq_some_iff.1 h).1
theorem Strs.keep {S : Nat → Prop} {w w' : World} {g : Nat} {ls : List (List UInt8)} (h : Strs w g ls) (k : Keeps S w w') (hS : ¬ S g) : Strs w' g ls := by
  have hl := h.lt
  obtain ⟨cs, f, h, h2⟩ := h
  exact ⟨cs, f, (k.block g hl hS).trans h, h2⟩
theorem Strs.cell {w : World} {g : Nat} {ls : List (List UInt8)} (h : Strs w g ls) {i : Nat} (hi : i < ls.length) : w.cell? ⟨g, i, none⟩ = some (str ls[i]) := by
  obtain ⟨cs, f, h, h2⟩ := h
  have h3 : (cs.toList.take ls.length)[i]? = some (str ls[i]) := by rw [h2]; simp [hi]
  rw [List.getElem?_take, if_pos hi] at h3
  simp only [World.cell?, h]
  simpa using h3

theorem str_app (a b : List UInt8) : (⟨a.toArray⟩ : ByteArray) ++ ⟨b.toArray⟩ = ⟨(a ++ b).toArray⟩ := by
  apply ByteArray.ext
  simp [ByteArray.data_append]

/-- A field out of its block. -/
theorem load_f9 (w : World) (g : Nat) (x y z u : Value) (h : Blk w g [x, y, z, u] 63) : (loadVar 63 ⟨g, 0, none⟩).run Tryz.prog w = .ok (.agg #[x, y, z, u]) w :=
  run_loadVar_row w g 63 63 #[x, y, z, u] (0, 0) _ h Tryz.underlying63 rfl (by kernel_rfl)

/-- What fieldOf9 leaves: a struct and a Bool. -/
def F9Post (l0 : List UInt8) (ls : List (List UInt8)) (w : World) (e : Ending) (w' : World) : Prop :=
  (if (tillC l0).length = l0.length then e = .returned (.tuple #[.agg #[str [], str [], str [], .bool false], .bool false])
   else e = .returned (.tuple #[.agg #[str (if (trim (tillC l0)).all keyb = true then canon (trim (tillC l0)) else []), str (vals [] (l0.drop ((tillC l0).length + 1) :: ls)), str (raws (l0 :: ls)), .bool true], .bool ((trim (tillC l0)).all keyb)])) ∧ Keeps No w w'

set_option maxRecDepth 100000 in
set_option maxHeartbeats 1000000 in
theorem fieldOf9_any (g cap : Nat) (l0 : List UInt8) (ls : List (List UInt8)) (n : Nat) (hn : n = ls.length + 1) (w : World) (h : Strs w g (l0 :: ls)) (hlen : (raws (l0 :: ls)).length ≤ 10000000000) (hnn : n ≤ 10000000000) :
    Calls Tryz.prog 48 #[.slice (some ⟨g, 0, none⟩) n cap] w (F9Post l0 ls w) := by
  have H := Lib.hid h
  have HN := Lib.hid hn
  have hl0 : l0.length ≤ 10000000000 := by unfold raws at hlen; simp at hlen; omega
  have hpos : 0 < n := by omega
  have hposi : (0 : Int) < (n : Int) := by omega
  have hgl := h.lt
  have c0 := (h.keep ((Keeps.refl No w).alloc (.cells #[.string ⟨#[]⟩, .string ⟨#[]⟩, .string ⟨#[]⟩, .bool false] 63)) (fun h => h)).cell (i := 0) (by simp)
  simp only [List.getElem_cons_zero] at c0
  have hll := str_len l0
  clear h hn
  go_enter Tryz.func48, Tryz.ntmps48
  go_upto_block 0 with (fail)
  have hB0 := Blk.new w [.string ⟨#[]⟩, .string ⟨#[]⟩, .string ⟨#[]⟩, .bool false] 63
  have K0 : Keeps No w (w.alloc (.cells #[.string ⟨#[]⟩, .string ⟨#[]⟩, .string ⟨#[]⟩, .bool false] 63)) := (Keeps.refl No w).alloc _
  change Code.wp _ _ _ _ _ at *
  generalize (w.alloc (.cells #[.string ⟨#[]⟩, .string ⟨#[]⟩, .string ⟨#[]⟩, .bool false] 63)) = w1 at *
  go_cut [4] (fun s4 wx => s4 = .int .i64 (tillC l0).length ∧ w1 = wx)
  case first =>
    go_wp2
    go_loopg [4] l0.length (fun n s4 wr => ∃ j : Nat, s4 = .int .i64 j ∧ j + n = l0.length ∧ (58 : UInt8) ∉ l0.take j ∧ w1 = wr)
    case atStart => exact ⟨0, rfl, by omega, by simp, rfl⟩
    case round =>
      obtain ⟨j, rfl, hjn, hjc, rfl⟩ := hrel
      have HJC := Lib.hid hjc
      have HJN := Lib.hid hjn
      have hjl : j ≤ l0.length := by omega
      clear hjc hjn
      by_cases hj : j < l0.length
      · have hx := str_get l0 j hj
        have hat := tillC_at hj HJC.out
        generalize l0[j] = x at *
        have HAT := Lib.hid hat
        have hjj : (j : Int) < (l0.length : Int) := by omega
        clear hat
        by_cases hxc : x = 58
        · have e1 : ((x.toNat : Int) == 58) = true := by rw [hxc]; rfl
          have HXC := Lib.hid hxc
          clear hxc
          go_wp2
          go_meet
          exact ⟨by rw [HAT.out.2 HXC.out], rfl⟩
        · have e1 : ((x.toNat : Int) == 58) = false := by
            simp only [beq_eq_false_iff_ne, ne_eq]
            intro h
            exact hxc (UInt8.toNat.inj (by show x.toNat = 58; omega))
          have HXC := Lib.hid hxc
          clear hxc
          go_wp2
          go_roundg (gk - 1)
          case measure => have := HJN.out; omega
          case rel => exact ⟨j + 1, by simp, by have := HJN.out; omega, HAT.out.1 HXC.out, rfl⟩
      · have hjl2 : j = l0.length := by omega
        have hah : (tillC l0).length = j := by
          have := HJC.out
          rw [hjl2, List.take_length] at this
          rw [tillC_none this, hjl2]
        have e1 : decide (j < l0.length) = false := decide_eq_false hj
        have e1' : decide ((j : Int) < (l0.length : Int)) = false := decide_eq_false (by omega)
        have HAH := Lib.hid hah
        clear hah hjl2
        go_wp2
        go_meet
        exact ⟨by rw [HAH.out], rfl⟩
  case rest =>
    obtain ⟨rfl, rfl⟩ := hcut
    have fz := hB0.frozen
    have d0 : w1.cell? ⟨w.heap.size, 0, none⟩ = some (.string ⟨#[]⟩) := hB0.cell 0
    have d1 : w1.cell? ⟨w.heap.size, 1, none⟩ = some (.string ⟨#[]⟩) := hB0.cell 1
    have d2 : w1.cell? ⟨w.heap.size, 2, none⟩ = some (.string ⟨#[]⟩) := hB0.cell 2
    have d3 : w1.cell? ⟨w.heap.size, 3, none⟩ = some (.bool false) := hB0.cell 3
    have HB0 := Lib.hid hB0
    have hal := tillC_len l0
    clear hB0
    by_cases hat : (tillC l0).length = l0.length
    · have HAT := Lib.hid hat
      rw [hat]
      clear hat
      go_wp2
      have hH7 := ((((HB0.out.set 0 (.string ⟨#[]⟩)).set 1 (.string ⟨#[]⟩)).set 2 (.string ⟨#[]⟩)).set 3 (.bool false))
      refine bodyPost_ret (results_row_tmp rfl _ _ w.heap.size _ rfl (load_f9 _ _ _ _ _ _ hH7)) rfl ?_
      refine ⟨by rw [if_pos HAT.out]; rfl, ?_⟩
      refine (((((K0.of_no (T := In [w.heap.size])).setCell (.inl (by simp [In])) _).setCell (.inl (by simp [In])) _).setCell (.inl (by simp [In])) _).setCell (.inl (by simp [In])) _).mono (fun i hi h => by simp [In] at h; omega)
    · have hlt : (tillC l0).length < l0.length := by omega
      have htake := tillC_take l0
      have hcut1 := str_cut l0 0 (tillC l0).length
      rw [List.drop_zero, Nat.sub_zero, htake] at hcut1
      have hcut2 := str_cut l0 ((tillC l0).length + 1) l0.length
      have htl : (l0.drop ((tillC l0).length + 1)).take (l0.length - ((tillC l0).length + 1)) = l0.drop ((tillC l0).length + 1) := List.take_of_length_le (by simp)
      rw [htl] at hcut2
      have HAT := Lib.hid hat
      have e1 : (((tillC l0).length : Int) == (l0.length : Int)) = false := by simp; omega
      have e1' : ((tillC l0).length == l0.length) = false := by simp; omega
      have e2 : ((tillC l0).length : Int) ≤ (l0.length : Int) := by omega
      have e3 : (0 : Int) ≤ ((tillC l0).length : Int) := by omega
      have H9 := key9_any (tillC l0) w1 (by omega)
      generalize hTT : trim (tillC l0) = T at *
      have HTT := Lib.hid hTT
      clear hTT
      have HK := Lib.hid H9
      have HC2 := Lib.hid hcut2
      clear H9 hat htake htl hcut2
      go_wp2_with (fail)
      refine HK.out.mono ?_
      rintro e w2 ⟨rfl, K2⟩
      generalize hkk : (if T.all keyb = true then canon T else []) = kk
      generalize hok : T.all keyb = ok
      have HKK := Lib.hid hkk
      have HOK := Lib.hid hok
      have hB2 := HB0.out.keep_no K2
      have fz2 := hB2.frozen
      have d20 : w2.cell? ⟨w.heap.size, 0, none⟩ = some (.string ⟨#[]⟩) := hB2.cell 0
      have HB2 := Lib.hid hB2
      have hH2 := Lib.hid ((H.out.keep K0 (fun h => h)).keep K2 (fun h => h))
      clear hkk hok hB2 fz d0 d1 d2 d3 HK c0
      have K02 : Keeps No w w2 := K0.trans' K2
      generalize hA : (tillC l0).length = at_ at *
      have HA := Lib.hid hA
      clear hA
      go_wp2
      go_loopg [42] n (fun q s42 wr => ∃ j : Nat, s42 = .int .i64 j ∧ j + q = n ∧ Blk wr w.heap.size [str kk, str (vals [] ((l0.drop (at_ + 1) :: ls).take j)), str (raws ((l0 :: ls).take j)), .bool false] 63 ∧ Strs wr g (l0 :: ls) ∧ Keeps (Up w.heap.size []) w wr)
      case atStart =>
        refine ⟨0, rfl, by omega, (HB2.out.set 0 (str kk)).to rfl, hH2.out.keep (((Keeps.refl (In [w.heap.size]) w2).setCell (.inl (by simp [In])) _)) (fun h => by simp [In] at h; omega), (K02.of_no).setCell (.inr (Nat.le_refl _)) _⟩
      case round =>
        obtain ⟨j, rfl, hjn, hB, hS, K⟩ := hrel
        have HJN := Lib.hid hjn
        have hj0 : j ≤ n := by omega
        have HB := Lib.hid hB
        have HS := Lib.hid hS
        clear hjn hB hS
        by_cases hj : j < n
        · have hjl : j < (l0 :: ls).length := by have := HN.out; simp; omega
          have hc1 := HS.out.cell hjl
          have fz3 := HB.out.frozen
          have d0 : wr.cell? ⟨w.heap.size, 1, none⟩ = some (str (vals [] ((l0.drop (at_ + 1) :: ls).take j))) := HB.out.cell 1
          have d2 : wr.cell? ⟨w.heap.size, 2, none⟩ = some (str (raws ((l0 :: ls).take j))) := HB.out.cell 2
          have hjj : (j : Int) < (n : Int) := by omega
          have e9 : decide ((j : Int) < (n : Int)) = true := decide_eq_true hjj
          have hrt := raws_take (l0 :: ls) j hjl
          have hrl := raws_le (l0 :: ls) (j + 1)
          rw [hrt] at hrl
          simp only [List.length_append, List.length_cons, List.length_nil, Nat.zero_add, Nat.reduceAdd] at hrl
          have hbd : (raws ((l0 :: ls).take j)).length + ((l0 :: ls)[j].length + 2) ≤ 10000000000 := by
            have : (raws (l0 :: ls)).length ≤ 10000000000 := hlen
            omega
          have HRT := Lib.hid hrt
          clear hrt hrl
          generalize hR : (l0 :: ls)[j] = R at *
          have HR := Lib.hid hR
          clear hR
          have happ1 := str_app R [13, 10]
          generalize hraw : raws ((l0 :: ls).take j) = rw_ at *
          generalize hval : vals [] ((l0.drop (at_ + 1) :: ls).take j) = vl_ at *
          have happ2 := str_app rw_ (R ++ [13, 10])
          go_upto_if 56 with (fail)
          have hjs : j < (l0.drop (at_ + 1) :: ls).length := by simpa using hjl
          have hvt : vals [] ((l0.drop (at_ + 1) :: ls).take (j + 1)) = vals1 (vals [] ((l0.drop (at_ + 1) :: ls).take j)) ((l0.drop (at_ + 1) :: ls)[j]) := by
            rw [List.take_succ_eq_append_getElem hjs]
            unfold vals
            rw [List.foldl_append]
            rfl
          have hS0 : j = 0 → R = l0 ∧ (l0.drop (at_ + 1) :: ls)[j] = l0.drop (at_ + 1) := fun h => by
            subst h
            exact ⟨HR.out.symm, rfl⟩
          have hS1 : j ≠ 0 → (l0.drop (at_ + 1) :: ls)[j] = R := fun h => by
            have := HR.out
            cases j with
            | zero => exact absurd rfl h
            | succ j => simpa using this
          have hvll : vl_.length ≤ 20000000000 := by
            rw [← hval]
            have h1 := vals_len ((l0.drop (at_ + 1) :: ls).take j) []
            have h2 := raws_le (l0.drop (at_ + 1) :: ls) j
            have h3 : (raws (l0.drop (at_ + 1) :: ls)).length ≤ (raws (l0 :: ls)).length := by simp [raws]
            have h4 : (raws (l0 :: ls)).length ≤ 10000000000 := hlen
            simp only [List.length_nil] at h1
            omega
          have HVL := Lib.hid hvll
          clear hvll
          rw [hval] at hvt
          generalize (l0.drop (at_ + 1) :: ls)[j] = Sj at *
          have HVT := Lib.hid hvt
          have HS0 := Lib.hid hS0
          have HS1 := Lib.hid hS1
          clear hvt hS0 hS1 happ1 happ2 hraw hval
          go_cut [6] (fun s6 wx => s6 = str Sj ∧ wx = wr.setCell ⟨w.heap.size, 2, none⟩ (str (rw_ ++ (R ++ [13, 10]))))
          case first =>
            by_cases hj00 : j = 0
            · obtain ⟨hRl, hSl⟩ := HS0.out hj00
              subst hj00
              subst hRl
              have b1 : IntKind.i64.wrap ((at_ : Int) + 1) = (at_ : Int) + 1 := by rw [IntKind.wrap_i64]; omega
              have b2 : (at_ : Int) + 1 ≤ (R.length : Int) := by omega
              have b3 : (0 : Int) ≤ (at_ : Int) + 1 := by omega
              have HSL := Lib.hid hSl
              have hc2 := HC2.out
              clear hSl
              go_wp2
              go_meet
              exact ⟨by rw [HSL.out], rfl⟩
            · have b1 : ((j : Int) == 0) = false := by simp; omega
              have HJ0 := Lib.hid hj00
              clear hj00
              go_wp2
              go_meet
              exact ⟨by rw [HS1.out HJ0.out], rfl⟩
          case rest =>
            obtain ⟨rfl, rfl⟩ := hcut
            have hSl : Sj.length ≤ 10000000000 := by
              by_cases h : j = 0
              · obtain ⟨h1, h2⟩ := HS0.out h
                rw [h2, ← h1]
                simp
                omega
              · rw [HS1.out h]; omega
            have hvl : vl_.length ≤ 20000000000 := HVL.out
            have hB3 := (HB.out.set 2 (str (rw_ ++ (R ++ [13, 10]))))
            have K3 : Keeps (Up w.heap.size []) w (wr.setCell ⟨w.heap.size, 2, none⟩ (str (rw_ ++ (R ++ [13, 10])))) := K.setCell (.inr (Nat.le_refl _)) _
            go_wp2_with (fail)
            refine (trim9_any Sj _ (by omega)).mono ?_
            rintro e w4 ⟨rfl, rfl⟩
            have htl := trim_len Sj
            have hv1 : vals1 vl_ Sj = if trim Sj = [] then vl_ else if vl_ = [] then trim Sj else vl_ ++ 32 :: trim Sj := rfl
            have HV1 := Lib.hid (HVT.out.trans hv1)
            have HRT2 := Lib.hid HRT.out
            generalize trim Sj = tS at *
            clear hv1 HVT HS0 HS1
            by_cases ht0 : tS = []
            · have hemp : tS.isEmpty = true := by rw [ht0]; rfl
              have HT0 := Lib.hid ht0
              clear ht0
              go_wp2
              go_roundg (gk - 1)
              case measure => have := HJN.out; omega
              case rel =>
                refine ⟨j + 1, by simp, by have := HJN.out; omega, hB3.to ?_, HS.out.keep ((Keeps.refl (In [w.heap.size]) wr).setCell (.inl (by simp [In])) _) (fun h => by simp [In] at h; omega), K3⟩
                rw [HV1.out, if_pos HT0.out, HRT2.out]
                rfl
            · have hemp : tS.isEmpty = false := by cases tS with | nil => exact absurd rfl ht0 | cons _ _ => rfl
              have HT0 := Lib.hid ht0
              have fz4 := hB3.frozen
              have d1' : (wr.setCell ⟨w.heap.size, 2, none⟩ (str (rw_ ++ (R ++ [13, 10])))).cell? ⟨w.heap.size, 1, none⟩ = some (str vl_) := hB3.cell 1
              clear ht0
              by_cases hv0 : vl_ = []
              · have hem2 : vl_.isEmpty = true := by rw [hv0]; rfl
                have happ := str_app vl_ tS
                have hle2 : vl_.length + tS.length ≤ 40000000000 := by omega
                have HV0 := Lib.hid hv0
                clear hv0
                go_wp2
                go_roundg (gk - 1)
                case measure => have := HJN.out; omega
                case rel =>
                  refine ⟨j + 1, by simp, by have := HJN.out; omega, (hB3.set 1 (str (vl_ ++ tS))).to ?_, (HS.out.keep ((Keeps.refl (In [w.heap.size]) wr).setCell (.inl (by simp [In])) _) (fun h => by simp [In] at h; omega)).keep ((Keeps.refl (In [w.heap.size]) _).setCell (.inl (by simp [In])) _) (fun h => by simp [In] at h; omega), K3.setCell (.inr (Nat.le_refl _)) _⟩
                  rw [HV1.out, if_neg HT0.out, if_pos HV0.out, HRT2.out, HV0.out]
                  rfl
              · have hem2 : vl_.isEmpty = false := by cases vl_ with | nil => exact absurd rfl hv0 | cons _ _ => rfl
                have happ := str_app vl_ [32]
                have happ2 := str_app (vl_ ++ [32]) tS
                have hle2 : vl_.length + 1 ≤ 40000000000 := by omega
                have hle3 : (vl_ ++ [32]).length + tS.length ≤ 60000000000 := by simp; omega
                have HV0 := Lib.hid hv0
                clear hv0
                go_wp2
                go_roundg (gk - 1)
                case measure => have := HJN.out; omega
                case rel =>
                  have kk1 : ∀ W i v, Strs W g (l0 :: ls) → Strs (W.setCell ⟨w.heap.size, i, none⟩ v) g (l0 :: ls) := fun W i v h => h.keep ((Keeps.refl (In [w.heap.size]) W).setCell (.inl (by simp [In])) _) (fun h => by simp [In] at h; omega)
                  refine ⟨j + 1, by simp, by have := HJN.out; omega, ((hB3.set 1 (str (vl_ ++ [32]))).set 1 (str (vl_ ++ 32 :: tS))).to ?_, kk1 _ _ _ (kk1 _ _ _ (kk1 _ _ _ HS.out)), (K3.setCell (.inr (Nat.le_refl _)) _).setCell (.inr (Nat.le_refl _)) _⟩
                  rw [HV1.out, if_neg HT0.out, if_neg HV0.out, HRT2.out]
                  rfl
        · have hjn2 : j = n := by omega
          have hlen2 : j = (l0 :: ls).length := by rw [hjn2, HN.out]; rfl
          have e9 : decide ((j : Int) < (n : Int)) = false := decide_eq_false (by omega)
          have e9' : decide (j < n) = false := decide_eq_false hj
          have fz3 := HB.out.frozen
          have hB5 := HB.out
          rw [show (l0.drop (at_ + 1) :: ls).take j = l0.drop (at_ + 1) :: ls from List.take_of_length_le (by simp at hlen2 ⊢; omega), show (l0 :: ls).take j = l0 :: ls from List.take_of_length_le (by omega)] at hB5
          have d0 : wr.cell? ⟨w.heap.size, 0, none⟩ = some (str kk) := hB5.cell 0
          have d1 : wr.cell? ⟨w.heap.size, 1, none⟩ = some (str (vals [] (l0.drop (at_ + 1) :: ls))) := hB5.cell 1
          have d2 : wr.cell? ⟨w.heap.size, 2, none⟩ = some (str (raws (l0 :: ls))) := hB5.cell 2
          have d3 : wr.cell? ⟨w.heap.size, 3, none⟩ = some (.bool false) := hB5.cell 3
          have HB5 := Lib.hid hB5
          clear hB5 hjn2 hlen2
          go_wp2
          have hH7 := (((((HB5.out.set 3 (.bool true)).set 0 (str kk)).set 1 (str (vals [] (l0.drop (at_ + 1) :: ls)))).set 2 (str (raws (l0 :: ls)))).set 3 (.bool true))
          refine bodyPost_ret (results_row_tmp rfl _ _ w.heap.size _ rfl (load_f9 _ _ _ _ _ _ hH7)) rfl ?_
          have kk1 : ∀ W i v, Keeps (Up w.heap.size []) w W → Keeps (Up w.heap.size []) w (W.setCell ⟨w.heap.size, i, none⟩ v) := fun W i v h => h.setCell (.inr (Nat.le_refl _)) v
          refine ⟨?_, ((kk1 _ _ _ (kk1 _ _ _ (kk1 _ _ _ (kk1 _ _ _ (kk1 _ _ _ K))))).down (Nat.le_refl _)).mono (fun _ _ h => by cases h)⟩
          have hA := HA.out
          subst hA
          rw [if_neg HAT.out, HTT.out, HKK.out, HOK.out]
          rfl
end Go.Proofs.YtjbbapodcngnaaaGreatDoor
namespace Go.Proofs.YtjbbapodcngnaaaGreatDoor
open Go.RowKit Hdr

/-- Fields of the specification as cells. -/
def f9s (l : List PF) : List Value := l.flatMap fun p => [str p.k, str p.v, str p.raw, .bool true]
theorem f9s_length (l : List PF) : (f9s l).length = l.length * 4 := by
  induction l with
  | nil => rfl
  | cons p l ih => simp [f9s] at *; omega
theorem f9s_append (l m : List PF) : f9s (l ++ m) = f9s l ++ f9s m := by simp [f9s]
theorem info_f9 : (Tryz.prog.info? 63).map (fun i => (i.zero, i.size, i.bytes)) = some (some (.agg #[.string ⟨#[]⟩, .string ⟨#[]⟩, .string ⟨#[]⟩, .bool false]), 4, 56) := by kernel_rfl

/-- The variables that the closure shares. -/
structure Hp (w : World) (base a b c : Nat) (s : HS) : Prop where
  ha : a < base
  hb : b < base
  hc : c < base
  L : ∃ v, Blk w a [v] 88 ∧ w.ownsRow base 9 1 v s.ls.length (s.ls.map str)
  B : Blk w b [.bool s.bad] 4
  F : ∃ v, Blk w c [v] 58 ∧ w.ownsRow base 63 4 v s.fs.length (f9s s.fs)

theorem ownsRow_keep {S : Nat → Prop} {w w' : World} {base : Nat} {e : TypeId} {size n : Nat} {v : Value} {xs : List Value} (h : w.ownsRow base e size v n xs) (k : Keeps S w w') (hS : ∀ b, v.ownBlock = some b → ¬ S b) : w'.ownsRow base e size v n xs := by
  obtain ⟨h1, h2⟩ := h
  refine ⟨h1, ?_⟩
  rcases h2 with h2 | ⟨g, cap, cur, rfl, hb, hg, h3⟩
  · exact .inl h2
  · exact .inr ⟨g, cap, cur, rfl, hb, (k.block g (Array.getElem?_eq_some_iff.1 hg).1 (hS g rfl)).trans hg, h3⟩
theorem ownsRow_shape {w : World} {base : Nat} {e : TypeId} {size n : Nat} {v : Value} {xs : List Value} (h : w.ownsRow base e size v n xs) : ∃ a cap, v = .slice a n cap := by
  rcases h.2 with ⟨h1, h2⟩ | ⟨g, cap, cur, rfl, _⟩
  · exact ⟨none, 0, by rw [h1, h2]⟩
  · exact ⟨_, _, rfl⟩

theorem strs_of_row {w : World} {base g cap : Nat} {ls : List (List UInt8)} {n : Nat} (h : w.ownsRow base 9 1 (.slice (some ⟨g, 0, none⟩) n cap) ls.length (ls.map str)) : Strs w g ls := by
  obtain ⟨_, h2⟩ := h
  rcases h2 with ⟨h2, _⟩ | ⟨g', cap', cur, h2, hb, hg, _, _, _, ht⟩
  · cases h2
  · injection h2 with h2 _ _
    injection h2 with h2
    injection h2 with h2
    subst h2
    exact ⟨cur, (0, 0), hg, by simpa using ht⟩

theorem f9_open {l0 : List UInt8} {ls : List (List UInt8)} {w w' : World} {e : Ending} (h : F9Post l0 ls w e w') : ∃ (k v raw : List UInt8) (has : Bool), e = .returned (.tuple #[.agg #[str k, str v, str raw, .bool has], .bool (okOf l0)]) ∧ Keeps No w w' ∧
    (okOf l0 = true → k = canon (trim (tillC l0)) ∧ v = vals [] (l0.drop ((tillC l0).length + 1) :: ls) ∧ raw = raws (l0 :: ls) ∧ has = true) := by
  obtain ⟨h, K⟩ := h
  by_cases hat : (tillC l0).length = l0.length
  · rw [if_pos hat] at h
    have : okOf l0 = false := by unfold okOf; rw [decide_eq_true hat]; rfl
    exact ⟨[], [], [], false, by rw [this]; exact h, K, fun h2 => by rw [this] at h2; cases h2⟩
  · rw [if_neg hat] at h
    have hok : okOf l0 = (trim (tillC l0)).all keyb := by unfold okOf; rw [decide_eq_false hat]; rfl
    refine ⟨_, _, _, _, by rw [hok]; exact h, K, fun h2 => ?_⟩
    rw [hok] at h2
    rw [if_pos h2]
    exact ⟨rfl, rfl, rfl, rfl⟩

/-- What the closure leaves. -/
def PutPost (base a b c : Nat) (s : HS) (w : World) (e : Ending) (w' : World) : Prop :=
  e = .returned (.tuple #[]) ∧ Hp w' base a b c (put9 s) ∧ Keeps (Up base [a, b, c]) w w'

set_option maxRecDepth 100000 in
set_option maxHeartbeats 2000000 in
theorem put_any (base a b c : Nat) (s : HS) (w : World) (h : Hp w base a b c s) (hsz : base ≤ w.heap.size) (hab : a ≠ b) (hac : a ≠ c) (hbc : b ≠ c) (hraw : (raws s.ls).length ≤ 10000000000) (hls : s.ls.length ≤ 10000000000) (hfs : s.fs.length ≤ 10000000000) :
    Calls Tryz.prog 47 #[.pointer (some ⟨a, 0, none⟩), .pointer (some ⟨b, 0, none⟩), .pointer (some ⟨c, 0, none⟩)] w (PutPost base a b c s w) := by
  obtain ⟨ls, bad, fs⟩ := s
  obtain ⟨ha, hb, hc, ⟨vl, hL, hLo⟩, hB, ⟨vf, hF, hFo⟩⟩ := h
  simp only at *
  obtain ⟨la, lcap, rfl⟩ := ownsRow_shape hLo
  obtain ⟨fa, fcap, rfl⟩ := ownsRow_shape hFo
  have cL : w.cell? ⟨a, 0, none⟩ = some (.slice la ls.length lcap) := hL.cell 0
  have cB : w.cell? ⟨b, 0, none⟩ = some (.bool bad) := hB.cell 0
  have cF : w.cell? ⟨c, 0, none⟩ = some (.slice fa fs.length fcap) := hF.cell 0
  have HL := Lib.hid hL
  have HB := Lib.hid hB
  have HF := Lib.hid hF
  have HLO := Lib.hid hLo
  have HFO := Lib.hid hFo
  clear hL hB hF hLo hFo
  cases ls with
  | nil =>
    go_enter Tryz.func47, Tryz.ntmps47
    go_wp2
    go_end0
    exact ⟨rfl, ⟨ha, hb, hc, ⟨_, HL.out, HLO.out⟩, HB.out, ⟨_, HF.out, HFO.out⟩⟩, Keeps.refl _ _⟩
  | cons l0 ls =>
    obtain ⟨g, rfl⟩ : ∃ g, la = some ⟨g, 0, none⟩ := by
      rcases HLO.out.2 with ⟨h1, h2⟩ | ⟨g, cap', cur, h1, _⟩
      · simp at h2
      · injection h1 with h1 _ _
        exact ⟨g, h1⟩
    have hgb : base ≤ g ∧ g < w.heap.size := HLO.out.lt g rfl
    have hS := strs_of_row HLO.out
    have H9 := fieldOf9_any g lcap l0 ls (ls.length + 1) rfl w hS hraw (by simpa using hls)
    have HH9 := Lib.hid H9
    have e0 : (((ls.length + 1 : Nat) : Int) == 0) = false := by simp; omega
    clear H9 hS
    go_enter Tryz.func47, Tryz.ntmps47
    go_wp2_with (fail)
    refine HH9.out.mono ?_
    rintro e w1 hpost
    obtain ⟨k, v, raw, has, rfl, K1, hres⟩ := f9_open hpost
    clear hpost
    have hB1 := HB.out.keep_no K1
    have hL1 := HL.out.keep_no K1
    have hF1 := HF.out.keep_no K1
    have f1 := hL1.frozen
    have f2 := hB1.frozen
    have f3 := hF1.frozen
    have d1 : w1.cell? ⟨a, 0, none⟩ = some (.slice (some ⟨g, 0, none⟩) (ls.length + 1) lcap) := hL1.cell 0
    have d2 : w1.cell? ⟨b, 0, none⟩ = some (.bool bad) := hB1.cell 0
    have d3 : w1.cell? ⟨c, 0, none⟩ = some (.slice fa fs.length fcap) := hF1.cell 0
    have hFO1 := ownsRow_keep HFO.out K1 (fun _ _ h => h)
    have HL1 := Lib.hid hL1
    have HB1 := Lib.hid hB1
    have HF1 := Lib.hid hF1
    have HFO1 := Lib.hid hFO1
    have HRES := Lib.hid hres
    clear hB1 hL1 hF1 hFO1 hres cL cB cF
    have ha1 : a < w1.heap.size := HL1.out.lt
    have hb1 : b < w1.heap.size := HB1.out.lt
    have hc1 : c < w1.heap.size := HF1.out.lt
    have hsz1 := K1.size
    generalize hok : okOf l0 = ok at *
    have HOK := Lib.hid hok
    clear hok
    have hkAB : ∀ x y, Keeps (In [a, b]) w1 ((w1.setCell ⟨a, 0, none⟩ x).setCell ⟨b, 0, none⟩ y) := fun x y => ((Keeps.refl _ w1).setCell (.inl (by simp [In])) _).setCell (.inl (by simp [In])) _
    have hLa : ∀ y, Blk ((w1.setCell ⟨a, 0, none⟩ (.slice none 0 0)).setCell ⟨b, 0, none⟩ y) a [.slice none 0 0] 88 := fun y => ((HL1.out.set 0 (.slice none 0 0)).to rfl).set_other (p := ⟨b, 0, none⟩) (Ne.symm hab) y
    have hBb : ∀ x y, Blk ((w1.setCell ⟨a, 0, none⟩ x).setCell ⟨b, 0, none⟩ y) b [y] 4 := fun x y => ((HB1.out.set_other (p := ⟨a, 0, none⟩) hab x).set 0 y).to rfl
    have hFc : ∀ x y, Blk ((w1.setCell ⟨a, 0, none⟩ x).setCell ⟨b, 0, none⟩ y) c [.slice fa fs.length fcap] 58 := fun x y => HF1.out.keep (hkAB x y) (fun h => by simp [In] at h; omega)
    have hFo : ∀ x y, ((w1.setCell ⟨a, 0, none⟩ x).setCell ⟨b, 0, none⟩ y).ownsRow base 63 4 (.slice fa fs.length fcap) fs.length (f9s fs) := fun x y => ownsRow_keep HFO1.out (hkAB x y) (fun q hq h => by
      have := (HFO1.out.lt q hq).1
      simp [In] at h
      omega)
    have hgen : ∀ (y : Bool) (o : Obj), Hp (((w1.setCell ⟨a, 0, none⟩ (.slice none 0 0)).setCell ⟨b, 0, none⟩ (.bool y)).alloc o) base a b c ⟨[], y, fs⟩ ∧ Keeps (Up base [a, b, c]) w (((w1.setCell ⟨a, 0, none⟩ (.slice none 0 0)).setCell ⟨b, 0, none⟩ (.bool y)).alloc o) := fun y o => by
      refine ⟨⟨ha, hb, hc, ⟨_, (hLa _).alloc o, World.ownsRow_nil _ _ _ _⟩, (hBb _ _).alloc o, ⟨_, (hFc _ _).alloc o, (hFo _ _).alloc o⟩⟩, ?_⟩
      refine (K1.of_no.trans' ((hkAB _ _).mono (fun x _ h => ?_))).alloc o
      simp [In] at h
      exact .inl (by simp; omega)
    have HGEN := Lib.hid hgen
    clear hgen
    cases ok with
    | false =>
      have hp : put9 ⟨l0 :: ls, bad, fs⟩ = ⟨[], true, fs⟩ := by
        unfold put9
        simp [HOK.out]
      have HP := Lib.hid hp
      clear hp
      cases bad with
      | true =>
        go_wp2
        go_end0
        exact ⟨rfl, HP.out ▸ (HGEN.out true _).1, (HGEN.out true _).2⟩
      | false =>
        go_wp2
        go_end0
        exact ⟨rfl, HP.out ▸ (HGEN.out true _).1, (HGEN.out true _).2⟩
    | true =>
      obtain ⟨rfl, rfl, rfl, rfl⟩ := HRES.out rfl
      by_cases hk0 : trim (tillC l0) = []
      · have hp : put9 ⟨l0 :: ls, bad, fs⟩ = ⟨[], bad, fs⟩ := by
          unfold put9
          simp [HOK.out, hk0]
        have HP := Lib.hid hp
        have hkk : canon (trim (tillC l0)) = [] := by rw [hk0]; rfl
        generalize canon (trim (tillC l0)) = kk at *
        have hem : kk.isEmpty = true := by rw [hkk]; rfl
        have HKK := Lib.hid hkk
        clear hp hkk hk0
        cases bad with
        | true =>
          go_wp2
          go_end0
          exact ⟨rfl, HP.out ▸ (HGEN.out true _).1, (HGEN.out true _).2⟩
        | false =>
          go_wp2
          go_end0
          exact ⟨rfl, HP.out ▸ (HGEN.out false _).1, (HGEN.out false _).2⟩
      · have hp : put9 ⟨l0 :: ls, bad, fs⟩ = ⟨[], bad, fs ++ [pfOf l0 ls]⟩ := by
          unfold put9
          simp [HOK.out, hk0]
        have HP := Lib.hid hp
        have hem : (canon (trim (tillC l0))).isEmpty = false := by
          cases hq : canon (trim (tillC l0)) with
          | nil =>
            have := congrArg List.length hq
            rw [canon_len] at this
            exact absurd (List.length_eq_zero_iff.1 this) hk0
          | cons _ _ => rfl
        have hpf : pfOf l0 ls = ⟨canon (trim (tillC l0)), vals [] (l0.drop ((tillC l0).length + 1) :: ls), raws (l0 :: ls)⟩ := rfl
        generalize canon (trim (tillC l0)) = kk at *
        generalize vals [] (l0.drop ((tillC l0).length + 1) :: ls) = vv at *
        generalize raws (l0 :: ls) = rr at *
        generalize pfOf l0 ls = pf at *
        subst hpf
        clear hp hk0
        have hsz3 : ∀ x y o, (((w1.setCell ⟨a, 0, none⟩ x).setCell ⟨b, 0, none⟩ y).alloc o).heap.size = w1.heap.size + 1 := fun x y o => by simp
        have hc1 : ∀ W : World, W.heap.size = w1.heap.size + 1 → ∀ i u, (f9s [⟨kk, vv, rr⟩])[i]? = some u → (W.alloc (.cells #[str kk, str vv, str rr, .bool true] 63)).cell? ((⟨w1.heap.size + 1, 0, none⟩ : Addr).add i) = some u := fun W hW i u hi => by
          have hb := Blk.new W [str kk, str vv, str rr, .bool true] 63
          rw [hW] at hb
          have hadd : (⟨w1.heap.size + 1, 0, none⟩ : Addr).add i = ⟨w1.heap.size + 1, i, none⟩ := by unfold Addr.add; split <;> simp_all
          rw [hadd]
          exact (hb.cell i).trans hi
        have hc2 : ∀ u ∈ f9s [⟨kk, vv, rr⟩], u.oneCell' = true := fun u hu => by
          simp [f9s] at hu
          rcases hu with rfl | rfl | rfl | rfl <;> rfl
        have hfin : ∀ (y : Bool) (o1 o2 : Obj) (W : World) (v' : Value), ((((w1.setCell ⟨a, 0, none⟩ (.slice none 0 0)).setCell ⟨b, 0, none⟩ (.bool y)).alloc o1).alloc o2).grownBy W (Value.slice fa fs.length fcap).ownBlock → W.ownsRow base 63 4 v' (fs.length + 1) (f9s fs ++ f9s [⟨kk, vv, rr⟩]) →
            Blk W c [.slice fa fs.length fcap] 58 ∧ Hp (W.setCell ⟨c, 0, none⟩ v') base a b c ⟨[], y, fs ++ [⟨kk, vv, rr⟩]⟩ ∧ Keeps (Up base [a, b, c]) w (W.setCell ⟨c, 0, none⟩ v') := fun y o1 o2 W v' hgr hrow => by
          have hlo : ∀ k, (Value.slice fa fs.length fcap).ownBlock = some k → base ≤ k := fun k hk => ((hFo (.slice none 0 0) (.bool y)).lt k hk).1
          have hold : ∀ k, k < base → W.heap[k]? = ((((w1.setCell ⟨a, 0, none⟩ (.slice none 0 0)).setCell ⟨b, 0, none⟩ (.bool y)).alloc o1).alloc o2).heap[k]? := fun k hk => hgr.block k (by simp; omega) (fun h => by have := hlo k h.symm; omega)
          have hcW : Blk W c [.slice fa fs.length fcap] 58 := (hold c hc).trans (((hFc _ _).alloc _).alloc _)
          have haW : Blk W a [.slice none 0 0] 88 := (hold a ha).trans (((hLa _).alloc _).alloc _)
          have hbW : Blk W b [.bool y] 4 := (hold b hb).trans (((hBb _ _).alloc _).alloc _)
          refine ⟨hcW, ⟨ha, hb, hc, ⟨_, haW.set_other (p := ⟨c, 0, none⟩) (Ne.symm hac) _, World.ownsRow_nil _ _ _ _⟩, hbW.set_other (p := ⟨c, 0, none⟩) (Ne.symm hbc) _, ⟨v', (hcW.set 0 v').to rfl, ?_⟩⟩, ?_⟩
          · have h2 := ownsRow_keep hrow (Keeps.cell_one W ⟨c, 0, none⟩ v') (fun q hq h => by
              have := (hrow.lt q hq).1
              simp [In] at h
              omega)
            rw [← f9s_append] at h2
            simpa using h2
          · refine (((HGEN.out y o1).2.alloc o2).grown hgr (fun k hk => .inl (.inr (hlo k hk)))).setCell (.inl (.inl (by simp))) _
        have HC1 := Lib.hid hc1
        have HC2 := Lib.hid hc2
        have HSZ3 := Lib.hid hsz3
        have HFo2 := Lib.hid hFo
        have HFIN := Lib.hid hfin
        clear hc1 hc2 hsz3 hFo hfin
        obtain ⟨i0, hi, hz0, hz1, hz2⟩ := info_parts info_f9
        have hac' : ((a : Nat) == c) = false := by simpa using hac
        cases bad with
        | true =>
          go_wp2_with (at_builtin; refine wpList_append_own _ rfl (.tmp 24) (.tmp 26) 58 rfl base 63 i0 (.agg #[.string ⟨#[]⟩, .string ⟨#[]⟩, .string ⟨#[]⟩, .bool false]) 4 56 Tryz.underlying58 hi hz0 hz1 hz2 rfl (by decide) _ fs.length (f9s fs) rfl (((HFo2.out _ _).alloc _).alloc _) ⟨w1.heap.size + 1, 0, none⟩ 1 1 (f9s [⟨kk, vv, rr⟩]) rfl (by rw [f9s_length]; rfl) (HC1.out _ (HSZ3.out _ _ _)) HC2.out (by unfold maxLen; omega) (by omega) (by simp; omega) ?_; intro v' W hrow' hgr _; have hf := HFIN.out _ _ _ _ _ hgr hrow'; have fW := hf.1.frozen 0; have dW := hf.1.cell 0; have HF2 := Lib.hid hf; obtain ⟨va, vc, rfl⟩ := ownsRow_shape hrow'; clear hf hrow' hgr)
          go_end0
          exact ⟨rfl, HP.out ▸ HF2.out.2.1, HF2.out.2.2⟩
        | false =>
          go_wp2_with (at_builtin; refine wpList_append_own _ rfl (.tmp 24) (.tmp 26) 58 rfl base 63 i0 (.agg #[.string ⟨#[]⟩, .string ⟨#[]⟩, .string ⟨#[]⟩, .bool false]) 4 56 Tryz.underlying58 hi hz0 hz1 hz2 rfl (by decide) _ fs.length (f9s fs) rfl (((HFo2.out _ _).alloc _).alloc _) ⟨w1.heap.size + 1, 0, none⟩ 1 1 (f9s [⟨kk, vv, rr⟩]) rfl (by rw [f9s_length]; rfl) (HC1.out _ (HSZ3.out _ _ _)) HC2.out (by unfold maxLen; omega) (by omega) (by simp; omega) ?_; intro v' W hrow' hgr _; have hf := HFIN.out _ _ _ _ _ hgr hrow'; have fW := hf.1.frozen 0; have dW := hf.1.cell 0; have HF2 := Lib.hid hf; obtain ⟨va, vc, rfl⟩ := ownsRow_shape hrow'; clear hf hrow' hgr)
          go_end0
          exact ⟨rfl, HP.out ▸ HF2.out.2.1, HF2.out.2.2⟩
end Go.Proofs.YtjbbapodcngnaaaGreatDoor
