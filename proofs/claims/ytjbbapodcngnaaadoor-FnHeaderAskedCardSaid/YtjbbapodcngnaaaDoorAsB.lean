/- impl.HeaderAsked. -/
import Derived.Test.YtjbbapodcngnaaaDoorAsA
import Derived.Lib.BufferRead
namespace Go.Proofs.YtjbbapodcngnaaaDoor
open Go.RowKit Hdr

/-- The fields of a key, as they are told. -/
def selp (ps : List PF) (k : List UInt8) : List PF := ps.filter (fun p => decide (p.k = k))
theorem tells_sel (k : List UInt8) : ∀ (fs : List Fd) (ps : List PF), Tells fs ps → Tells (sel fs k) (selp ps k)
  | [], [], _ => trivial
  | f :: fs, p :: ps, h => by
    have ih := tells_sel k fs ps h.2
    unfold sel selp at *
    rw [List.filter_cons, List.filter_cons, h.1.1]
    split
    · exact ⟨h.1, ih⟩
    · exact ih
  | [], _ :: _, h => h.elim
  | _ :: _, [], h => h.elim
theorem tells_vals : ∀ (fs : List Fd) (ps : List PF), Tells fs ps → fs.map (fun f => str f.v) = ps.map fun p => str p.v
  | [], [], _ => rfl
  | f :: fs, p :: ps, h => by
    rw [List.map_cons, List.map_cons, tells_vals fs ps h.2, h.1.2.1]
  | [], _ :: _, h => h.elim
  | _ :: _, [], h => h.elim
theorem tells_raw : ∀ (fs : List Fd) (ps : List PF), Tells fs ps → ∀ f ∈ fs, f.raw.isSome = true
  | [], [], _, f, hf => by cases hf
  | f :: fs, p :: ps, h, g, hg => by
    rcases List.mem_cons.1 hg with rfl | hg
    · rw [h.1.2.2]; rfl
    · exact tells_raw fs ps h.2 g hg
  | [], _ :: _, h, _, _ => h.elim
  | _ :: _, [], h, _, _ => h.elim

theorem tells_empty : ∀ (fs : List Fd) (ps : List PF), Tells fs ps → fs.isEmpty = ps.isEmpty
  | [], [], _ => rfl
  | _ :: _, _ :: _, _ => rfl
  | [], _ :: _, h => h.elim
  | _ :: _, [], h => h.elim

def top (s : List PF) (g : PF → List UInt8) : List UInt8 := match s with | [] => [] | p :: _ => g p

theorem tells_top : ∀ (fs : List Fd) (ps : List PF), Tells fs ps → topv fs = top ps (·.v)
  | [], [], _ => rfl
  | _ :: _, _ :: _, h => h.1.2.1
  | [], _ :: _, h => h.elim
  | _ :: _, [], h => h.elim

/-- What HeaderAsked leaves. -/
def HaPost (r : Option (List PF × List UInt8)) (ck : List UInt8) (w : World) (e : Ending) (w' : World) : Prop :=
  Keeps No w w' ∧
  match r with
  | none => e = .returned (.tuple #[str [], .bool false, .slice none 0 0, .int .i64 0, str [], .bool false])
  | some (ps, _) => ∃ v, e = .returned (.tuple #[str (top (selp ps ck) (·.v)), .bool (!(selp ps ck).isEmpty), v, .int .i64 ((selp ps ck).length : Int), str (top (selp ps ck) (·.raw)), .bool true]) ∧
      w'.ownsRow w.heap.size 9 1 v (selp ps ck).length ((selp ps ck).map fun p => str p.v)

theorem results_tmp6 {fn : Func} {t u v x y z : Tmp} (h : fn.results = #[.tmp t, .tmp u, .tmp v, .tmp x, .tmp y, .tmp z]) (tmps : Array Value) (P : Program) (w : World) :
    (results fn tmps).run P w = .ok (.tuple #[tmps.getD t undef, tmps.getD u undef, tmps.getD v undef, tmps.getD x undef, tmps.getD y undef, tmps.getD z undef]) w := by
  simp [results, h]

/-- The bytes of the topmost field as a string, in all later worlds. -/
theorem raw_string {w : World} {lo : Nat} {fs : List Fd} {s : List Fd} {sp : List PF} (hF : Fds w lo w.heap.size fs) (hs : ∀ f ∈ s, f ∈ fs) (ht : Tells s sp) :
    ∃ va n c, rawV s = Value.slice va n c ∧ ∀ W, Keeps No w W → (convert 41 9 (.slice va n c)).run Tryd.prog W = .ok (str (top sp (·.raw))) W := by
  match s, sp, ht with
  | [], [], _ => exact ⟨none, 0, 0, rfl, fun W _ => Lib.run_convert_nil_bytes W 41 9 5 0 Tryd.underlying41 Tryd.underlying5 Tryd.underlying9⟩
  | f :: s, p :: sp, ht =>
    have hR := (hF f (hs f (List.mem_cons_self ..))).R
    rw [ht.1.2.2] at hR
    obtain ⟨rb, ro, rcap, h1, h2, h3, h4, h5, h6⟩ := hR
    exact ⟨_, _, _, h1, fun W hk => run_string_of W rb ro rcap p.raw p.raw.length rfl (h5.keep hk (fun h => h))⟩

set_option maxRecDepth 100000 in
set_option maxHeartbeats 2000000 in
theorem headerAsked_any (l key : List UInt8) (ea : Addr) (w : World) (hs : Short l) (hlen : l.length ≤ 100000) (hkl : key.length ≤ 1000000000) {N : Nat} (L : Laid N ea w) (hN : N ≤ w.heap.size) (hr : ∀ ps c, rhd l = some (ps, c) → ps.length ≤ 100000) :
    Calls Tryd.prog 8 #[str l, str key] w (HaPost (rhd l) (canon key) w) := by
  have H := headed_any l ea w hs (by omega) L hN
  generalize rhd l = r at *
  have HR := Lib.hid hr
  have HH := Lib.hid H
  clear hr hs L H
  go_enter Tryd.func8, Tryd.ntmps8
  go_wp2_with (fail)
  refine HH.out.mono ?_
  rintro e w1 ⟨K, hpost⟩
  cases r with
  | none =>
    obtain ⟨xa, xn, xc, ym, k, rfl⟩ := hpost
    go_wp2
    (try simp only [Exit.inBlock, Exit.then])
    refine bodyPost_ret (results_tmp6 rfl _ _ _) rfl ?_
    exact ⟨K.alloc _, rfl⟩
  | some pc =>
    obtain ⟨ps, c⟩ := pc
    obtain ⟨hv, fs, rfl, hh, ht⟩ := hpost
    have hpl := HR.out ps c rfl
    have hfl : fs.length ≤ 100000 := by rw [ht.length]; exact hpl
    obtain ⟨lb, cap, m, rfl, h1, h2, h3, h4, h5⟩ := hh
    have hsz1 := K.size
    have kA : Keeps No w1 (w1.alloc (.cells #[.slice (some ⟨lb, 0, none⟩) fs.length cap, .map m] 45)) := (Keeps.refl No w1).alloc _
    have hHP : HP (w1.alloc (.cells #[.slice (some ⟨lb, 0, none⟩) fs.length cap, .map m] 45)) w.heap.size w1.heap.size lb cap m fs :=
      ⟨Blk.new w1 _ _, h4.up kA (fun _ h => h.elim), (h5.keep kA (fun _ h => h.elim)).mono (by simp)⟩
    have HHP := Lib.hid hHP
    have HT := Lib.hid ht
    clear h1 h2 h3 h4 h5 hHP ht HH HR hpl
    go_wp2_with (fail)
    refine (rawOf_any w.heap.size w1.heap.size lb cap m fs key _ HHP.out hkl (by omega) (tells_raw fs ps HT.out)).mono ?_
    rintro e w2 ⟨rfl, K2⟩
    have hHP2 := HHP.out.keep_no K2
    have hsm : ∀ f ∈ sel fs (canon key), f ∈ fs := fun f hf => by
      unfold sel at hf
      exact (List.mem_filter.1 hf).1
    obtain ⟨va, bn, bc, hbv, hconv⟩ := raw_string hHP2.F hsm (tells_sel (canon key) fs ps HT.out)
    rw [hbv]
    have HHP2 := Lib.hid hHP2
    have HCV := Lib.hid hconv
    clear hHP2 hsm hbv hconv
    go_upto_region 5 with (fail)
    refine region_segs [([0, 2, 4, 6, 9, 10], 1), ([], 3), ([], 5), ([], 7), ([], 8)] [11, 12, 13, 14] 15 (fun W => (convert 41 9 (.slice va bn bc)).run Tryd.prog W = .ok (str (top (selp ps (canon key)) (·.raw))) W) (by kernel_rfl) (by kernel_rfl) ?_ ?_
    · exact HCV.out _ ((Keeps.refl No w2).drew)
    simp only [segPick, List.map_cons, List.map_nil, pick, List.filterMap_cons, List.filterMap_nil, List.getElem?_cons_succ, List.getElem?_cons_zero, List.drop_succ_cons, List.drop_zero]
    rw [wpSegs]
    intro ι F hne hF
    repeat (quiet_step (fail))
    refine wpQuiet_nil ?_
    clear hF hne F ι
    have kR : Keeps No w2 w2.drew := (Keeps.refl No w2).drew
    go_wp2_with (fail)
    refine (get_any w.heap.size w1.heap.size lb cap m fs key _ (HHP2.out.keep_no kR) hkl (by omega)).mono ?_
    rintro e w3 ⟨rfl, K3⟩
    have K23 := kR.trans' K3
    go_wp2
    refine EffPost.intro (HCV.out _ K23) ?_
    rw [wpSegs]
    intro ι F hne hF
    clear hF
    repeat (quiet_step (fail))
    refine wpQuiet_nil ?_
    clear hne F ι
    go_wp2_with (fail)
    refine (has_any w.heap.size w1.heap.size lb cap m fs key _ (HHP2.out.keep_no K23) hkl).mono ?_
    rintro e w4 ⟨rfl, K4⟩
    have K24 := K23.trans' K4
    go_wp2
    refine EffPost.intro (HCV.out _ K24) ?_
    rw [wpSegs]
    intro ι F hne hF
    clear hF
    repeat (quiet_step (fail))
    refine wpQuiet_nil ?_
    clear hne F ι
    go_wp2_with (fail)
    refine (values_any w.heap.size w1.heap.size lb cap m fs key _ (HHP2.out.keep_no K24) hkl (by omega)).mono ?_
    rintro e w5 ⟨v, rfl, hrow, K5⟩
    have HROW := Lib.hid hrow
    have K25 := K24.trans' K5
    clear hrow
    go_wp2
    refine EffPost.intro (HCV.out _ K25) ?_
    rw [wpSegs]
    intro ι F hne hF
    clear hF
    repeat (quiet_step (fail))
    refine wpQuiet_nil ?_
    clear hne F ι
    go_wp2_with (fail)
    refine (fieldsByKey_any w1.heap.size key _ hkl).mono ?_
    rintro e w6 ⟨ib, rfl, hib, hI, K6⟩
    have HI := Lib.hid hI
    have K26 := K25.trans' K6
    clear hI
    have mL := method_lenK ib
    go_wp2
    refine EffPost.intro (HCV.out _ K26) ?_
    rw [wpSegs]
    intro ι F hne hF
    clear hF
    repeat (quiet_step (fail))
    refine wpQuiet_nil ?_
    clear hne F ι
    go_wp2_with (fail)
    refine (lenK_any w.heap.size w1.heap.size lb cap ib (-1) m fs (canon key) _ (HHP2.out.keep_no K26) HI.out).mono ?_
    rintro e w7 ⟨rfl, q, rfl⟩
    have K27 := K26.drewN q
    go_wp2
    refine EffPost.intro (HCV.out _ K27) ?_
    rw [wpSegs]
    intro ι F hne hF
    clear hF
    repeat (quiet_step (fail))
    refine wpQuiet_nil ?_
    clear hne F ι
    go_wp2
    (try simp only [Exit.inBlock, Exit.then])
    refine bodyPost_ret (results_tmp6 rfl _ _ _) rfl ?_
    have hts := tells_sel (canon key) fs ps HT.out
    have K02 := (K.trans' kA).trans' K2
    refine ⟨K02.trans' K27, v, ?_, ?_⟩
    · rw [← tells_top _ _ hts, ← tells_empty _ _ hts, ← hts.length]
      rfl
    · have h2 := ownsRow_mono (base := w.heap.size) (ownsRow_keep HROW.out ((K6).drewN q) (fun _ _ h => h)) (Nat.le_trans K02.size K24.size)
      rw [tells_vals _ _ hts, hts.length] at h2
      exact h2
end Go.Proofs.YtjbbapodcngnaaaDoor
