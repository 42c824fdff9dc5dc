/- What a header tells of a key: Get. NewMultipartReader; multipartReader. multipartReader: whether a header tells of a multipart. The structure of a message in memory. paramsOf: what a map of at most one entry tells. structsOf: the structure as a list. structsOf: the walk. structsOf, of any structure. The parts of a multipart, one behind the other. FetchBodyStructure. FetchBodyStructure: of a multipart. FetchBodyStructure: of a message in a message. FetchBodyStructure: of a text. FetchBodyStructure: of a text whose header tells no type. FetchBodyStructure, of any message of the kind that is looked at. Sources: bytes.Reader. -/
import Derived.Test.YtjbbapodcngnaaaGreatDoorZtaa
import Derived.Maps.AppendAt
import Derived.Deep.OwnRows
import Derived.Laws.OwnMore
import Derived.Test.YtjbbapodcngnaaaGreatDoorZtbb
import Derived.Test.YtjbbapodcngnaaaGreatDoorShelfC
import Derived.Maps.RangeRun
import Derived.Deep.MidRow
import Derived.Test.YtjbbapodcngnaaaGreatDoorZsah
namespace Go.Proofs.YtjbbapodcngnaaaGreatDoor
open Go.RowKit Hdr

/-- A header behind a pointer. -/
structure HP (w : World) (lo hb lb cap : Nat) (m : Option Nat) (fs : List Fd) : Prop where
  B : Blk w hb [.slice (some ⟨lb, 0, none⟩) fs.length cap, .map m] 74
  M : HMap w lo m fs.reverse
  F : Fds w lo w.heap.size fs
theorem HP.keep_no {w w' : World} {lo hb lb cap : Nat} {m : Option Nat} {fs : List Fd} (h : HP w lo hb lb cap m fs) (k : Keeps No w w') : HP w' lo hb lb cap m fs :=
  ⟨h.B.keep_no k, h.M.up k (fun _ h => h.elim), (h.F.keep k (fun _ h => h.elim)).mono k.size⟩

/-- The fields of a key. -/
def sel (fs : List Fd) (k : List UInt8) : List Fd := fs.filter (fun f => decide (f.k = k))
theorem sel_reverse (fs : List Fd) (k : List UInt8) : sel fs.reverse k = (sel fs k).reverse := by unfold sel; rw [List.filter_reverse]
theorem sel_len (fs : List Fd) (k : List UInt8) : (sel fs k).length ≤ fs.length := List.length_filter_le _ _

theorem run_lookup_nil (w : World) (k : List UInt8) : (Instr.lookup 72 (.map none) (str k) false).run Tryz.prog w = .ok (.slice none 0 0) w := by
  simp [Instr.lookup, run_underlying und_map, check_str, Instr.findKey, run_underlying Tryz.underlying9, Instr.findNow, Result.andThen]
theorem run_lookup_nil_ok (w : World) (k : List UInt8) : (Instr.lookup 72 (.map none) (str k) true).run Tryz.prog w = .ok (.tuple #[.slice none 0 0, .bool false]) w := by
  simp [Instr.lookup, run_underlying und_map, check_str, Instr.findKey, run_underlying Tryz.underlying9, Instr.findNow, Result.andThen]

/-- 'm[k]', with and without ok. -/
theorem find_any {w : World} {lo : Nat} {m : Option Nat} {fs : List Fd} (h : HMap w lo m fs) (k : List UInt8) :
    ∃ v, PS w lo v ((sel fs k).map (·.blk)) ∧ (∀ W : World, W.heap = w.heap → (Instr.lookup 72 (.map m) (str k) false).run Tryz.prog W = .ok v W) ∧
      (∀ W : World, W.heap = w.heap → (Instr.lookup 72 (.map m) (str k) true).run Tryz.prog W = .ok (.tuple #[v, .bool (!(sel fs k).isEmpty)]) W) ∧ (sel fs k = [] → v = .slice none 0 0) := by
  rcases h with ⟨rfl, rfl⟩ | ⟨mb, gs, rfl, _, hM, hG⟩
  · exact ⟨_, World.ownsRow_nil _ _ _ _, fun W _ => run_lookup_nil W k, fun W _ => run_lookup_nil_ok W k, fun _ => rfl⟩
  · have hMW : ∀ W : World, W.heap = w.heap → MapE W mb gs := fun W hW => by
      obtain ⟨es, c, h1, h2⟩ := hM
      exact ⟨es, c, by rw [hW]; exact h1, h2⟩
    rcases grp_cases gs k with hn | ⟨a, x, b, rfl, hx, hn⟩
    · have hs : sel fs k = [] := by
        unfold sel
        rw [List.filter_eq_nil_iff]
        intro f hf hk
        obtain ⟨x, hx, hxk⟩ := hG.all f hf
        exact hn x hx (by rw [hxk]; simpa using hk)
      rw [hs]
      exact ⟨_, World.ownsRow_nil _ _ _ _, fun W hW => run_lookup_none W mb gs k (hMW W hW) hn, fun W hW => run_lookup_none_ok W mb gs k (hMW W hW) hn, fun _ => rfl⟩
    · have hxm : x ∈ a ++ x :: b := by simp
      have hp := hG.own x hxm
      have ho := hG.of x hxm
      rw [hx] at ho
      have hne : (sel fs k).isEmpty = false := by
        cases hq : sel fs k with
        | nil =>
          unfold sel at hq
          rw [hq] at ho
          exact absurd ho (hG.some_ x hxm)
        | cons _ _ => rfl
      rw [hne]
      subst hx
      refine ⟨x.v, ?_, fun W hW => run_lookup_some W mb a b x (hMW W hW) hn, fun W hW => run_lookup_some_ok W mb a b x (hMW W hW) hn, fun h => by rw [h] at hne; cases hne⟩
      unfold sel
      rw [← ho]
      exact hp

def topv (s : List Fd) : List UInt8 := match s with | [] => [] | f :: _ => f.v
/-- What Get leaves. -/
def GetPost (s : List Fd) (w : World) (e : Ending) (w' : World) : Prop := e = .returned (str (topv s)) ∧ Keeps No w w'

/-- The slice of a key's fields: empty, or with the topmost at its end. -/
theorem sel_cases {w : World} {lo : Nat} {v : Value} {fs : List Fd} {k : List UInt8} (hv : PS w lo v ((sel fs.reverse k).map (·.blk))) (h0 : sel fs.reverse k = [] → v = .slice none 0 0) (hF : Fds w lo w.heap.size fs) :
    (sel fs k = [] ∧ v = .slice none 0 0) ∨ ∃ f r g cap, sel fs k = f :: r ∧ v = .slice (some ⟨g, 0, none⟩) (r.length + 1) cap ∧ f ∈ fs ∧ w.cell? ⟨g, r.length, none⟩ = some (.pointer (some ⟨f.blk, 0, none⟩)) ∧ Blk w f.blk [f.rv, str f.k, str f.v] 185 := by
  rw [sel_reverse] at hv
  cases hs : sel fs k with
  | nil =>
    left
    exact ⟨rfl, h0 (by rw [sel_reverse, hs]; rfl)⟩
  | cons f r =>
    right
    rw [hs] at hv
    have hf : f ∈ fs := by
      have : f ∈ sel fs k := by rw [hs]; simp
      unfold sel at this
      exact (List.mem_filter.1 this).1
    obtain ⟨g, cap, h1, _, _, h4, _, _⟩ := PS.block hv (by simp)
    refine ⟨f, r, g, cap, rfl, by rw [h1]; simp, hf, ?_, (hF f hf).B⟩
    refine h4.cell_of ?_
    simp

set_option maxRecDepth 100000 in
set_option maxHeartbeats 1000000 in
theorem get_any (lo hb lb cap : Nat) (m : Option Nat) (fs : List Fd) (key : List UInt8) (w : World) (h : HP w lo hb lb cap m fs) (hlen : key.length ≤ 1000000000) (hn : fs.length ≤ 1000000) :
    Calls Tryz.prog 88 #[.pointer (some ⟨hb, 0, none⟩), str key] w (GetPost (sel fs (canon key)) w) := by
  have HH := Lib.hid h
  have hsl := sel_len fs (canon key)
  have c1 : w.cell? ⟨hb, 1, none⟩ = some (.map m) := h.B.cell 1
  clear h
  go_enter Tryz.func88, Tryz.ntmps88
  go_upto_region 1 with (fail)
  refine region_segs [([0, 1, 2, 3, 4], 5)] [] 6 (fun W => W.cell? ⟨hb, 1, none⟩ = some (.map m)) (by kernel_rfl) (by kernel_rfl) ?_ ?_
  · exact c1
  simp only [segPick, List.map_cons, List.map_nil, pick, List.filterMap_cons, List.filterMap_nil, List.getElem?_cons_succ, List.getElem?_cons_zero, List.drop_succ_cons, List.drop_zero]
  rw [wpSegs]
  intro ι F hne hF
  have d1 := fun j => hF j
  clear hF
  repeat (quiet_step (fail))
  refine wpQuiet_nil ?_
  clear d1 hne F ι
  go_wp2_with (fail)
  refine (canonicalKey_any key _ hlen).mono ?_
  rintro e w1 ⟨rfl, K⟩
  have K1 : Keeps No w w1 := ((Keeps.refl No w).drew).trans' K
  have hH1 := HH.out.keep_no K1
  obtain ⟨v, hv, hl1', hl2', hl0⟩ := find_any hH1.M (canon key)
  have hl1 := hl1' _ rfl
  have hl2 := hl2' _ rfl
  clear hl1' hl2'
  have hcs := sel_cases hv hl0 hH1.F
  generalize sel fs (canon key) = s at *
  have HCS := Lib.hid hcs
  clear hv hl2 hl0 hcs
  go_wp2
  refine EffPost.intro (hH1.B.cell 1) ?_
  clear hH1
  rw [wpSegs]
  intro ι F hne hF
  clear hF
  repeat (quiet_step (fail))
  refine wpQuiet_nil ?_
  clear hne F ι
  rcases HCS.out with ⟨rfl, rfl⟩ | ⟨f, r, g, gcap, rfl, rfl, _, hc, hB⟩
  · go_wp2
    go_ret
    exact ⟨rfl, K1⟩
  · have hrl : r.length ≤ 1000000 := by simp at hsl; omega
    have b1 : IntKind.i64.wrap (((r.length + 1 : Nat) : Int) - 1) = (r.length : Int) := by rw [IntKind.wrap_i64]; omega
    have b2 : (((r.length + 1 : Nat) : Int) - 1) = (r.length : Int) := by omega
    have b3 : (((r.length + 1 : Nat) : Int) == 0) = false := by simp; omega
    have b4 : ((r.length : Int) + 1 == 0) = false := by simp; omega
    have hc2 : w1.cell? ⟨f.blk, 2, none⟩ = some (str f.v) := hB.cell 2
    clear hB
    go_wp2
    go_ret
    exact ⟨rfl, K1⟩
end Go.Proofs.YtjbbapodcngnaaaGreatDoor
namespace Go.Proofs.YtjbbapodcngnaaaGreatDoor.G
open Go.RowKit Hdr

/-- '[]byte(s)', with a capacity. -/
theorem run_bytes_cap2 (w : World) (l : List UInt8) : ∃ cap W, (convert 9 85 (str l)).run Tryz.prog w = .ok (.slice (some ⟨w.heap.size, 0, none⟩) l.length cap) W ∧ Row W w.heap.size l ∧ l.length ≤ cap ∧ Keeps No w W ∧ W.heap.size = w.heap.size + 1 :=
  ⟨_, _, Lib.run_convert_string_bytes w 9 85 5 ⟨l.toArray⟩ (u := .string) Tryz.underlying9 Tryz.underlying85 Tryz.underlying5, Row.new w ⟨l.toArray⟩, grownCap_ge w l.length 0 5, bytesWorld_keeps w _ _ _, Lib.bytesWorld_size w _ _⟩

/-- What NewMultipartReader leaves. -/
def NmPost (X : Src) (bn s : List UInt8) (w : World) (e : Ending) (w' : World) : Prop :=
  ∃ M b g k B0 cap, e = .returned (.pointer (some ⟨M, 0, none⟩)) ∧ w.heap.size ≤ M ∧ w.heap.size ≤ b ∧ w.heap.size ≤ g ∧ w.heap.size ≤ k ∧ w.heap.size ≤ B0 ∧ MrB w' M b B0 cap (.pointer none) 0 bn ∧ Rd w' b g (stickySrc k X) s ∧
    ¬ InX b g (stickySrc k X) M ∧ ¬ InX b g (stickySrc k X) B0 ∧ M ≠ B0 ∧ Keeps No w w'

set_option maxRecDepth 100000 in
set_option maxHeartbeats 2000000 in
theorem newMulti_any (X : Src) (bn s : List UInt8) (w : World) (hs : X.S w s) (hbn : bn.length ≤ 1000) :
    Calls Tryz.prog 121 #[.iface X.t X.v, str bn] w (NmPost X bn s w) := by
  have ha1 := str_app [13, 10, 45, 45] bn
  have ha2 := str_app ([13, 10, 45, 45] ++ bn) [45, 45]
  have hl1 : ([13, 10, 45, 45] ++ bn).length = bn.length + 4 := by simp
  have hl2 : ([13, 10, 45, 45] ++ bn ++ [45, 45]).length = bn.length + 6 := by simp
  obtain ⟨cap, W, hcv, hrow, hcap, K0, hsz⟩ := run_bytes_cap2 w ([13, 10, 45, 45] ++ bn ++ [45, 45])
  have hby := hrow.bytes
  rw [hl2] at hcv hcap
  have HBY := Lib.hid (show BytesAt W w.heap.size 0 (13 :: 10 :: 45 :: 45 :: (bn ++ [45, 45])) by simpa using hby)
  unfold str at hcv
  have hlt : ∀ x, X.own x → x < w.heap.size := fun x hx => X.lt hs hx
  have hS0 := X.keep_no hs K0
  have HS0 := Lib.hid hS0
  clear hs hrow hby hS0
  generalize hL6 : bn.length + 6 = L6 at *
  obtain ⟨L4, hL4⟩ : ∃ L4 : Nat, L4 = bn.length + 4 := ⟨_, rfl⟩
  have hd1 : (L6 : Int) - 2 = L4 := by omega
  have hd2 : IntKind.i64.wrap (L4 : Int) = L4 := IntWalk.i64_in _ (by omega)
  have hd3 : IntKind.i64.wrap ((L6 : Int) - 2) = L4 := by rw [hd1]; exact hd2
  have b0 : (0 : Int) ≤ (L4 : Int) := by omega
  have b1 : (L4 : Int) ≤ (cap : Int) := by omega
  have b2 : (2 : Int) ≤ (L4 : Int) := by omega
  have b3 : (2 : Int) ≤ (L6 : Int) := by omega
  have b4 : (2 : Int) ≤ (cap : Int) := by omega
  have hle1 : ([13, 10, 45, 45] ++ bn).length ≤ 2000000000 := by omega
  have HL4 := Lib.hid hL4
  have HL6 := Lib.hid hL6
  clear hL4 hL6 hl1 hl2
  generalize [13, 10, 45, 45] ++ bn ++ [45, 45] = s2 at *
  generalize [13, 10, 45, 45] ++ bn = s1 at *
  go_enter Tryz.func121, Tryz.ntmps121
  go_upto_region 2 with (fail)
  refine region_segs [([0, 1, 5, 6, 7, 8, 9, 10, 11, 12, 13, 14, 15, 16, 17, 18], 2), ([3], 4)] [19] 20 (fun _ => True) (by kernel_rfl) (by kernel_rfl) ?_ ?_
  · exact trivial
  simp only [segPick, List.map_cons, List.map_nil, pick, List.filterMap_cons, List.filterMap_nil, List.getElem?_cons_succ, List.getElem?_cons_zero, List.drop_succ_cons, List.drop_zero]
  rw [wpSegs]
  intro ι F hne hF
  clear hF
  repeat (quiet_step (fail))
  refine wpQuiet_nil ?_
  clear hne F ι
  go_wp2
  refine EffPost.intro trivial ?_
  rw [wpSegs]
  intro ι F hne hF
  clear hF
  repeat (quiet_step (fail))
  refine wpQuiet_nil ?_
  clear hne F ι
  have hKB : Keeps No w (W.alloc (.cells #[.iface X.t X.v, .nilIface] 256)).drew := (K0.alloc _).drew
  have hBk : Blk (W.alloc (.cells #[.iface X.t X.v, .nilIface] 256)).drew (w.heap.size + 1) [.iface X.t X.v, .nilIface] 256 := by
    have := (Blk.new W [.iface X.t X.v, .nilIface] 256).drew
    rwa [hsz] at this
  have hSt : (stickySrc (w.heap.size + 1) X).S (W.alloc (.cells #[.iface X.t X.v, .nilIface] 256)).drew s := ⟨.nilIface, hBk, X.keep_no HS0.out ((Keeps.refl No W).alloc _).drew, fun h => by have := hlt _ h; omega, .inl rfl⟩
  have hBB : BytesAt (W.alloc (.cells #[.iface X.t X.v, .nilIface] 256)).drew w.heap.size 0 (13 :: 10 :: 45 :: 45 :: (bn ++ [45, 45])) := HBY.out.keep (S := No) ((Keeps.refl No W).alloc _).drew (fun h => h)
  have hszA : (W.alloc (.cells #[.iface X.t X.v, .nilIface] 256)).drew.heap.size = w.heap.size + 2 := by simp [hsz]
  have hc2 : cutAt 0 2 cap 1 = 2 := cutAt_lt (by omega)
  rw [hc2]
  generalize (W.alloc (.cells #[.iface X.t X.v, .nilIface] 256)).drew = wA at *
  have HKB := Lib.hid hKB
  have HSt := Lib.hid hSt
  have HBB := Lib.hid hBB
  have HSZ := Lib.hid hszA
  clear hKB hBk hSt hBB hszA hc2
  go_wp2_with (fail)
  refine (bufNewSize_any (stickySrc (w.heap.size + 1) X) s wA HSt.out (sticky_notBuf _)).mono ?_
  rintro e wB ⟨b, g, rfl, hb, hg, R, KB⟩
  have HR := Lib.hid R
  clear R
  go_wp2
  refine EffPost.intro trivial ?_
  rw [wpSegs]
  intro ι F hne hF
  clear hF
  repeat (quiet_step (fail))
  refine wpQuiet_nil ?_
  clear hne F ι
  go_wp2
  go_ret
  have hszB := KB.size
  have h0 := K0.size
  have ka : ∀ o : Obj, Keeps No wB (wB.alloc o) := fun o => (Keeps.refl No wB).alloc o
  have e4 := HL4.out
  have e6 := HL6.out
  have hsA := HSZ.out
  refine ⟨wB.heap.size, b, g, w.heap.size + 1, w.heap.size, cap, rfl, by omega, by omega, by omega, by omega, Nat.le_refl _, ⟨(Blk.new wB _ _).to (by unfold mrc; rw [show L6 - 2 = bn.length + 4 by omega, show L4 - 2 = bn.length + 2 by omega, e4]; rfl), (HBB.out.keep KB (fun h => h)).keep (ka _) (fun h => h), by omega, hbn, by omega⟩, HR.out.keep_no (ka _), fun h => ?_, fun h => ?_, by omega, (HKB.out.trans_no KB).trans_no (ka _)⟩
  · have := HR.out.lt _ h
    omega
  · rcases h with h | h | h | h
    · omega
    · omega
    · omega
    · have := hlt _ h
      omega

/-! ### multipartReader -/
theorem get_tells (k : List UInt8) : ∀ (fs : List Fd) (l : List Hd), Tells fs (l.map pfH) → topv (sel fs k) = getH k l
  | [], [], _ => rfl
  | f :: fs, h :: l, ht => by
    obtain ⟨h1, h2⟩ := ht
    have ih := get_tells k fs l h2
    unfold sel at ih ⊢
    unfold getH at ih ⊢
    rw [List.filter_cons, List.find?_cons]
    have hk : f.k = h.1 := h1.1
    have hv : f.v = h.2 := h1.2.1
    by_cases he : h.1 = k
    · rw [if_pos (by rw [hk, he]; simp)]
      simp only [he, decide_true]
      exact hv
    · rw [if_neg (by rw [hk]; simpa using he)]
      simp only [decide_eq_false he]
      exact ih
  | [], _ :: _, h => h.elim
  | _ :: _, [], h => h.elim

/-- A header in hand. -/
theorem HdrAt.hp {w : World} {lo : Nat} {hv : Value} {fs : List Fd} (h : HdrAt w lo hv fs) : ∃ lb cap m, hv = .agg #[.slice (some ⟨lb, 0, none⟩) fs.length cap, .map m] ∧
    HP (w.alloc (.cells #[.slice (some ⟨lb, 0, none⟩) fs.length cap, .map m] 74)) lo w.heap.size lb cap m fs := by
  obtain ⟨lb, cap, m, rfl, hlo, hnb, hpo, hm, hf⟩ := h
  refine ⟨lb, cap, m, rfl, Blk.new w _ _, ?_, ?_⟩
  · exact (hm.up (S := No) ((Keeps.refl No w).alloc _) (fun _ h => h.elim)).to (S := No) (Keeps.refl No _) (fun _ h => h.elim) (by omega)
  · exact (hf.keep (S := No) ((Keeps.refl No w).alloc _) (fun _ h => h.elim)).mono (by simp)
end Go.Proofs.YtjbbapodcngnaaaGreatDoor.G
namespace Go.Proofs.YtjbbapodcngnaaaGreatDoor.G
open Go.RowKit Hdr

set_option maxRecDepth 100000 in
theorem mr_none (lb cap : Nat) (m : Option Nat) (lo : Nat) (fs : List Fd) (b : Value) (w : World) (v : List UInt8) (hH : HP (w.alloc (.cells #[.slice (some ⟨lb, 0, none⟩) fs.length cap, .map m] 74)) lo w.heap.size lb cap m fs) (hn : fs.length ≤ 1000000)
    (hv : topv (sel fs ctK) = v) (hlow : ∀ c ∈ v, lowN c.toNat) (hvl : v.length ≤ 100000) (hno : mpS.isPrefixOf v = false) :
    Calls Tryz.prog 90 #[.agg #[.slice (some ⟨lb, 0, none⟩) fs.length cap, .map m], b] w fun e w' => e = .returned (.pointer none) ∧ Keeps No w w' := by
  have G := Lib.hid (get_any lo w.heap.size lb cap m fs ctK _ hH (by decide) hn)
  have Lw := Lib.hid (fun W => toLower_any v W hlow (by omega))
  have P := Lib.hid (fun W => hasPrefixS_any v mpS W (by omega) (by decide))
  have HV := Lib.hid hv
  have HNO := Lib.hid hno
  clear hH hlow hv hno
  go_enter Tryz.func90, Tryz.ntmps90
  go_wp2_with (fail)
  refine G.out.mono ?_
  rintro e w1 ⟨rfl, K1⟩
  rw [show canon ctK = ctK by decide, HV.out]
  go_wp2_with (fail)
  refine (Lw.out w1).mono ?_
  rintro e w2 ⟨rfl, rfl⟩
  go_wp2_with (fail)
  refine (P.out w2).mono ?_
  rintro e w3 ⟨rfl, rfl⟩
  rw [HNO.out]
  go_wp2
  go_ret
  exact ⟨rfl, ((Keeps.refl No w).alloc _).trans_no K1⟩

set_option maxRecDepth 100000 in
theorem mr_some (X : Src) (s : List UInt8) (lb cap : Nat) (m : Option Nat) (lo : Nat) (fs : List Fd) (w : World) (sub : List UInt8) (x : UInt8) (t : List UInt8) (hH : HP (w.alloc (.cells #[.slice (some ⟨lb, 0, none⟩) fs.length cap, .map m] 74)) lo w.heap.size lb cap m fs) (hn : fs.length ≤ 1000000)
    (hv : topv (sel fs ctK) = mpS ++ sub ++ bdS ++ (x :: t)) (hlow : ∀ c ∈ mpS ++ sub ++ bdS ++ (x :: t), lowN c.toNat) (hvl : (mpS ++ sub ++ bdS ++ (x :: t)).length ≤ 100000) (hT : Tab w) (hs : ∀ c ∈ sub, t7b c = true) (hs0 : sub ≠ []) (hsl : sub.length ≤ 100) (ht : ∀ c ∈ x :: t, t7b c = true) (htl : t.length ≤ 900) (hX : X.S w s) :
    Calls Tryz.prog 90 #[.agg #[.slice (some ⟨lb, 0, none⟩) fs.length cap, .map m], .iface X.t X.v] w (NmPost X (x :: t) s w) := by
  have G := Lib.hid (get_any lo w.heap.size lb cap m fs ctK _ hH (by decide) hn)
  have Lw := Lib.hid (fun W => toLower_any (mpS ++ sub ++ bdS ++ (x :: t)) W hlow (by omega))
  have P := Lib.hid (fun W => hasPrefixS_any (mpS ++ sub ++ bdS ++ (x :: t)) mpS W (by omega) (by decide))
  have PM := Lib.hid (fun W hT => pm_multi sub x t hs hs0 hsl ht (by omega) W hT)
  have NM := Lib.hid (fun W hs => newMulti_any X (x :: t) s W hs (by simp only [List.length_cons]; omega))
  have HV := Lib.hid hv
  have HT := Lib.hid hT
  have HX := Lib.hid hX
  have HNO := Lib.hid (show mpS.isPrefixOf (mpS ++ sub ++ bdS ++ (x :: t)) = true by simp [List.isPrefixOf_iff_prefix, List.append_assoc])
  clear hH hlow hv hT hX hs ht
  generalize mpS ++ sub ++ bdS ++ (x :: t) = v at *
  generalize x :: t = bn at *
  go_enter Tryz.func90, Tryz.ntmps90
  go_wp2_with (fail)
  refine G.out.mono ?_
  rintro e w1 ⟨rfl, K1⟩
  have KK : Keeps No w w1 := ((Keeps.refl No w).alloc _).trans_no K1
  rw [show canon ctK = ctK by decide, HV.out]
  go_wp2_with (fail)
  refine (Lw.out w1).mono ?_
  rintro e w2 ⟨rfl, rfl⟩
  go_wp2_with (fail)
  refine (P.out w2).mono ?_
  rintro e w3 ⟨rfl, rfl⟩
  rw [HNO.out]
  go_wp2_with (fail)
  refine (PM.out w3 (HT.out.keep_no KK)).mono ?_
  rintro e w4 ⟨mb, rfl, hmb, M, K4⟩
  have hlook := run_lookS_one w4 mb bndK bn M
  rw [show str bndK = .string ⟨#[98, 111, 117, 110, 100, 97, 114, 121]⟩ from rfl] at hlook
  clear M
  go_wp2_with (fail)
  refine (NM.out w4 (X.keep_no HX.out (KK.trans_no K4))).mono ?_
  rintro e w5 ⟨M, b, g, k, B0, cap', rfl, h1, h2, h3, h4, h5, h6, h7, h8, h9, h10, K5⟩
  go_wp2
  go_ret
  have K45 := KK.trans_no K4
  have hsz := K45.size
  exact ⟨M, b, g, k, B0, cap', rfl, by omega, by omega, by omega, by omega, by omega, h6, h7, h8, h9, h10, K45.trans_no K5⟩

/-- A prefix up to a slash. -/
theorem slash_prefix : ∀ {a p b : List UInt8}, (47 : UInt8) ∉ a → (47 : UInt8) ∉ p → (p ++ [47]).isPrefixOf (a ++ 47 :: b) = true → a = p
  | [], [], _, _, _, _ => rfl
  | [], y :: p, b, _, hp, h => by
    simp only [List.cons_append, List.nil_append, List.isPrefixOf, Bool.and_eq_true, beq_iff_eq] at h
    exact absurd (h.1 ▸ List.mem_cons_self ..) hp
  | x :: a, [], b, ha, _, h => by
    simp only [List.cons_append, List.nil_append, List.isPrefixOf, Bool.and_eq_true, beq_iff_eq] at h
    exact absurd (h.1 ▸ List.mem_cons_self ..) ha
  | x :: a, y :: p, b, ha, hp, h => by
    simp only [List.cons_append, List.isPrefixOf, Bool.and_eq_true, beq_iff_eq] at h
    rw [slash_prefix (a := a) (p := p) (b := b) (fun e => ha (List.mem_cons_of_mem _ e)) (fun e => hp (List.mem_cons_of_mem _ e)) h.2, h.1]
theorem tok7_all {l : List UInt8} (h : tok7 l = true) : (∀ c ∈ l, t7b c = true) ∧ l.length ≤ 20 := by
  unfold tok7 at h
  simp only [Bool.and_eq_true, List.all_eq_true, decide_eq_true_eq] at h
  exact h
theorem tok7_no47 {l : List UInt8} (h : tok7 l = true) : (47 : UInt8) ∉ l := fun e => by
  have := (tok7_all h).1 _ e
  revert this
  decide
theorem typeV_no {m : Ml} (ok : MlOk m) (p : List UInt8) (hk : m.kind ≠ 1) : mpS.isPrefixOf (typeV m p) = false := by
  unfold typeV
  split
  · decide
  · cases h : mpS.isPrefixOf (m.type ++ 47 :: m.sub) with
    | false => rfl
    | true =>
      have N := ok.node
      have ht := slash_prefix (a := m.type) (p := multiS) (b := m.sub) (tok7_no47 N.typ) (by decide) h
      rcases N.knd.all with ⟨_, _, _, _, h1, _⟩ | ⟨h1, _⟩ | ⟨_, _, h1, _⟩
      · exact absurd ht h1
      · exact absurd h1 hk
      · rw [h1] at ht
        exact absurd ht (by decide)
theorem t7_low {c : UInt8} (h : t7b c = true) : lowN c.toNat := by
  have := (t7N_lt h).1
  unfold t7N at this
  unfold lowN
  omega
theorem pl_t7 {p : List UInt8} (h : PlOk p) : ∀ c ∈ bnd p, t7b c = true := by
  intro c hc
  unfold bnd at hc
  rcases List.mem_cons.1 hc with rfl | hc
  · decide
  · have := h c hc
    exact decide_eq_true (by unfold t7N; omega)
theorem typeV_low {m : Ml} (ok : MlOk m) {p : List UInt8} (hp : PlOk p) (hpl : p.length ≤ 40) : (∀ c ∈ typeV m p, lowN c.toNat) ∧ (typeV m p).length ≤ 200 := by
  have N := ok.node
  obtain ⟨t1, t2⟩ := tok7_all N.typ
  obtain ⟨s1, s2⟩ := tok7_all N.sb
  unfold typeV
  by_cases h0 : m.type = []
  · rw [if_pos h0]
    exact ⟨fun c hc => (by cases hc), by simp⟩
  rw [if_neg h0]
  by_cases h1 : m.kind = 1
  · rw [if_pos h1]
    refine ⟨fun c hc => ?_, by simp [mpS, bdS, bnd]; omega⟩
    simp only [List.mem_append] at hc
    rcases hc with ((hc | hc) | hc) | hc
    · have : ∀ c ∈ mpS, lowN c.toNat := by unfold lowN; decide
      exact this c hc
    · exact t7_low (s1 c hc)
    · have : ∀ c ∈ bdS, lowN c.toNat := by unfold lowN; decide
      exact this c hc
    · exact t7_low (pl_t7 hp c hc)
  · rw [if_neg h1]
    refine ⟨fun c hc => ?_, by simp; omega⟩
    simp only [List.mem_append, List.mem_cons] at hc
    rcases hc with hc | rfl | hc
    · exact t7_low (t1 c hc)
    · unfold lowN; decide
    · exact t7_low (s1 c hc)
end Go.Proofs.YtjbbapodcngnaaaGreatDoor.G
namespace Go.Proofs.YtjbbapodcngnaaaGreatDoor.G
open Go.RowKit Hdr

/-- A slice of pointers to structures. -/
abbrev BPs (w : World) (base : Nat) (v : Value) (l : List Nat) : Prop := w.ownsRow base 91 1 v l.length (ptrs l)
theorem BPs.keep {S : Nat → Prop} {w w' : World} {base : Nat} {v : Value} {l : List Nat} (h : BPs w base v l) (k : Keeps S w w') (hS : ∀ b, v.ownBlock = some b → ¬ S b) : BPs w' base v l := by
  obtain ⟨h1, h2⟩ := h
  refine ⟨h1, ?_⟩
  rcases h2 with h2 | ⟨g, cap, cur, rfl, hb, hg, h3⟩
  · exact .inl h2
  · exact .inr ⟨g, cap, cur, rfl, hb, (k.block g (Array.getElem?_eq_some_iff.1 hg).1 (hS g rfl)).trans hg, h3⟩

/-- A map of texts, or none. -/
def MapP (w : World) (A : Nat → Prop) (v : Value) (l : List (List UInt8 × List UInt8)) : Prop := (v = .map none ∧ l = []) ∨ ∃ mb, v = .map (some mb) ∧ A mb ∧ MapS w mb l
theorem MapP.keep {S A : Nat → Prop} {w w' : World} {v : Value} {l : List (List UInt8 × List UInt8)} (h : MapP w A v l) (k : Keeps S w w') (hS : ∀ x, A x → ¬ S x) : MapP w' A v l := by
  rcases h with h | ⟨mb, h1, h2, h3⟩
  · exact .inl h
  · exact .inr ⟨mb, h1, h2, h3.keep k (hS _ h2)⟩
theorem MapP.mono {A B : Nat → Prop} {w : World} {v : Value} {l : List (List UInt8 × List UInt8)} (h : MapP w A v l) (hS : ∀ x, x < w.heap.size → A x → B x) : MapP w B v l := by
  rcases h with h | ⟨mb, h1, h2, h3⟩
  · exact .inl h
  · exact .inr ⟨mb, h1, hS _ h3.lt h2, h3⟩

/-- Where the parts stand. -/
def BsKids (w : World) (A : Nat → Prop) (pv bp : Value) (ks : List Nat) : Prop := (BPs w 0 pv ks ∧ (∀ b, pv.ownBlock = some b → A b) ∧ bp = .pointer none) ∨ (pv = .slice none 0 0 ∧ ∃ k, ks = [k] ∧ bp = .pointer (some ⟨k, 0, none⟩))
theorem BsKids.keep {S A : Nat → Prop} {w w' : World} {pv bp : Value} {ks : List Nat} (h : BsKids w A pv bp ks) (k : Keeps S w w') (hS : ∀ x, A x → ¬ S x) : BsKids w' A pv bp ks := by
  rcases h with ⟨h1, h2, h3⟩ | h
  · exact .inl ⟨h1.keep k (fun b hb => hS b (h2 b hb)), h2, h3⟩
  · exact .inr h
theorem BPs.lt {w : World} {base : Nat} {v : Value} {l : List Nat} (h : BPs w base v l) : ∀ b, v.ownBlock = some b → b < w.heap.size := fun b hb => (World.ownsRow.lt h b hb).2
theorem BsKids.mono {A B : Nat → Prop} {w : World} {pv bp : Value} {ks : List Nat} (h : BsKids w A pv bp ks) (hS : ∀ x, x < w.heap.size → A x → B x) : BsKids w B pv bp ks := by
  rcases h with ⟨h1, h2, h3⟩ | h
  · exact .inl ⟨h1, fun b hb => hS b (h1.lt b hb) (h2 b hb), h3⟩
  · exact .inr h

/-- The cells of a structure. -/
def bsc (ty sub : List UInt8) (pm : Value) (id ab way : List UInt8) (n : Nat) (pv bp : Value) (lines : Nat) : List Value :=
  [str ty, str sub, pm, str id, str ab, str way, .int .u32 n, pv, bp, .int .u32 lines, .bool false, str [], .map none]
def parL (bn : List UInt8) : List (List UInt8 × List UInt8) := if bn = [] then [] else [(bndK, bn)]
mutual
/-- A structure at block k; its blocks are in A. -/
def BsAt (w : World) (A : Nat → Prop) : Sh → Nat → Prop
  | .mk ty sub bn id ab way n lines ps, k => A k ∧ (∃ pm pv bp ks, Blk w k (bsc ty sub pm id ab way n pv bp lines) 138 ∧ MapP w A pm (parL bn) ∧ BsKids w A pv bp ks ∧ BssAt w A ps ks)
def BssAt (w : World) (A : Nat → Prop) : List Sh → List Nat → Prop
  | [], ks => ks = []
  | x :: l, ks => ∃ k r, ks = k :: r ∧ BsAt w A x k ∧ BssAt w A l r
end
theorem BsAt_eq (w : World) (A : Nat → Prop) (ty sub bn id ab way : List UInt8) (n lines : Nat) (ps : List Sh) (k : Nat) : BsAt w A (.mk ty sub bn id ab way n lines ps) k = (A k ∧ (∃ pm pv bp ks, Blk w k (bsc ty sub pm id ab way n pv bp lines) 138 ∧ MapP w A pm (parL bn) ∧ BsKids w A pv bp ks ∧ BssAt w A ps ks)) := by rw [BsAt]
theorem BssAt_nil (w : World) (A : Nat → Prop) (ks : List Nat) : BssAt w A [] ks = (ks = []) := by rw [BssAt]
theorem BssAt_cons (w : World) (A : Nat → Prop) (x : Sh) (l : List Sh) (ks : List Nat) : BssAt w A (x :: l) ks = (∃ k r, ks = k :: r ∧ BsAt w A x k ∧ BssAt w A l r) := by rw [BssAt]
mutual
theorem BsAt.keep {S A : Nat → Prop} {w w' : World} (K : Keeps S w w') (hS : ∀ x, A x → ¬ S x) : ∀ (s : Sh) (k : Nat), BsAt w A s k → BsAt w' A s k
  | .mk ty sub bn id ab way n lines ps, k, h => by
    rw [BsAt_eq] at h ⊢
    obtain ⟨h1, pm, pv, bp, ks, h2, h3, h4, h5⟩ := h
    exact ⟨h1, pm, pv, bp, ks, h2.keep K (hS _ h1), h3.keep K hS, h4.keep K hS, BssAt.keep K hS ps ks h5⟩
theorem BssAt.keep {S A : Nat → Prop} {w w' : World} (K : Keeps S w w') (hS : ∀ x, A x → ¬ S x) : ∀ (l : List Sh) (ks : List Nat), BssAt w A l ks → BssAt w' A l ks
  | [], ks, h => by rw [BssAt_nil] at h ⊢; exact h
  | x :: l, ks, h => by
    rw [BssAt_cons] at h ⊢
    obtain ⟨k, r, h1, h2, h3⟩ := h
    exact ⟨k, r, h1, BsAt.keep K hS x k h2, BssAt.keep K hS l r h3⟩
end
mutual
theorem BsAt.mono {A B : Nat → Prop} {w : World} (hS : ∀ x, x < w.heap.size → A x → B x) : ∀ (s : Sh) (k : Nat), BsAt w A s k → BsAt w B s k
  | .mk ty sub bn id ab way n lines ps, k, h => by
    rw [BsAt_eq] at h ⊢
    obtain ⟨h1, pm, pv, bp, ks, h2, h3, h4, h5⟩ := h
    exact ⟨hS _ h2.lt h1, pm, pv, bp, ks, h2, h3.mono hS, h4.mono hS, BssAt.mono hS ps ks h5⟩
theorem BssAt.mono {A B : Nat → Prop} {w : World} (hS : ∀ x, x < w.heap.size → A x → B x) : ∀ (l : List Sh) (ks : List Nat), BssAt w A l ks → BssAt w B l ks
  | [], ks, h => by rw [BssAt_nil] at h ⊢; exact h
  | x :: l, ks, h => by
    rw [BssAt_cons] at h ⊢
    obtain ⟨k, r, h1, h2, h3⟩ := h
    exact ⟨k, r, h1, BsAt.mono hS x k h2, BssAt.mono hS l r h3⟩
end
theorem BssAt.snoc {A : Nat → Prop} {w : World} {x : Sh} {k : Nat} (hx : BsAt w A x k) : ∀ (l : List Sh) (ks : List Nat), BssAt w A l ks → BssAt w A (l ++ [x]) (ks ++ [k])
  | [], ks, h => by
    rw [BssAt_nil] at h
    subst h
    rw [List.nil_append, BssAt_cons]
    exact ⟨k, [], rfl, hx, by rw [BssAt_nil]⟩
  | y :: l, ks, h => by
    rw [BssAt_cons] at h
    obtain ⟨j, r, rfl, h2, h3⟩ := h
    rw [List.cons_append, BssAt_cons]
    exact ⟨j, r ++ [k], rfl, h2, BssAt.snoc hx l r h3⟩
theorem BssAt.len {A : Nat → Prop} {w : World} : ∀ (l : List Sh) (ks : List Nat), BssAt w A l ks → ks.length = l.length
  | [], ks, h => by rw [BssAt_nil] at h; subst h; rfl
  | y :: l, ks, h => by
    rw [BssAt_cons] at h
    obtain ⟨j, r, rfl, h2, h3⟩ := h
    rw [List.length_cons, List.length_cons, BssAt.len l r h3]

/-- append(s, x): one pointer, laid into a block of its own first. -/
theorem info_bs : (Tryz.prog.info? 91).map (fun i => (i.zero, i.size, i.bytes)) = some (some (.pointer none), 1, 8) := by kernel_rfl
theorem wpList_append_bs {w : World} {ops : Array Oper} {rest : List Oper} {o : Oper} {a : Act} {Q : Exit → Act → World → Prop} (hgd : o.guard = none) (s x : Operand)
    (ho : o.op = .call { callee := .builtin .append, args := #[s, x], argTypes := #[136, 136] })
    (base n : Nat) (v : Value) (l : List Nat) (hs : a.eval s = v) (hn : n = l.length) (hown : BPs w base v l)
    (ad : Addr) (c k : Nat) (hx : a.eval x = .slice (some ad) 1 c) (hnew : w.cell? ad = some (.pointer (some ⟨k, 0, none⟩)))
    (hb : n ≤ 1000000) (hbase : base ≤ w.heap.size)
    (h : ∀ v' W, BPs W base v' (l ++ [k]) → Keeps (fun x => v.ownBlock = some x) w W → (∀ x, v'.ownBlock = some x → v.ownBlock = some x ∨ w.heap.size ≤ x) → wpList Tryz.prog ops Q rest (a.put o.dst v') W) : wpList Tryz.prog ops Q (o :: rest) a w := by
  subst hn
  obtain ⟨i, hi, hz0, hz1, hz2⟩ := info_parts info_bs
  refine wpList_append_own_at (P := Tryz.prog) w hgd s x 136 ho base 91 i (.pointer none) 1 8 Tryz.underlying136 hi hz0 hz1 hz2 rfl (by decide) v l.length (ptrs l) hs hown ad 1 c (ptrs [k]) hx (by simp) (fun j u hj => ?_) (ptrs_one [k]) (by unfold maxLen; omega) (by omega) hbase ?_
  · match j with
    | 0 => simp [ptrs] at hj; subst hj; rw [show ad.add 0 = ad by simp [Addr.add]]; exact hnew
    | j + 1 => simp [ptrs] at hj
  intro v' W hrow hgr hnil hat
  rw [← ptrs_append] at hrow
  refine h v' W ?_ ?_ ?_
  · unfold BPs
    rw [List.length_append]
    exact hrow
  · exact (Keeps.refl _ w).grown hgr (fun k hk => .inl hk)
  · intro x hx
    rcases hat with hat | hat
    · exact .inl (hat ▸ hx)
    · rw [hat] at hx
      injection hx with hx
      exact .inr (Nat.le_of_eq hx)
end Go.Proofs.YtjbbapodcngnaaaGreatDoor.G
namespace Go.Proofs.YtjbbapodcngnaaaGreatDoor.G
open Go.RowKit Hdr

theorem info_par : (Tryz.prog.info? 102).map (fun i => (i.zero, i.size, i.bytes)) = some (some (.agg #[.string ⟨#[]⟩, .string ⟨#[]⟩]), 2, 32) := by kernel_rfl
theorem info_parS : (Tryz.prog.info? 98).map (·.desc) = some (.slice 102) := by kernel_rfl

theorem keeps_grow (w : World) (os : Array Obj) : Keeps No w (Go.Sort.grow w os) :=
  ⟨rfl, rfl, rfl, by simp, fun k hk _ => Go.Sort.heap_grow_old w os hk⟩
theorem sort_params (p : Option Addr) (n c : Nat) (h1 : n ≤ 1) (lf : Fn) (la lb : Array Value) (w : World) :
    Calls Tryz.prog 93 #[.iface 98 (.slice p n c), .func lf la lb] w fun e w' => e = .returned (.tuple #[]) ∧ Keeps No w w' := by
  cases hi : Tryz.prog.info? 98 with
  | none => have := info_parS; rw [hi] at this; cases this
  | some i =>
    have hd : i.desc = .slice 102 := by have := info_parS; rw [hi] at this; simpa using this
    cases hie : Tryz.prog.info? 102 with
    | none => have := info_par; rw [hie] at this; cases this
    | some ie =>
      have hK : Lib.swapperK n ie 25 = n + 1 := by
        rcases Nat.eq_zero_or_pos n with h | h
        · subst h; simp [Lib.swapperK]
        · obtain rfl : n = 1 := by omega
          simp [Lib.swapperK]
      refine (Tryz.sort_Slice_tiny 98 102 i ie hi hd (by kernel_rfl) hie 25 (fun _ => by kernel_rfl) p n c h1 (163 + n) (by
        rw [hK]
        rcases Nat.eq_zero_or_pos n with h | h
        · subst h; kernel_rfl
        · obtain rfl : n = 1 := by omega
          kernel_rfl) lf la lb w).mono ?_
      rintro e w' ⟨rfl, os, rfl⟩
      exact ⟨rfl, keeps_grow w os⟩

/-- A row of ours, kept. -/
theorem rowK {S : Nat → Prop} {w w' : World} {base : Nat} {e : TypeId} {size n : Nat} {v : Value} {xs : List Value} (h : w.ownsRow base e size v n xs) (k : Keeps S w w') (hS : ∀ b, v.ownBlock = some b → ¬ S b) : w'.ownsRow base e size v n xs := by
  obtain ⟨h1, h2⟩ := h
  refine ⟨h1, ?_⟩
  rcases h2 with h2 | ⟨g, cap, cur, rfl, hb, hg, h3⟩
  · exact .inl h2
  · exact .inr ⟨g, cap, cur, rfl, hb, (k.block g (Array.getElem?_eq_some_iff.1 hg).1 (hS g rfl)).trans hg, h3⟩
/-- The cells of parameters. -/
def parCs (l : List (List UInt8 × List UInt8)) : List Value := l.flatMap fun x => [str x.1, str x.2]
/-- What paramsOf leaves. -/
def PsPost (l : List (List UInt8 × List UInt8)) (w : World) (e : Ending) (w' : World) : Prop :=
  ∃ pv, e = .returned pv ∧ w'.ownsRow w.heap.size 102 2 pv l.length (parCs l) ∧ Keeps No w w'

set_option maxRecDepth 100000 in
set_option maxHeartbeats 1000000 in
theorem params_nil (w : World) : Calls Tryz.prog 66 #[.map none] w (PsPost [] w) := by
  have hrg := run_range_nilMap (P := Tryz.prog) (w.alloc (.cells #[.slice none 0 0] 98)) 135 9 9 und_mapS
  have hnx := fun ty => run_next_nilMap (P := Tryz.prog) (w.alloc (.cells #[.slice none 0 0] 98)) ty 0 0 #[]
  rw [show (w.alloc (.cells #[.slice none 0 0] 98)).heap.size = w.heap.size + 1 by simp] at hnx
  have hB := (Blk.new w [.slice none 0 0] 98).keep_no (((Keeps.refl No (w.alloc (.cells #[.slice none 0 0] 98))).alloc (.mapIter none 0 #[] 0)))
  have K : Keeps No w ((w.alloc (.cells #[.slice none 0 0] 98)).alloc (.mapIter none 0 #[] 0)) := ((Keeps.refl No w).alloc _).alloc _
  have c0 : ((w.alloc (.cells #[.slice none 0 0] 98)).alloc (.mapIter none 0 #[] 0)).cell? ⟨w.heap.size, 0, none⟩ = some (.slice none 0 0) := hB.cell 0
  go_enter Tryz.func66, Tryz.ntmps66
  go_wp2
  have HB := Lib.hid hB
  have HK := Lib.hid K
  clear hB K
  generalize ((w.alloc (.cells #[.slice none 0 0] 98)).alloc (.mapIter none 0 #[] 0)) = wd at *
  refine wp_loop_rounds 1 ?_
  rw [rounds_succ]
  go_wp2_with (fail)
  refine (sort_params none 0 0 (by decide) _ _ _ wd).mono ?_
  rintro e w' ⟨rfl, K⟩
  have c1 : w'.cell? ⟨w.heap.size, 0, none⟩ = some (.slice none 0 0) := (HB.out.keep_no K).cell 0
  go_wp2
  go_ret
  exact ⟨_, rfl, World.ownsRow_nil _ _ _ _, HK.out.trans_no K⟩

set_option maxRecDepth 100000 in
set_option maxHeartbeats 1000000 in
theorem params_empty (mb : Nat) (w : World) (h : MapS w mb []) : Calls Tryz.prog 66 #[.map (some mb)] w (PsPost [] w) := by
  have hlt := h.lt
  obtain ⟨es, ck, hb, he, _⟩ := h
  have hes : es = #[] := by simpa using he
  subst hes
  have hbA : (w.alloc (.cells #[.slice none 0 0] 98)).heap[mb]? = some (.map #[] ck) := by rw [heap_alloc_old w _ hlt]; exact hb
  have hrg := run_range_map (P := Tryz.prog) (w.alloc (.cells #[.slice none 0 0] 98)) 135 9 9 mb #[] ck und_mapS hbA
  have hsz : (w.alloc (.cells #[.slice none 0 0] 98)).heap.size = w.heap.size + 1 := by simp
  have hbB : ((w.alloc (.cells #[.slice none 0 0] 98)).alloc (.mapIter (some mb) ck #[] ck)).heap[mb]? = some (.map #[] ck) := by rw [heap_alloc_old _ _ (by omega)]; exact hbA
  have hit := heap_alloc_new (w.alloc (.cells #[.slice none 0 0] 98)) (.mapIter (some mb) ck #[] ck)
  rw [hsz] at hit
  have hnx : ∀ ty, (Instr.next (.pointer (some ⟨w.heap.size + 1, 0, none⟩)) false ty).run Tryz.prog ((w.alloc (.cells #[.slice none 0 0] 98)).alloc (.mapIter (some mb) ck #[] ck)) = .ok (.tuple #[.bool false]) ((w.alloc (.cells #[.slice none 0 0] 98)).alloc (.mapIter (some mb) ck #[] ck)) := fun ty => by
    rcases Go.run_next_at _ ty (w.heap.size + 1) mb ck ck #[] #[] ck hit hbB (fun x h => by cases h) (Nat.le_refl _) with ⟨_, h⟩ | ⟨e, he, _⟩
    · exact h
    · simp [leftOf] at he
  have hB := (Blk.new w [.slice none 0 0] 98).keep_no (((Keeps.refl No (w.alloc (.cells #[.slice none 0 0] 98))).alloc (.mapIter (some mb) ck #[] ck)))
  have K : Keeps No w ((w.alloc (.cells #[.slice none 0 0] 98)).alloc (.mapIter (some mb) ck #[] ck)) := ((Keeps.refl No w).alloc _).alloc _
  have c0 : ((w.alloc (.cells #[.slice none 0 0] 98)).alloc (.mapIter (some mb) ck #[] ck)).cell? ⟨w.heap.size, 0, none⟩ = some (.slice none 0 0) := hB.cell 0
  clear hbA hbB hit hb he
  go_enter Tryz.func66, Tryz.ntmps66
  go_wp2
  have HB := Lib.hid hB
  have HK := Lib.hid K
  clear hB K hrg
  generalize ((w.alloc (.cells #[.slice none 0 0] 98)).alloc (.mapIter (some mb) ck #[] ck)) = wd at *
  refine wp_loop_rounds 1 ?_
  rw [rounds_succ]
  go_wp2_with (fail)
  refine (sort_params none 0 0 (by decide) _ _ _ wd).mono ?_
  rintro e w' ⟨rfl, K⟩
  have c1 : w'.cell? ⟨w.heap.size, 0, none⟩ = some (.slice none 0 0) := (HB.out.keep_no K).cell 0
  go_wp2
  go_ret
  exact ⟨_, rfl, World.ownsRow_nil _ _ _ _, HK.out.trans_no K⟩

theorem row_one {w : World} {base : Nat} {e : TypeId} {size : Nat} {v : Value} {xs : List Value} (h : w.ownsRow base e size v (0 + 1) xs) : ∃ g cap, v = .slice (some ⟨g, 0, none⟩) 1 cap := by
  rcases h.2 with ⟨_, h⟩ | ⟨g, cap, cur, rfl, _⟩
  · omega
  · exact ⟨g, cap, rfl⟩
/-- Behind the only entry. -/
theorem par_round2 {w wE W : World} {mb ck : Nat} {e : MapEntry} (HE : wE.heap[w.heap.size + 1]? = some (.mapIter (some mb) ck #[e.born] ck)) (HBE : wE.heap[mb]? = some (.map #[e] ck)) (HB : Blk wE w.heap.size [.slice none 0 0] 98) (KW : Keeps No wE W) (hlt : mb < w.heap.size) (hbn : e.born < ck) (v : Value) :
    Blk W w.heap.size [.slice none 0 0] 98 ∧ ∀ ty, (Instr.next (.pointer (some ⟨w.heap.size + 1, 0, none⟩)) false ty).run Tryz.prog (W.setCell ⟨w.heap.size, 0, none⟩ v) = .ok (.tuple #[.bool false]) (W.setCell ⟨w.heap.size, 0, none⟩ v) := by
  have h1 : w.heap.size + 1 < wE.heap.size := (Array.getElem?_eq_some_iff.1 HE).1
  refine ⟨HB.keep_no KW, fun ty => ?_⟩
  have kk : Keeps (In [w.heap.size]) wE (W.setCell ⟨w.heap.size, 0, none⟩ v) := (KW.of_no).setCell (.inl (by simp [In])) v
  have e1 := (kk.block _ h1 (fun h => by simp [In] at h)).trans HE
  have e2 := (kk.block mb (by omega) (fun h => by simp [In] at h; omega)).trans HBE
  rcases Go.run_next_at (P := Tryz.prog) _ ty (w.heap.size + 1) mb ck ck #[e.born] #[e] ck e1 e2 (fun x h => by simp at h; subst h; exact hbn) (Nat.le_refl _) with ⟨_, h⟩ | ⟨e', he', _⟩
  · exact h
  · unfold leftOf at he'
    simp at he'

set_option maxRecDepth 100000 in
set_option maxHeartbeats 1000000 in
theorem params_one (mb : Nat) (k v : List UInt8) (w : World) (h : MapS w mb [(k, v)]) : Calls Tryz.prog 66 #[.map (some mb)] w (PsPost [(k, v)] w) := by
  have hlt := h.lt
  obtain ⟨es, ck, hb, he, hbn⟩ := h
  obtain ⟨e, rfl⟩ : ∃ e, es = #[e] := by
    have hl := congrArg List.length he
    simp at hl
    exact ⟨es[0], Array.ext (by simpa using hl) (fun i h1 h2 => by simp at h2; subst h2; rfl)⟩
  simp at he hbn
  obtain ⟨hek, hev⟩ := he
  have hbA : (w.alloc (.cells #[.slice none 0 0] 98)).heap[mb]? = some (.map #[e] ck) := by rw [heap_alloc_old w _ hlt]; exact hb
  have hrg := run_range_map (P := Tryz.prog) (w.alloc (.cells #[.slice none 0 0] 98)) 135 9 9 mb #[e] ck und_mapS hbA
  have hsz : (w.alloc (.cells #[.slice none 0 0] 98)).heap.size = w.heap.size + 1 := by simp
  have hbB : ((w.alloc (.cells #[.slice none 0 0] 98)).alloc (.mapIter (some mb) ck #[] ck)).heap[mb]? = some (.map #[e] ck) := by rw [heap_alloc_old _ _ (by omega)]; exact hbA
  have hit := heap_alloc_new (w.alloc (.cells #[.slice none 0 0] 98)) (.mapIter (some mb) ck #[] ck)
  rw [hsz] at hit
  have hlo : leftOf #[e] #[] = #[e] := by unfold leftOf; simp
  obtain ⟨w1, hw1, hnx⟩ : ∃ w1, (w1 = ((w.alloc (.cells #[.slice none 0 0] 98)).alloc (.mapIter (some mb) ck #[] ck)) ∨ w1 = ((w.alloc (.cells #[.slice none 0 0] 98)).alloc (.mapIter (some mb) ck #[] ck)).drew) ∧
      ∀ ty, (Instr.next (.pointer (some ⟨w.heap.size + 1, 0, none⟩)) false ty).run Tryz.prog ((w.alloc (.cells #[.slice none 0 0] 98)).alloc (.mapIter (some mb) ck #[] ck)) = .ok (.tuple #[.bool true, str k, str v]) (setM w1 (w.heap.size + 1) (.mapIter (some mb) ck #[e.born] ck)) := by
    rcases Go.run_next_at (P := Tryz.prog) _ 9 (w.heap.size + 1) mb ck ck #[] #[e] ck hit hbB (fun x h => by simp at h; subst h; exact hbn) (Nat.le_refl _) with ⟨h, _⟩ | ⟨e', he', w1, h1, h2⟩
    · rw [hlo] at h; simp at h
    · rw [hlo] at he'
      simp at he'
      subst he'
      exact ⟨w1, h1, fun ty => by rw [← hek, ← hev]; exact h2⟩
  have K1 : Keeps No ((w.alloc (.cells #[.slice none 0 0] 98)).alloc (.mapIter (some mb) ck #[] ck)) w1 := by
    rcases hw1 with rfl | rfl
    · exact Keeps.refl _ _
    · exact (Keeps.refl _ _).drew
  have hrl : w.heap.size + 1 < w1.heap.size := by have := K1.size; simp at this; omega
  have hE := setM_same (w := w1) (.mapIter (some mb) ck #[e.born] ck) hrl
  have KE : Keeps (In [w.heap.size + 1]) ((w.alloc (.cells #[.slice none 0 0] 98)).alloc (.mapIter (some mb) ck #[] ck)) (setM w1 (w.heap.size + 1) (.mapIter (some mb) ck #[e.born] ck)) := (K1.of_no).trans' (setM_keeps _ _ _)
  have hbE : (setM w1 (w.heap.size + 1) (.mapIter (some mb) ck #[e.born] ck)).heap[mb]? = some (.map #[e] ck) := by
    rw [KE.block mb (by simp; omega) (fun h => by simp [In] at h; omega)]
    exact hbB
  have hB := (((Blk.new w [.slice none 0 0] 98).keep_no (((Keeps.refl No (w.alloc (.cells #[.slice none 0 0] 98))).alloc (.mapIter (some mb) ck #[] ck)))).keep KE (fun h => by simp [In] at h))
  have K : Keeps No w (setM w1 (w.heap.size + 1) (.mapIter (some mb) ck #[e.born] ck)) := (((Keeps.refl No w).alloc _).alloc _).trans KE (fun i hi h => by simp [In] at h; omega)
  have hen : (Instr.entry (.pointer (some ⟨w.heap.size + 1, 0, none⟩))).run Tryz.prog (setM w1 (w.heap.size + 1) (.mapIter (some mb) ck #[e.born] ck)) = .ok (.tuple #[str k, str v]) (setM w1 (w.heap.size + 1) (.mapIter (some mb) ck #[e.born] ck)) := by
    have := Go.run_entry_at (P := Tryz.prog) _ (w.heap.size + 1) mb ck #[] #[e] ck e hE hbE (by simp) (by simp)
    rw [hek, hev] at this
    exact this
  have c0 : (setM w1 (w.heap.size + 1) (.mapIter (some mb) ck #[e.born] ck)).cell? ⟨w.heap.size, 0, none⟩ = some (.slice none 0 0) := hB.cell 0
  have hrE : w.heap.size + 1 < (setM w1 (w.heap.size + 1) (.mapIter (some mb) ck #[e.born] ck)).heap.size := (Array.getElem?_eq_some_iff.1 hE).1
  have HE := Lib.hid hE
  have HBE := Lib.hid hbE
  have HB := Lib.hid hB
  have HK := Lib.hid K
  have HBN := Lib.hid hbn
  clear hbA hbB hit hb hw1 K1 KE hE hbE hB K hek hev hbn hsz hlo hrl
  go_enter Tryz.func66, Tryz.ntmps66
  go_wp2
  generalize ((w.alloc (.cells #[.slice none 0 0] 98)).alloc (.mapIter (some mb) ck #[] ck)) = wd at *
  clear hrg
  generalize (setM w1 (w.heap.size + 1) (.mapIter (some mb) ck #[e.born] ck)) = wE at *
  refine wp_loop_rounds 2 ?_
  rw [rounds_succ]
  obtain ⟨i0, hi, hz0, hz1, hz2⟩ := info_parts info_par
  have hCB := Blk.new wE [str k, str v] 102
  have HC1 := Lib.hid (show ∀ j u, (parCs [(k, v)])[j]? = some u → (wE.alloc (.cells #[str k, str v] 102)).cell? ((⟨wE.heap.size, 0, none⟩ : Addr).add j) = some u from fun j u hj => by
    match j with
    | 0 => simp [parCs] at hj; subst hj; exact hCB.cell 0
    | 1 => simp [parCs] at hj; subst hj; exact hCB.cell 1
    | j + 2 => simp [parCs] at hj)
  have HC2 := Lib.hid (show ∀ u ∈ parCs [(k, v)], u.oneCell' = true from fun u hu => by simp [parCs] at hu; rcases hu with rfl | rfl <;> rfl)
  have HSZ := Lib.hid (show w.heap.size ≤ (wE.alloc (.cells #[str k, str v] 102)).heap.size by simp; omega)
  clear hCB
  go_wp2_with (at_builtin; refine wpList_append_own _ rfl (.tmp 13) (.tmp 17) 98 rfl w.heap.size 102 i0 (.agg #[.string ⟨#[]⟩, .string ⟨#[]⟩]) 2 32 Tryz.underlying98 hi hz0 hz1 hz2 rfl (by decide) (.slice none 0 0) 0 [] rfl (World.ownsRow_nil _ _ _ _) ⟨wE.heap.size, 0, none⟩ 1 1 (parCs [(k, v)]) rfl rfl HC1.out HC2.out (by unfold maxLen; omega) (by omega) HSZ.out ?_; intro v' W hrow hgr hnil; obtain ⟨g', cap', rfl⟩ := row_one hrow; have KW : Keeps No wE W := ((Keeps.refl No wE).alloc _).grown hgr (fun k hk => by simp [Value.ownBlock] at hk); obtain ⟨BW, hnx2⟩ := par_round2 HE.out HBE.out HB.out KW hlt HBN.out (.slice (some ⟨g', 0, none⟩) 1 cap'); have c0W : W.cell? ⟨w.heap.size, 0, none⟩ = some (.slice none 0 0) := BW.cell 0; have fzW := BW.frozen; have HRW := Lib.hid hrow; have HBW := Lib.hid BW; have HKW := Lib.hid (HK.out.trans_no KW); clear hrow hgr hnil BW KW)
  go_wp2
  rw [rounds_succ]
  go_wp2_with (fail)
  have hg' : w.heap.size ≠ g' := fun e => by
    rcases HRW.out.2 with ⟨h, _⟩ | ⟨g2, c2, cur, h, _, hb2, _⟩
    · cases h
    · injection h with h1 h2 h3
      injection h1 with h1
      injection h1 with h1
      subst h1
      subst e
      have := HBW.out
      unfold Blk at this
      rw [this] at hb2
      injection hb2 with hb2
      injection hb2 with _ hb2 _
      revert hb2
      decide
  have KS : Keeps (In [w.heap.size]) W (W.setCell ⟨w.heap.size, 0, none⟩ (.slice (some ⟨g', 0, none⟩) 1 cap')) := (Keeps.refl _ W).setCell (.inl (by simp [In])) _
  have B2 := (HBW.out.set 0 (.slice (some ⟨g', 0, none⟩) 1 cap')).to (show _ = [.slice (some ⟨g', 0, none⟩) 1 cap'] from rfl)
  have HB2 := Lib.hid B2
  have HKS := Lib.hid KS
  clear B2 KS
  refine (sort_params (some ⟨g', 0, none⟩) 1 cap' (by decide) _ _ _ _).mono ?_
  rintro e w' ⟨rfl, K⟩
  have c1 : w'.cell? ⟨w.heap.size, 0, none⟩ = some (.slice (some ⟨g', 0, none⟩) 1 cap') := (HB2.out.keep_no K).cell 0
  go_wp2
  go_ret
  exact ⟨_, rfl, rowK (rowK HRW.out HKS.out (fun b hb h => by simp [Value.ownBlock] at hb; simp [In] at h; omega)) K (fun b hb h => h), (HKW.out.setCell (.inr (Nat.le_refl _)) _).trans_no K⟩
end Go.Proofs.YtjbbapodcngnaaaGreatDoor.G
namespace Go.Proofs.YtjbbapodcngnaaaGreatDoor.G
open Go.RowKit Hdr

theorem info_st : (Tryz.prog.info? 100).map (fun i => (i.zero, i.size, i.bytes)) = some (some (.agg #[.string ⟨#[]⟩, .string ⟨#[]⟩, .slice none 0 0, .string ⟨#[]⟩, .string ⟨#[]⟩, .string ⟨#[]⟩, .int .u32 0, .int .u32 0, .int .i64 0]), 9, 120) := by kernel_rfl
theorem params_any {A : Nat → Prop} {w : World} {v : Value} {bn : List UInt8} (h : MapP w A v (parL bn)) : Calls Tryz.prog 66 #[v] w (PsPost (parL bn) w) := by
  rcases h with ⟨rfl, h⟩ | ⟨mb, rfl, _, h⟩
  · rw [h]
    exact params_nil w
  · unfold parL at h ⊢
    split at h
    · rename_i hb
      rw [if_pos hb]
      exact params_empty mb w h
    · rename_i hb
      rw [if_neg hb]
      exact params_one mb _ _ w h

theorem rowV {w : World} {base n : Nat} {e : TypeId} {size : Nat} {v : Value} {xs : List Value} (h : w.ownsRow base e size v n xs) : ∃ a m c, v = .slice a m c := by
  rcases h.2 with ⟨rfl, _⟩ | ⟨g, cap, cur, rfl, _⟩
  · exact ⟨_, _, _, rfl⟩
  · exact ⟨_, _, _, rfl⟩
theorem rowBase {w : World} {base base' n : Nat} {e : TypeId} {size : Nat} {v : Value} {xs : List Value} (h : w.ownsRow base' e size v n xs) (hb : base ≤ base') : w.ownsRow base e size v n xs := by
  obtain ⟨h1, h2⟩ := h
  refine ⟨h1, ?_⟩
  rcases h2 with h2 | ⟨g, cap, cur, rfl, hg, h3⟩
  · exact .inl h2
  · exact .inr ⟨g, cap, cur, rfl, by omega, h3⟩
/-- The cells of a Struct. -/
def stC (r : SR) (pv : Value) (n : Nat) : List Value := [str r.type, str r.sub, pv, str r.id, str r.about, str r.way, .int .u32 r.bytes, .int .u32 r.lines, .int .i64 n]
def stCs (l : List (SR × Value)) : List Value := l.flatMap fun x => stC x.1 x.2 x.1.size
theorem stCs_append (a b : List (SR × Value)) : stCs (a ++ b) = stCs a ++ stCs b := by unfold stCs; rw [List.flatMap_append]
/-- Structures told: a slice of them, with their parameters. -/
def StsAt (w : World) (base : Nat) (v : Value) (rs : List SR) : Prop :=
  ∃ ps : List (SR × Value), ps.map Prod.fst = rs ∧ w.ownsRow base 100 9 v rs.length (stCs ps) ∧ ∀ x ∈ ps, w.ownsRow base 102 2 x.2 x.1.params.length (parCs x.1.params)
def StPost (rs : List SR) (w : World) (e : Ending) (w' : World) : Prop := ∃ v, e = .returned v ∧ StsAt w' w.heap.size v rs ∧ Keeps No w w'

theorem row_ne {w : World} {b1 b2 n1 n2 s1 s2 : Nat} {e1 e2 : TypeId} {v1 v2 : Value} {xs1 xs2 : List Value} (h1 : w.ownsRow b1 e1 s1 v1 n1 xs1) (h2 : w.ownsRow b2 e2 s2 v2 n2 xs2) (hne : e1 ≠ e2) : ∀ x, v1.ownBlock = some x → v2.ownBlock ≠ some x := by
  intro x hx hy
  rcases h1.2 with ⟨rfl, _⟩ | ⟨g, cap, cur, rfl, _, hg, _⟩
  · cases hx
  · rcases h2.2 with ⟨rfl, _⟩ | ⟨g2, cap2, cur2, rfl, _, hg2, _⟩
    · cases hy
    · simp [Value.ownBlock] at hx hy
      subst hx
      subst hy
      rw [hg] at hg2
      injection hg2 with hg2
      injection hg2 with _ h _
      exact hne h
theorem row_pos {w : World} {base n : Nat} {e : TypeId} {size : Nat} {v : Value} {xs : List Value} (h : w.ownsRow base e size v n xs) (hn : 0 < n) : ∃ g cap, v = .slice (some ⟨g, 0, none⟩) n cap ∧ ∀ j u, xs[j]? = some u → w.cell? ⟨g, j, none⟩ = some u := by
  rcases h.2 with ⟨_, h0⟩ | ⟨g, cap, cur, rfl, _, hg, _, _, _, ht⟩
  · omega
  · refine ⟨g, cap, rfl, fun j u hj => ?_⟩
    rw [← ht, List.getElem?_take] at hj
    split at hj
    · simp only [World.cell?, hg]
      simpa using hj
    · cases hj
/-- One list behind the other. -/
theorem sts_append {w W : World} {base : Nat} {s4 v' : Value} {rs1 rs2 : List SR} {ps1 ps2 : List (SR × Value)} (e1 : ps1.map Prod.fst = rs1) (h1 : w.ownsRow base 100 9 s4 rs1.length (stCs ps1)) (p1 : ∀ x ∈ ps1, w.ownsRow base 102 2 x.2 x.1.params.length (parCs x.1.params))
    (e2 : ps2.map Prod.fst = rs2) (p2 : ∀ x ∈ ps2, w.ownsRow base 102 2 x.2 x.1.params.length (parCs x.1.params)) (K : Keeps (fun x => s4.ownBlock = some x) w W) (hv : W.ownsRow base 100 9 v' (rs1.length + rs2.length) (stCs ps1 ++ stCs ps2)) : StsAt W base v' (rs1 ++ rs2) := by
  refine ⟨ps1 ++ ps2, by rw [List.map_append, e1, e2], by rw [List.length_append, stCs_append]; exact hv, fun x hx => ?_⟩
  have : w.ownsRow base 102 2 x.2 x.1.params.length (parCs x.1.params) := by
    rcases List.mem_append.1 hx with hx | hx
    · exact p1 x hx
    · exact p2 x hx
  exact rowK this K (fun b hb h => row_ne this h1 (by decide) b hb h)
theorem StsAt.keep {S : Nat → Prop} {w w' : World} {base : Nat} {v : Value} {rs : List SR} (h : StsAt w base v rs) (K : Keeps S w w') (hS : ∀ x, S x → x < base) : StsAt w' base v rs := by
  obtain ⟨ps, h1, h2, h3⟩ := h
  exact ⟨ps, h1, rowK h2 K (fun b hb h => by have := hS b h; have := (World.ownsRow.lt h2 b hb).1; omega), fun x hx => rowK (h3 x hx) K (fun b hb h => by have := hS b h; have := (World.ownsRow.lt (h3 x hx) b hb).1; omega)⟩
theorem stC_one (r : SR) (pv : Value) (n : Nat) (hp : ∃ a m c, pv = .slice a m c) : ∀ u ∈ stC r pv n, u.oneCell' = true := by
  obtain ⟨a, m, c, rfl⟩ := hp
  intro u hu
  simp only [stC, List.mem_cons, List.not_mem_nil, or_false] at hu
  rcases hu with rfl | rfl | rfl | rfl | rfl | rfl | rfl | rfl | rfl <;> rfl
theorem stCs_ones {w : World} {base : Nat} {ps : List (SR × Value)} (p : ∀ x ∈ ps, w.ownsRow base 102 2 x.2 x.1.params.length (parCs x.1.params)) : ∀ u ∈ stCs ps, u.oneCell' = true := by
  intro u hu
  unfold stCs at hu
  obtain ⟨x, hx, hu⟩ := List.mem_flatMap.1 hu
  exact stC_one _ _ _ (rowV (p x hx)) u hu
theorem flat_take (rss : List (List SR)) (i : Nat) (rs : List SR) (h : rss[i]? = some rs) : (rss.take (i + 1)).flatten = (rss.take i).flatten ++ rs := by
  rw [List.take_add_one, h]
  simp
theorem flat_take_len (rss : List (List SR)) (i : Nat) : (rss.take i).flatten.length ≤ rss.flatten.length := by
  have : rss.flatten = (rss.take i).flatten ++ (rss.drop i).flatten := by rw [← List.flatten_append, List.take_append_drop]
  rw [this, List.length_append]
  omega
/-- append(s, x...), both slices of Structs. -/
theorem wpList_append_st {w : World} {ops : Array Oper} {rest : List Oper} {o : Oper} {a : Act} {Q : Exit → Act → World → Prop} (hgd : o.guard = none) (s x : Operand)
    (ho : o.op = .call { callee := .builtin .append, args := #[s, x], argTypes := #[49, 49] })
    (base base2 n m : Nat) (vs vx : Value) (xs ys : List Value) (hs : a.eval s = vs) (hown : w.ownsRow base 100 9 vs n xs) (hx : a.eval x = vx) (hrow : w.ownsRow base2 100 9 vx m ys) (hones : ∀ u ∈ ys, u.oneCell' = true) (hb : n + m ≤ 1000000) (hbase : base ≤ w.heap.size)
    (h : ∀ v' W, W.ownsRow base 100 9 v' (n + m) (xs ++ ys) → Keeps (fun k => vs.ownBlock = some k) w W → wpList Tryz.prog ops Q rest (a.put o.dst v') W) : wpList Tryz.prog ops Q (o :: rest) a w := by
  obtain ⟨i0, hi, hz0, hz1, hz2⟩ := info_parts info_st
  rcases hrow.2 with ⟨h1, h0⟩ | ⟨g, cap, cur, h1, _, hg, _, _, _, ht⟩
  · have hm : m = 0 := h0
    have hy : ys = [] := List.eq_nil_of_length_eq_zero (by rw [hrow.1, hm])
    refine wpList_append_own_none (P := Tryz.prog) hgd s x 49 ho base 100 i0 9 Tryz.underlying49 hi vs n xs hs hown (hx.trans h1) ?_
    have := h vs w (by rw [hm, hy, List.append_nil]; exact hown) (Keeps.refl _ w)
    exact this
  · refine wpList_append_own (P := Tryz.prog) w hgd s x 49 ho base 100 i0 _ 9 120 Tryz.underlying49 hi hz0 hz1 hz2 rfl (by decide) vs n xs hs hown ⟨g, 0, none⟩ m cap ys (hx.trans h1) hrow.1 (fun j u hj => ?_) hones (by unfold maxLen; omega) (by omega) hbase ?_
    · rw [← ht, List.getElem?_take] at hj
      split at hj
      · rw [show (⟨g, 0, none⟩ : Addr).add j = ⟨g, 0 + j, none⟩ from Addr.add_mid g 0 j, Nat.zero_add]
        simp only [World.cell?, hg]
        simpa using hj
      · cases hj
    · intro v' W hr hgr _
      exact h v' W hr ((Keeps.refl _ w).grown hgr (fun k hk => .inl hk))
/-- All of it. -/
theorem node_post {w wc wx W : World} {kA : Nat} {ty sub id ab way : List UInt8} {n lines m : Nat} {pl : List (List UInt8 × List UInt8)} {pvv v' : Value} {rs : List SR} {ps : List (SR × Value)} (hm : m = rs.length) (K : Keeps No w wc) (hrow : wc.ownsRow w.heap.size 102 2 pvv pl.length (parCs pl)) (KX : Keeps No wc wx)
    (h1 : ps.map Prod.fst = rs) (h3 : ∀ x ∈ ps, wx.ownsRow wc.heap.size 102 2 x.2 x.1.params.length (parCs x.1.params)) {wz : World} (KZ : Keeps (In [kA]) wx wz) (hkA : Blk wc kA (stC ⟨ty, sub, pl, id, ab, way, n, lines, 0⟩ pvv 0) 100) (hkA0 : w.heap.size ≤ kA) (hkAl : kA < wc.heap.size)
    (KW : Keeps (fun k => k = wz.heap.size) wz W) (hv : W.ownsRow w.heap.size 100 9 v' (1 + m) (stC ⟨ty, sub, pl, id, ab, way, n, lines, 0⟩ pvv (1 + m) ++ stCs ps)) :
    StPost (⟨ty, sub, pl, id, ab, way, n, lines, 1 + m⟩ :: rs) w (.returned v') W := by
  have hcs := K.size
  refine ⟨v', rfl, ⟨(⟨ty, sub, pl, id, ab, way, n, lines, 1 + m⟩, pvv) :: ps, by rw [List.map_cons, h1], ?_, fun x hx => ?_⟩, ?_⟩
  · rw [List.length_cons, ← hm, Nat.add_comm m 1]
    exact hv
  · have kw : Keeps (fun k => k = kA) wx W := (KZ.mono (fun _ _ h => by simpa [In] using h)).trans KW (fun i hi h => by have := KZ.size; omega)
    have kty : ∀ {b : Nat} {vv : Value} {xs : List Value} {l b0 : Nat}, wx.ownsRow b0 102 2 vv l xs → vv.ownBlock = some b → b ≠ kA := fun {b vv xs l b0} h hb e => by
      have hk := hkA.keep_no KX
      rcases h.2 with ⟨rfl, _⟩ | ⟨g, cap, cur, rfl, _, hg, _⟩
      · cases hb
      · simp [Value.ownBlock] at hb
        subst hb
        subst e
        unfold Blk at hk
        rw [hk] at hg
        injection hg with hg
        injection hg with _ hg _
        revert hg
        decide
    rcases List.mem_cons.1 hx with rfl | hx
    · have h := rowK hrow KX (fun _ _ h => h)
      exact rowK h kw (fun b hb => kty h hb)
    · exact rowBase (rowK (h3 x hx) kw (fun b hb => kty (h3 x hx) hb)) hcs
  · refine ((K.trans_no KX).trans KZ (fun i hi h => ?_)).trans KW (fun i hi h => ?_)
    · simp [In] at h
      omega
    · have := KZ.size
      have := KX.size
      omega
/-- Nine cells laid, one by one. -/
def set9 (w : World) (b : Nat) (v0 v1 v2 v3 v4 v5 v6 v7 v8 : Value) : World := ((((((((w.setCell ⟨b, 0, none⟩ v0).setCell ⟨b, 1, none⟩ v1).setCell ⟨b, 2, none⟩ v2).setCell ⟨b, 3, none⟩ v3).setCell ⟨b, 4, none⟩ v4).setCell ⟨b, 5, none⟩ v5).setCell ⟨b, 6, none⟩ v6).setCell ⟨b, 7, none⟩ v7).setCell ⟨b, 8, none⟩ v8
theorem set9_blk {w : World} {b : Nat} {t : TypeId} {u0 u1 u2 u3 u4 u5 u6 u7 u8 : Value} (h : Blk w b [u0, u1, u2, u3, u4, u5, u6, u7, u8] t) (v0 v1 v2 v3 v4 v5 v6 v7 v8 : Value) : Blk (set9 w b v0 v1 v2 v3 v4 v5 v6 v7 v8) b [v0, v1, v2, v3, v4, v5, v6, v7, v8] t :=
  ((((((((h.set 0 v0).set 1 v1).set 2 v2).set 3 v3).set 4 v4).set 5 v5).set 6 v6).set 7 v7).set 8 v8
theorem set9_keeps (w : World) (b : Nat) (v0 v1 v2 v3 v4 v5 v6 v7 v8 : Value) : Keeps (In [b]) w (set9 w b v0 v1 v2 v3 v4 v5 v6 v7 v8) := by
  have h : ∀ (w' : World) (i : Nat) (v : Value), Keeps (In [b]) w w' → Keeps (In [b]) w (w'.setCell ⟨b, i, none⟩ v) := fun w' i v K => K.setCell (.inl (by simp [In])) v
  exact h _ _ _ (h _ _ _ (h _ _ _ (h _ _ _ (h _ _ _ (h _ _ _ (h _ _ _ (h _ _ _ (h _ _ _ (Keeps.refl _ w)))))))))
theorem order2_post {w wd wz w3 : World} {ty sub id ab way : List UInt8} {n lines : Nat} {pl : List (List UInt8 × List UInt8)} {sa : Option Addr} {sn sc : Nat} (KD : Keeps No w wd) (hB3 : Blk w3 wd.heap.size [.string ⟨#[]⟩, .string ⟨#[]⟩, .slice none 0 0, .string ⟨#[]⟩, .string ⟨#[]⟩, .string ⟨#[]⟩, .int .u32 0, .int .u32 0, .int .i64 0] 100) (hzz : wz.heap.size = wd.heap.size + 1)
    (hR : w3.ownsRow wz.heap.size 102 2 (.slice sa sn sc) pl.length (parCs pl)) (hK : Keeps No w w3) :
    ∃ kA pvv, (Value.pointer (some ⟨wd.heap.size, 0, none⟩)) = .pointer (some ⟨kA, 0, none⟩) ∧ w.heap.size ≤ kA ∧ Blk (set9 w3 wd.heap.size (str ty) (str sub) (.slice sa sn sc) (str id) (str ab) (str way) (.int .u32 n) (.int .u32 lines) (.int .i64 0)) kA (stC ⟨ty, sub, pl, id, ab, way, n, lines, 0⟩ pvv 0) 100 ∧
      (set9 w3 wd.heap.size (str ty) (str sub) (.slice sa sn sc) (str id) (str ab) (str way) (.int .u32 n) (.int .u32 lines) (.int .i64 0)).ownsRow w.heap.size 102 2 pvv pl.length (parCs pl) ∧ Keeps No w (set9 w3 wd.heap.size (str ty) (str sub) (.slice sa sn sc) (str id) (str ab) (str way) (.int .u32 n) (.int .u32 lines) (.int .i64 0)) := by
  have hds := KD.size
  have kk := set9_keeps w3 wd.heap.size (str ty) (str sub) (.slice sa sn sc) (str id) (str ab) (str way) (.int .u32 n) (.int .u32 lines) (.int .i64 0)
  refine ⟨wd.heap.size, .slice sa sn sc, rfl, hds, set9_blk hB3 _ _ _ _ _ _ _ _ _, rowBase (rowK hR kk (fun b hb h => ?_)) (by omega), hK.trans kk (fun i hi h => by simp [In] at h; omega)⟩
  have := (World.ownsRow.lt hR b hb).1
  simp [In] at h
  omega

theorem own_one (wy : World) (b base : Nat) (hb : b = wy.heap.size) (cs : List Value) (hl : cs.length = 9) (hba : base ≤ b) : (wy.alloc (.cells cs.toArray 100)).ownsRow base 100 9 (.slice (some ⟨b, 0, none⟩) 1 1) 1 cs := by
  subst hb
  exact ⟨by rw [hl], .inr ⟨wy.heap.size, 1, cs.toArray, rfl, hba, heap_alloc_new wy _, Nat.le_refl _, by unfold maxLen; omega, by simp [hl], by simp; exact List.take_of_length_le (by omega)⟩⟩
theorem flat_ge : ∀ {rss : List (List SR)}, (∀ rs ∈ rss, rs ≠ []) → rss.length ≤ rss.flatten.length
  | [], _ => Nat.zero_le _
  | r :: l, h => by
    have h1 := flat_ge (rss := l) (fun x hx => h x (List.mem_cons_of_mem _ hx))
    have h2 := List.length_pos_iff.2 (h r (List.mem_cons_self ..))
    rw [List.flatten_cons, List.length_append, List.length_cons]
    omega
theorem rowVn {w : World} {base n : Nat} {e : TypeId} {size : Nat} {v : Value} {xs : List Value} (h : w.ownsRow base e size v n xs) : ∃ a c, v = .slice a n c := by
  rcases h.2 with ⟨rfl, rfl⟩ | ⟨g, cap, cur, rfl, _⟩
  · exact ⟨_, _, rfl⟩
  · exact ⟨_, _, rfl⟩
theorem keeps_fin {wx W : World} {kA b : Nat} {v : Value} {cs : Array Value} {t : TypeId} (hb : b = wx.heap.size) (KW : Keeps (fun k => (Value.slice (some ⟨b, 0, none⟩) 1 1).ownBlock = some k) ((wx.setCell ⟨kA, 8, none⟩ v).alloc (.cells cs t)) W) :
    Keeps (In [kA]) wx (wx.setCell ⟨kA, 8, none⟩ v) ∧ Keeps (fun k => k = (wx.setCell ⟨kA, 8, none⟩ v).heap.size) (wx.setCell ⟨kA, 8, none⟩ v) W := by
  refine ⟨(Keeps.refl _ wx).setCell (.inl (by simp [In])) _, ((Keeps.refl _ _).alloc _).trans KW (fun i hi h => ?_)⟩
  simp [Value.ownBlock] at h
  simp
  omega
end Go.Proofs.YtjbbapodcngnaaaGreatDoor.G
namespace Go.Proofs.YtjbbapodcngnaaaGreatDoor.G
open Go.RowKit Hdr

set_option maxRecDepth 100000 in
set_option maxHeartbeats 4000000 in
theorem structs_node (k : Nat) (ty sub id ab way : List UInt8) (n lines : Nat) (pm pv bp : Value) (pl : List (List UInt8 × List UInt8)) (rss : List (List SR)) (ks : List Nat) (w : World)
    (IH : ∀ (i : Nat) (k' : Nat) (rs : List SR), ks[i]? = some k' → rss[i]? = some rs → ∀ W, Keeps No w W → Calls Tryz.prog 44 #[.pointer (some ⟨k', 0, none⟩)] W (StPost rs W)) (fl : List SR) (m : Nat) (hfl : rss.flatten = fl) (hml : fl.length = m) (hsz : m ≤ 1000) (hkl : ks.length = rss.length) (hpos : ∀ rs ∈ rss, rs ≠ [])
    (hkid : (BPs w 0 pv ks ∧ bp = .pointer none) ∨ (pv = .slice none 0 0 ∧ ∃ k, ks = [k] ∧ bp = .pointer (some ⟨k, 0, none⟩))) (hB : Blk w k (bsc ty sub pm id ab way n pv bp lines) 138) (hP : ∀ W, Keeps No w W → Calls Tryz.prog 66 #[pm] W (PsPost pl W)) :
    Calls Tryz.prog 44 #[.pointer (some ⟨k, 0, none⟩)] w (StPost (⟨ty, sub, pl, id, ab, way, n, lines, 1 + m⟩ :: fl) w) := by
  have PAR := Lib.hid hP
  have HB := Lib.hid hB
  have HIH := Lib.hid IH
  have HSZ := Lib.hid hsz
  have HKI := Lib.hid hkid
  have HKL := Lib.hid hkl
  have HPO := Lib.hid hpos
  have HFL := Lib.hid hfl
  have HML := Lib.hid hml
  clear hB hP IH hsz hkid hkl hpos hfl hml
  go_enter Tryz.func44, Tryz.ntmps44
  go_upto_region 1 with (fail)
  go_cut [3] (fun s3 wx => ∃ kA pvv, s3 = .pointer (some ⟨kA, 0, none⟩) ∧ w.heap.size ≤ kA ∧ Blk wx kA (stC ⟨ty, sub, pl, id, ab, way, n, lines, 0⟩ pvv 0) 100 ∧ wx.ownsRow w.heap.size 102 2 pvv pl.length (parCs pl) ∧ Keeps No w wx)
  case first =>
    refine region_fork [0, 1, 2, 3, 4, 5, 6, 7, 8, 9, 10, 11, 13, 14, 15, 16, 17, 18, 19, 20, 21, 22, 23, 24, 25, 26, 27, 28, 29, 30, 31, 32] 12 [([33], 34)] [] 34 [([], 12)] [33] 35 (fun W => Keeps No w W) (by kernel_rfl) (by kernel_rfl) ((Keeps.refl No w).drew) ?_
    simp only [segPick, List.map_cons, List.map_nil, pick, List.filterMap_cons, List.filterMap_nil, List.getElem?_cons_succ, List.getElem?_cons_zero, List.drop_succ_cons, List.drop_zero]
    intro ι F hne hF
    have k0 := fun i => (HB.out.keep_no (hF i)).cell 0
    have k1 := fun i => (HB.out.keep_no (hF i)).cell 1
    have k2 := fun i => (HB.out.keep_no (hF i)).cell 2
    have k3 := fun i => (HB.out.keep_no (hF i)).cell 3
    have k4 := fun i => (HB.out.keep_no (hF i)).cell 4
    have k5 := fun i => (HB.out.keep_no (hF i)).cell 5
    have k6 := fun i => (HB.out.keep_no (hF i)).cell 6
    have k9 := fun i => (HB.out.keep_no (hF i)).cell 9
    clear hF
    simp only [bsc, List.getElem?_cons_succ, List.getElem?_cons_zero] at k0 k1 k2 k3 k4 k5 k6 k9
    repeat (quiet_step (fail))
    refine wpQuiet_nil ?_
    clear k0 k1 k2 k3 k4 k5 k6 k9 hne F ι
    have KD : Keeps No w w.drew := (Keeps.refl No w).drew
    generalize w.drew = wd at *
    constructor
    · go_wp2_with (fail)
      refine (PAR.out wd KD).mono ?_
      rintro e w2 ⟨pvv, rfl, hrow, K2⟩
      obtain ⟨sa, sn, sc, rfl⟩ := rowV hrow
      have HR := Lib.hid (rowBase hrow KD.size)
      have HK := Lib.hid (KD.trans_no K2)
      clear hrow K2
      go_wp2
      refine EffPost.intro HK.out ?_
      rw [wpSegs]
      intro ι F hne hF
      clear hF
      repeat (quiet_step (fail))
      refine wpQuiet_nil ?_
      clear hne F ι
      go_wp2
      refine EffPost.intro (HK.out.alloc _) ?_
      rw [wpSegs]
      intro ι F hne hF
      clear hF
      refine wpQuiet_nil ?_
      clear hne F ι
      go_wp2
      go_meet
      case rel => exact ⟨w2.heap.size, .slice sa sn sc, rfl, HK.out.size, Blk.new w2 _ _, rowK HR.out ((Keeps.refl No w2).alloc _) (fun _ _ h => h), HK.out.alloc _⟩
    · go_wp2
      have KZ : Keeps No w (wd.alloc (.cells #[.string ⟨#[]⟩, .string ⟨#[]⟩, .slice none 0 0, .string ⟨#[]⟩, .string ⟨#[]⟩, .string ⟨#[]⟩, .int .u32 0, .int .u32 0, .int .i64 0] 100)) := KD.alloc _
      refine EffPost.intro KZ ?_
      have hZ := Blk.new wd [.string ⟨#[]⟩, .string ⟨#[]⟩, .slice none 0 0, .string ⟨#[]⟩, .string ⟨#[]⟩, .string ⟨#[]⟩, .int .u32 0, .int .u32 0, .int .i64 0] 100
      have hzz : (wd.alloc (.cells #[.string ⟨#[]⟩, .string ⟨#[]⟩, .slice none 0 0, .string ⟨#[]⟩, .string ⟨#[]⟩, .string ⟨#[]⟩, .int .u32 0, .int .u32 0, .int .i64 0] 100)).heap.size = wd.heap.size + 1 := by simp
      generalize (wd.alloc (.cells #[.string ⟨#[]⟩, .string ⟨#[]⟩, .slice none 0 0, .string ⟨#[]⟩, .string ⟨#[]⟩, .string ⟨#[]⟩, .int .u32 0, .int .u32 0, .int .i64 0] 100)) = wz at *
      have HZ := Lib.hid hZ
      have HZZ := Lib.hid hzz
      clear hZ hzz
      rw [wpSegs]
      intro ι F hne hF
      clear hF
      refine wpQuiet_nil ?_
      clear hne F ι
      go_wp2_with (fail)
      refine (PAR.out wz KZ).mono ?_
      rintro e w3 ⟨pvv, rfl, hrow, K3⟩
      obtain ⟨sa, sn, sc, rfl⟩ := rowV hrow
      have HR := Lib.hid hrow
      have KZs := KZ.size
      have HK := Lib.hid (KZ.trans_no K3)
      have hB3 := HZ.out.keep_no K3
      clear hrow K3
      have fz := hB3.frozen
      have z0 := hB3.cell 0
      have z1 := hB3.cell 1
      have z2 := hB3.cell 2
      have z3 := hB3.cell 3
      have z4 := hB3.cell 4
      have z5 := hB3.cell 5
      have z6 := hB3.cell 6
      have z7 := hB3.cell 7
      have z8 := hB3.cell 8
      simp only [List.getElem?_cons_succ, List.getElem?_cons_zero] at z0 z1 z2 z3 z4 z5 z6 z7 z8
      have HB3 := Lib.hid hB3
      clear hB3
      go_wp2
      refine EffPost.intro HK.out ?_
      rw [wpSegs]
      intro ι F hne hF
      clear hF
      repeat (quiet_step (fail))
      refine wpQuiet_nil ?_
      clear hne F ι
      go_wp2
      go_meet
      case rel => exact order2_post KD HB3.out HZZ.out HR.out HK.out
  case rest =>
    obtain ⟨kA, pvv, rfl, hkA, hBA, hrow, K⟩ := hcut
    have HBA := Lib.hid hBA
    have HROW := Lib.hid hrow
    have HK := Lib.hid K
    have b1 := HB.out.keep_no K
    have c7 : wc.cell? ⟨k, 7, none⟩ = some pv := b1.cell 7
    have c8 : wc.cell? ⟨k, 8, none⟩ = some bp := b1.cell 8
    have hkAl := hBA.lt
    have HB1 := Lib.hid b1
    clear hBA hrow K b1
    have hps : ∃ pa pn pc, pvv = .slice pa pn pc := rowV HROW.out
    obtain ⟨pa, pn, pc, rfl⟩ := hps
    have fzA := HBA.out.frozen
    have d0 := HBA.out.cell 0
    have d1 := HBA.out.cell 1
    have d2 := HBA.out.cell 2
    have d3 := HBA.out.cell 3
    have d4 := HBA.out.cell 4
    have d5 := HBA.out.cell 5
    have d6 := HBA.out.cell 6
    have d7 := HBA.out.cell 7
    have d8 := HBA.out.cell 8
    simp only [stC, List.getElem?_cons_succ, List.getElem?_cons_zero] at d0 d1 d2 d3 d4 d5 d6 d7 d8
    rcases HKI.out with ⟨hS, rfl⟩ | ⟨rfl, k', rfl, rfl⟩
    · rcases hS.2 with ⟨rfl, h0⟩ | ⟨g, cap, cur, rfl, _, hg, hcp, _, hcz, hct⟩
      · have hr0 : rss = [] := List.eq_nil_of_length_eq_zero (by have := HKL.out; omega)
        have hf0 : fl = [] := by rw [← HFL.out, hr0]; rfl
        have HR0 := Lib.hid hf0
        have HM0 := Lib.hid (show m = 0 by rw [← HML.out, hf0]; rfl)
        have hks : w.heap.size ≤ wc.heap.size := HK.out.size
        have HOWN := Lib.hid (own_one (wc.setCell ⟨kA, 8, none⟩ (.int .i64 1)) wc.heap.size w.heap.size (by simp) (stC ⟨ty, sub, pl, id, ab, way, n, lines, 0⟩ (.slice pa pn pc) 1) rfl hks)
        have HNIL := Lib.hid (World.ownsRow_nil ((wc.setCell ⟨kA, 8, none⟩ (.int .i64 1)).alloc (.cells (stC ⟨ty, sub, pl, id, ab, way, n, lines, 0⟩ (.slice pa pn pc) 1).toArray 100)) wc.heap.size 100 9)
        have HON := Lib.hid (show ∀ u ∈ ([] : List Value), u.oneCell' = true from fun u hu => by cases hu)
        have HBB := Lib.hid (show w.heap.size ≤ ((wc.setCell ⟨kA, 8, none⟩ (.int .i64 1)).alloc (.cells (stC ⟨ty, sub, pl, id, ab, way, n, lines, 0⟩ (.slice pa pn pc) 1).toArray 100)).heap.size by simp; omega)
        clear hS hr0 hf0
        go_wp2
        refine wp_loop_rounds 1 ?_
        rw [rounds_succ]
        go_wp2_with (at_builtin; refine wpList_append_st rfl (.tmp 72) (.tmp 73) rfl w.heap.size wc.heap.size 1 0 _ _ _ _ rfl HOWN.out rfl HNIL.out HON.out (by omega) HBB.out ?_; intro v' W hv KW)
        go_wp2
        go_ret
        obtain ⟨KZ, KW2⟩ := keeps_fin rfl KW
        have := node_post (m := 0) (rs := []) (ps := []) (ty := ty) (sub := sub) (id := id) (ab := ab) (way := way) (n := n) (lines := lines) rfl HK.out HROW.out (Keeps.refl No wc) rfl (fun x h => by cases h) KZ HBA.out hkA hkAl KW2 hv
        rw [HR0.out, HM0.out]
        exact this
      · have hel : ∀ (i k' : Nat), ks[i]? = some k' → ∀ W, Keeps No w W → W.cell? ⟨g, i, none⟩ = some (.pointer (some ⟨k', 0, none⟩)) := fun i k' hi W KW => by
          refine KW.cell (p := ⟨g, i, none⟩) ?_ (fun h => h)
          have hil : i < ks.length := (List.getElem?_eq_some_iff.1 hi).1
          have h1 : (cur.toList.take (ks.length * 1))[i]? = some (.pointer (some ⟨k', 0, none⟩)) := by rw [hct]; simp [ptrs, hi]
          rw [List.getElem?_take, if_pos (by omega)] at h1
          simp only [World.cell?, hg]
          simpa using h1
        have HEL := Lib.hid hel
        have hks1 : ks.length ≤ 1000 := by
          have h1 := HSZ.out
          have h2 : rss.length ≤ rss.flatten.length := flat_ge HPO.out
          rw [HFL.out, HML.out] at h2
          have := HKL.out
          omega
        have hsz := HSZ.out
        clear hS hel hg hct hcz
        go_wp2
        go_loopg [4, 46] ks.length (fun n s4 s46 wr => ∃ i : Nat, s46 = .int .i64 i ∧ i + n = ks.length ∧ StsAt wr wc.heap.size s4 (rss.take i).flatten ∧ Keeps No wc wr)
        case atStart => exact ⟨0, rfl, Nat.zero_add _, ⟨[], rfl, World.ownsRow_nil _ _ _ _, fun x h => by cases h⟩, Keeps.refl _ _⟩
        case round =>
          obtain ⟨i, rfl, hin, ⟨ps, e1, r1, q1⟩, KR⟩ := hrel
          have hfl := flat_take_len rss i
          rw [HFL.out, HML.out] at hfl
          obtain ⟨c, hc⟩ : ∃ c, c = (rss.take i).flatten.length := ⟨_, rfl⟩
          rw [← hc] at r1 hfl
          have HC := Lib.hid hc
          clear hc
          obtain ⟨fa, fc, rfl⟩ := rowVn r1
          have HKR := Lib.hid KR
          have HE1 := Lib.hid e1
          have HQ1 := Lib.hid q1
          by_cases hi : i < ks.length
          · obtain ⟨k', hk'⟩ : ∃ k', ks[i]? = some k' := ⟨_, List.getElem?_eq_getElem hi⟩
            obtain ⟨rs, hrs⟩ : ∃ rs, rss[i]? = some rs := ⟨_, List.getElem?_eq_getElem (by have := HKL.out; omega)⟩
            have hlt : decide ((i : Int) < (ks.length : Int)) = true := decide_eq_true (by omega)
            have hlt2 : (i : Int) < (ks.length : Int) := by omega
            have hi0 : (0 : Int) ≤ (i : Int) := by omega
            have hE := HEL.out i k' hk' wr (HK.out.trans_no KR)
            obtain ⟨j, hj⟩ : ∃ j : Nat, j = i + 1 := ⟨_, rfl⟩
            have hadd : (i : Int) + 1 = (j : Int) := by omega
            have hadd2 : IntKind.i64.wrap (j : Int) = (j : Int) := IntWalk.i64_in _ (by omega)
            have hadd3 : IntKind.i64.wrap ((i : Int) + 1) = (j : Int) := by rw [hadd]; exact hadd2
            have HJ := Lib.hid hj
            have C := Lib.hid (HIH.out i k' rs hk' hrs wr (HK.out.trans_no KR))
            have R1 := Lib.hid r1
            have hrl : (rss.take (i + 1)).flatten.length = (rss.take i).flatten.length + rs.length := by rw [flat_take rss i rs hrs, List.length_append]
            have hrl2 := flat_take_len rss (i + 1)
            rw [HFL.out, HML.out] at hrl2
            rw [← HC.out] at hrl
            have HFT := Lib.hid (flat_take rss i rs hrs)
            have HRL := Lib.hid (show c + rs.length ≤ 1000 by omega)
            have HIN := Lib.hid hin
            have HII := Lib.hid hi
            clear e1 r1 q1 KR hk' hrs hfl hrl hrl2 hin hi hj
            go_wp2_with (fail)
            refine C.out.mono ?_
            rintro e w2 ⟨v2, rfl, ⟨ps2, e2, r2, q2⟩, K2⟩
            obtain ⟨va, vc, rfl⟩ := rowVn r2
            have R1' := Lib.hid (rowK R1.out K2 (fun _ _ h => h))
            have R2 := Lib.hid r2
            have HON := Lib.hid (stCs_ones q2)
            have HBB := Lib.hid (show wc.heap.size ≤ w2.heap.size by have := HKR.out.size; have := K2.size; omega)
            have HRL2 := HRL.out
            have HP := Lib.hid (fun W v' K hv => sts_append (W := W) (v' := v') HE1.out (by rw [← HC.out]; exact R1'.out) (fun x hx => rowK (HQ1.out x hx) K2 (fun _ _ h => h)) e2 (fun x hx => rowBase (q2 x hx) (by have := HKR.out.size; omega)) K (by rw [← HC.out]; exact hv))
            have HK2 := Lib.hid K2
            clear r2 q2 e2 K2
            go_wp2_with (at_builtin; refine wpList_append_st rfl (.tmp 50) (.tmp 52) rfl wc.heap.size wr.heap.size c rs.length _ _ (stCs ps) (stCs ps2) rfl R1'.out rfl R2.out HON.out (by omega) HBB.out ?_; intro v' W hv KW)
            have HPP := Lib.hid (HP.out W v' KW hv)
            have HKW := Lib.hid (show Keeps No wc W from ((HKR.out.trans_no HK2.out).trans KW (fun b hb h => by have := (World.ownsRow.lt R1'.out b h).1; omega)))
            obtain ⟨ga, gc, rfl⟩ := rowVn hv
            clear hv KW
            go_wp2
            go_roundg (ks.length - j)
            case measure => have := HIN.out; have := HII.out; have := HJ.out; omega
            case rel => exact ⟨j, rfl, by have := HII.out; have := HJ.out; omega, by rw [HJ.out, HFT.out]; exact HPP.out, HKW.out⟩
          · have hlt : decide ((i : Int) < (ks.length : Int)) = false := decide_eq_false (by omega)
            have hlt2 : ¬ ((i : Int) < (ks.length : Int)) := by omega
            have hte : rss.take i = rss := List.take_of_length_le (by have := HKL.out; omega)
            have hce := HC.out
            rw [hte, HFL.out, HML.out] at hce
            rw [hte, HFL.out] at e1
            have hce2 := hce.symm
            clear hce
            subst hce2
            have HM := HML
            have HR1 := Lib.hid r1
            have HE1 := Lib.hid e1
            have HKX := Lib.hid KR
            clear r1 e1 q1 KR hfl hte hin HC
            have BX := HBA.out.keep_no HKX.out
            have fzX := BX.frozen
            have x0 := BX.cell 0
            have x1 := BX.cell 1
            have x2 := BX.cell 2
            have x3 := BX.cell 3
            have x4 := BX.cell 4
            have x5 := BX.cell 5
            have x6 := BX.cell 6
            have x7 := BX.cell 7
            have x8 := BX.cell 8
            simp only [stC, List.getElem?_cons_succ, List.getElem?_cons_zero] at x0 x1 x2 x3 x4 x5 x6 x7 x8
            have kX8 : wr.cell? ⟨k, 8, none⟩ = some (.pointer none) := (HB1.out.keep_no HKX.out).cell 8
            obtain ⟨m1, hm1⟩ : ∃ m1 : Nat, m1 = 1 + m := ⟨_, rfl⟩
            have hadd : (1 : Int) + (m : Int) = (m1 : Int) := by omega
            have hadd2 : IntKind.i64.wrap (m1 : Int) = (m1 : Int) := IntWalk.i64_in _ (by omega)
            have hadd3 : IntKind.i64.wrap ((1 : Int) + (m : Int)) = (m1 : Int) := by rw [hadd]; exact hadd2
            have HM1 := Lib.hid hm1
            clear hm1
            have hkX : w.heap.size ≤ wr.heap.size := by have := HK.out.size; have := HKX.out.size; omega
            have HOWN := Lib.hid (own_one (wr.setCell ⟨kA, 8, none⟩ (.int .i64 (m1 : Int))) wr.heap.size w.heap.size (by simp) (stC ⟨ty, sub, pl, id, ab, way, n, lines, 0⟩ (.slice pa pn pc) m1) rfl hkX)
            have kkz : Keeps (In [kA]) wr ((wr.setCell ⟨kA, 8, none⟩ (.int .i64 (m1 : Int))).alloc (.cells (stC ⟨ty, sub, pl, id, ab, way, n, lines, 0⟩ (.slice pa pn pc) m1).toArray 100)) := ((Keeps.refl _ wr).setCell (.inl (by simp [In])) _).alloc _
            have HNIL := Lib.hid (rowK HR1.out kkz (fun b hb h => by have := (World.ownsRow.lt HR1.out b hb).1; simp [In] at h; omega))
            have HON := Lib.hid (stCs_ones HQ1.out)
            have HBB := Lib.hid (show w.heap.size ≤ ((wr.setCell ⟨kA, 8, none⟩ (.int .i64 (m1 : Int))).alloc (.cells (stC ⟨ty, sub, pl, id, ab, way, n, lines, 0⟩ (.slice pa pn pc) m1).toArray 100)).heap.size by simp; omega)
            clear BX kkz
            go_wp2_with (at_builtin; refine wpList_append_st rfl (.tmp 72) (.tmp 73) rfl w.heap.size wc.heap.size 1 m _ _ _ (stCs ps) rfl HOWN.out rfl HNIL.out HON.out (by omega) HBB.out ?_; intro v' W hv KW)
            go_wp2
            go_ret
            have hvv : W.ownsRow w.heap.size 100 9 v' (1 + m) (stC ⟨ty, sub, pl, id, ab, way, n, lines, 0⟩ (.slice pa pn pc) m1 ++ stCs ps) := hv
            obtain ⟨KZ, KW2⟩ := keeps_fin rfl KW
            exact node_post (m := m) (rs := fl) (ps := ps) (ty := ty) (sub := sub) (id := id) (ab := ab) (way := way) (n := n) (lines := lines) HM.out.symm HK.out HROW.out HKX.out HE1.out HQ1.out KZ HBA.out hkA hkAl KW2 (by have h := hvv; rw [HM1.out] at h; exact h)
    · obtain ⟨rs, rfl⟩ : ∃ rs, rss = [rs] := by
        have hl := HKL.out
        match rss, hl with
        | [rs], _ => exact ⟨rs, rfl⟩
      have C := Lib.hid (HIH.out 0 k' rs rfl rfl wc HK.out)
      have hsz := HSZ.out
      have hfe : rs = fl := by have := HFL.out; simpa using this
      subst hfe
      have HM := HML
      have hwc : wc.heap.size ≤ wc.heap.size := Nat.le_refl _
      go_wp2
      refine wp_loop_rounds 1 ?_
      rw [rounds_succ]
      go_wp2_with (fail)
      refine C.out.mono ?_
      rintro e w2 ⟨v2, rfl, ⟨ps2, e2, r2, q2⟩, K2⟩
      rw [HM.out] at r2
      obtain ⟨va, vc, rfl⟩ := rowVn r2
      have HNI2 := Lib.hid (World.ownsRow_nil w2 wc.heap.size 100 9)
      have R2 := Lib.hid r2
      have HON2 := Lib.hid (stCs_ones q2)
      have HBB2 := Lib.hid K2.size
      have HP := Lib.hid (fun W v' K hv => sts_append (W := W) (v' := v') (ps1 := []) (rs1 := []) rfl HNI2.out (fun x hx => by cases hx) e2 q2 K (by rw [HM.out]; exact hv))
      have HK2 := Lib.hid K2
      clear r2 q2 e2 K2
      go_upto_region 10 with (at_builtin; refine wpList_append_st rfl (.tmp 60) (.tmp 65) rfl wc.heap.size wc.heap.size 0 m _ _ [] (stCs ps2) rfl HNI2.out rfl R2.out HON2.out (by omega) HBB2.out ?_; intro v3 W3 hv3 KW3)
      rw [Nat.zero_add] at hv3
      obtain ⟨ps, e1, r1, q1⟩ := HP.out W3 v3 KW3 (by simp only [List.length_nil, Nat.zero_add]; exact hv3)
      obtain ⟨fa, fc, rfl⟩ := rowVn hv3
      have HR1 := Lib.hid (show W3.ownsRow wc.heap.size 100 9 (.slice fa m fc) m (stCs ps) from by rw [List.nil_append, HM.out] at r1; exact r1)
      have HE1 := Lib.hid (show ps.map Prod.fst = rs from e1)
      have HQ1 := Lib.hid q1
      have HKX := Lib.hid (HK2.out.trans_no (KW3.mono (fun _ _ h => by have h' : (Value.slice none 0 0).ownBlock = some _ := h; cases h')))
      clear hv3 KW3 e1 r1 q1
      have BX := HBA.out.keep_no HKX.out
      have fzX := BX.frozen
      have x0 := BX.cell 0
      have x1 := BX.cell 1
      have x2 := BX.cell 2
      have x3 := BX.cell 3
      have x4 := BX.cell 4
      have x5 := BX.cell 5
      have x6 := BX.cell 6
      have x7 := BX.cell 7
      have x8 := BX.cell 8
      simp only [stC, List.getElem?_cons_succ, List.getElem?_cons_zero] at x0 x1 x2 x3 x4 x5 x6 x7 x8
      have kX8 : W3.cell? ⟨k, 8, none⟩ = some (.pointer (some ⟨k', 0, none⟩)) := (HB1.out.keep_no HKX.out).cell 8
      obtain ⟨m1, hm1⟩ : ∃ m1 : Nat, m1 = 1 + m := ⟨_, rfl⟩
      have hadd : (1 : Int) + (m : Int) = (m1 : Int) := by omega
      have hadd2 : IntKind.i64.wrap (m1 : Int) = (m1 : Int) := IntWalk.i64_in _ (by omega)
      have hadd3 : IntKind.i64.wrap ((1 : Int) + (m : Int)) = (m1 : Int) := by rw [hadd]; exact hadd2
      have HM1 := Lib.hid hm1
      clear hm1
      have hkX : w.heap.size ≤ W3.heap.size := by have := HK.out.size; have := HKX.out.size; omega
      have HOWN := Lib.hid (own_one (W3.setCell ⟨kA, 8, none⟩ (.int .i64 (m1 : Int))) W3.heap.size w.heap.size (by simp) (stC ⟨ty, sub, pl, id, ab, way, n, lines, 0⟩ (.slice pa pn pc) m1) rfl hkX)
      have kkz : Keeps (In [kA]) W3 ((W3.setCell ⟨kA, 8, none⟩ (.int .i64 (m1 : Int))).alloc (.cells (stC ⟨ty, sub, pl, id, ab, way, n, lines, 0⟩ (.slice pa pn pc) m1).toArray 100)) := ((Keeps.refl _ W3).setCell (.inl (by simp [In])) _).alloc _
      have HNIL := Lib.hid (rowK HR1.out kkz (fun b hb h => by have := (World.ownsRow.lt HR1.out b hb).1; simp [In] at h; omega))
      have HON := Lib.hid (stCs_ones HQ1.out)
      have HBB := Lib.hid (show w.heap.size ≤ ((W3.setCell ⟨kA, 8, none⟩ (.int .i64 (m1 : Int))).alloc (.cells (stC ⟨ty, sub, pl, id, ab, way, n, lines, 0⟩ (.slice pa pn pc) m1).toArray 100)).heap.size by simp; omega)
      clear BX kkz
      have u49 := fun W => run_underlying (P := Tryz.prog) Tryz.underlying49 W
      go_wp2_with (at_builtin; refine wpList_append_st rfl (.tmp 72) (.tmp 73) rfl w.heap.size wc.heap.size 1 m _ _ _ (stCs ps) rfl HOWN.out rfl HNIL.out HON.out (by omega) HBB.out ?_; intro v' W hv KW)
      go_wp2
      go_ret
      have hvv : W.ownsRow w.heap.size 100 9 v' (1 + m) (stC ⟨ty, sub, pl, id, ab, way, n, lines, 0⟩ (.slice pa pn pc) m1 ++ stCs ps) := hv
      obtain ⟨KZ, KW2⟩ := keeps_fin rfl KW
      exact node_post (m := m) (rs := rs) (ps := ps) (ty := ty) (sub := sub) (id := id) (ab := ab) (way := way) (n := n) (lines := lines) HM.out.symm HK.out HROW.out HKX.out HE1.out HQ1.out KZ HBA.out hkA hkAl KW2 (by have h := hvv; rw [HM1.out] at h; exact h)
end Go.Proofs.YtjbbapodcngnaaaGreatDoor.G
namespace Go.Proofs.YtjbbapodcngnaaaGreatDoor.G
open Go.RowKit Hdr

theorem BssAt.get {A : Nat → Prop} {w : World} : ∀ (l : List Sh) (ks : List Nat), BssAt w A l ks → ∀ (i k' : Nat), ks[i]? = some k' → ∃ x, l[i]? = some x ∧ BsAt w A x k'
  | [], ks, h, i, k', hi => by rw [BssAt_nil] at h; subst h; cases hi
  | y :: l, ks, h, i, k', hi => by
    rw [BssAt_cons] at h
    obtain ⟨j, r, rfl, h2, h3⟩ := h
    cases i with
    | zero => simp at hi; subst hi; exact ⟨y, rfl, h2⟩
    | succ i => exact BssAt.get l r h3 i k' (by simpa using hi)
theorem ssizes_get : ∀ (l : List Sh) (i : Nat) (x : Sh), l[i]? = some x → ssize x ≤ ssizes l
  | y :: l, 0, x, h => by simp at h; subst h; rw [ssizes_cons]; omega
  | y :: l, i + 1, x, h => by have := ssizes_get l i x (by simpa using h); rw [ssizes_cons]; omega
theorem flats_flat : ∀ l : List Sh, (l.map flat).flatten = flats l
  | [] => by rw [flats_nil]; rfl
  | x :: l => by rw [List.map_cons, List.flatten_cons, flats_flat l, flats_cons]

theorem structs_any (n : Nat) : ∀ (x : Sh), ssize x ≤ n → n ≤ 1000 → ∀ (k : Nat) (w : World) (A : Nat → Prop), BsAt w A x k → Calls Tryz.prog 44 #[.pointer (some ⟨k, 0, none⟩)] w (StPost (flat x) w) := by
  induction n with
  | zero =>
    intro x hx
    obtain ⟨t, s, b, i, a, w, n, l, ps⟩ := x
    rw [ssize_eq] at hx
    omega
  | succ n ih =>
    intro x hx hn k w A h
    obtain ⟨ty, sub, bn, id, ab, way, nn, lines, ps⟩ := x
    rw [ssize_eq] at hx
    rw [BsAt_eq] at h
    obtain ⟨hA, pm, pv, bp, ks, hB, hM, hK, hBs⟩ := h
    rw [flat_eq]
    refine structs_node k ty sub id ab way nn lines pm pv bp (parL bn) (ps.map flat) ks w (fun i k' rs hi hr W KW => ?_) (flats ps) (flats ps).length (flats_flat ps) rfl (by rw [flats_len]; omega) (by rw [BssAt.len _ _ hBs, List.length_map]) (fun rs hr => ?_) ?_ hB (fun W KW => params_any (hM.keep KW (fun _ _ h => h)))
    · obtain ⟨y, hy, hb⟩ := BssAt.get ps ks hBs i k' hi
      have hrs : rs = flat y := by
        rw [List.getElem?_map, hy] at hr
        simpa using hr.symm
      rw [hrs]
      have := ssizes_get ps i y hy
      exact ih y (by omega) (by omega) k' W A (BsAt.keep KW (fun _ _ h => h) _ _ hb)
    · obtain ⟨y, hy, rfl⟩ := List.mem_map.1 hr
      obtain ⟨t, s, b, i, a, w', n', l, ps'⟩ := y
      rw [flat_eq]
      exact List.cons_ne_nil _ _
    · rcases hK with ⟨h1, _, h3⟩ | ⟨h1, k', h2, h3⟩
      · exact .inl ⟨h1, h3⟩
      · exact .inr ⟨h1, k', h2, h3⟩
end Go.Proofs.YtjbbapodcngnaaaGreatDoor.G
namespace Go.Proofs.YtjbbapodcngnaaaGreatDoor.G
open Go.RowKit Hdr

/-- What stands behind a boundary. -/
def tailT : List Ml → List UInt8 → Nat → List UInt8
  | [], _, _ => [45, 45, 13, 10]
  | m :: l, p, i => 13 :: 10 :: (mtext m (under p i) ++ [13, 10] ++ partsText l p (i + 1))
theorem parts_tail (l : List Ml) (p : List UInt8) (i : Nat) : partsText l p i = 45 :: 45 :: bnd p ++ tailT l p i := by
  cases l with
  | nil => rw [partsText_nil, tailT]; simp
  | cons m l => rw [partsText_cons, tailT]; simp
theorem tail_dl (l : List Ml) (p : List UInt8) (i : Nat) : ∃ x t', tailT l p i = x :: t' ∧ dl x = true := by
  cases l with
  | nil => exact ⟨_, _, rfl, by decide⟩
  | cons m l => exact ⟨_, _, rfl, by decide⟩
theorem parts_lns {p : List UInt8} (hp : PlOk p) : ∀ (l : List Ml) (i : Nat), MlsOk l → p.length + 1 + msizes l ≤ 30 → Lns (fun _ => True) (partsText l p i) ∧ (partsText l p i).length ≤ 6000 * msizes l + 100 := by
  have hb := bnd_no hp
  intro l
  induction l with
  | nil =>
    intro i _ hpl
    rw [partsText_nil]
    refine ⟨Lns.one (l := 45 :: 45 :: (bnd p ++ [45, 45])) ?_ ?_ ?_ trivial, ?_⟩
    · simp only [List.mem_cons, List.mem_append, not_or]; exact ⟨by decide, by decide, hb.1, by decide, by decide, by simp⟩
    · simp only [List.mem_cons, List.mem_append, not_or]; exact ⟨by decide, by decide, hb.2, by decide, by decide, by simp⟩
    · simp [bnd]; omega
    · simp [bnd]; omega
  | cons k l ih =>
    intro i ok hpl
    rw [msizes] at hpl
    rw [MlsOk] at ok
    have hk := kid_lns ok.1 hp i (by omega)
    obtain ⟨h3, h4⟩ := ih (i + 1) ok.2 (by omega)
    rw [partsText_cons]
    have hone : Lns (fun _ => True) (45 :: 45 :: bnd p ++ [13, 10]) := Lns.one (l := 45 :: 45 :: bnd p) (by simp only [List.mem_cons, not_or]; exact ⟨by decide, by decide, hb.1⟩) (by simp only [List.mem_cons, not_or]; exact ⟨by decide, by decide, hb.2⟩) (by simp [bnd]; omega) trivial
    have hemp : Lns (fun _ => True) ([] ++ [13, 10]) := Lns.one (l := []) (by simp) (by simp) (by simp) trivial
    refine ⟨((hone.append (hk.1.mono fun _ _ => trivial)).append hemp).append h3, ?_⟩
    rw [msizes]
    have h2 := hk.2.2
    simp only [List.length_append, List.length_cons, List.length_nil, bnd] at h2 h4 ⊢
    omega
theorem short_nil : Short [] := fun b hb => by
  have : b = [] := List.suffix_nil.1 hb
  subst this
  decide
/-- What is read of the next part. -/
theorem next_facts {p : List UInt8} (hp : PlOk p) {k : Ml} {l : List Ml} (i : Nat) (ok : MlsOk (k :: l)) (hpl : p.length + 1 + msizes (k :: l) ≤ 30) :
    rhd (mtext k (under p i) ++ [13, 10] ++ partsText l p (i + 1)) = some ((fieldsOf k (under p i)).map pfH, content k (under p i) ++ (13 :: 10 :: 45 :: 45 :: bnd p) ++ tailT l p (i + 1)) ∧
    mtext k (under p i) ++ [13, 10] ++ partsText l p (i + 1) ≠ [] ∧ Short (mtext k (under p i) ++ [13, 10] ++ partsText l p (i + 1)) ∧ (mtext k (under p i) ++ [13, 10] ++ partsText l p (i + 1)).length ≤ 1000000 := by
  rw [msizes] at hpl
  rw [MlsOk] at ok
  have hk := kid_lns ok.1 hp i (by omega)
  obtain ⟨h3, h4⟩ := parts_lns hp l (i + 1) ok.2 (by omega)
  have hemp : Lns (fun _ => True) ([] ++ [13, 10]) := Lns.one (l := []) (by simp) (by simp) (by simp) trivial
  have hall := ((hk.1.mono fun _ _ => trivial).append hemp).append h3
  refine ⟨?_, by simp, ?_, ?_⟩
  · rw [parts_tail]
    unfold mtext
    rw [List.append_assoc, List.append_assoc, rhd_fields _ (fields_ok ok.1 (under_ok hp i) (by rw [under_len]; omega))]
    simp
  · have := hall.short (c := []) short_nil
    rwa [List.append_nil] at this
  · have h2 := hk.2.2
    simp only [List.length_append, List.length_cons, List.length_nil] at h2 h4 ⊢
    omega

/-- The multipart reader L stands ahead of the parts l; i are behind it. -/
def Ahead (L : PL) (w : World) (l : List Ml) (p : List UInt8) (i : Nat) : Prop :=
  (i = 0 ∧ MrB w L.M L.b L.B0 L.cap (.pointer none) 0 L.bn ∧ Rd w L.b L.g (stickySrc L.k L.X) (45 :: 45 :: L.bn ++ tailT l p i) ∧ ¬ InX L.b L.g (stickySrc L.k L.X) L.M ∧ ¬ InX L.b L.g (stickySrc L.k L.X) L.B0 ∧ L.M ≠ L.B0) ∨
    (∃ s, 0 < i ∧ L.pn = i ∧ L.t = tailT l p i ∧ PartS L w s)
/-- Where it lies: not among the old. -/
structure PL.Old (L : PL) (N : Nat) : Prop where
  M : N ≤ L.M
  B0 : N ≤ L.B0
  b : N ≤ L.b
  g : N ≤ L.g
  k : N ≤ L.k
/-- The next part. -/
def PL.next (L : PL) (Pb : Nat) (l : List Ml) (p : List UInt8) (i : Nat) : PL := { L with Pb := Pb, t := tailT l p (i + 1), pn := i + 1 }

/-- What NextPart leaves. -/
def NextP (L : PL) (k : Ml) (l : List Ml) (p : List UInt8) (i : Nat) (w : World) (e : Ending) (w' : World) : Prop :=
  ∃ Pb hl hm fs, e = .returned (.tuple #[.pointer (some ⟨Pb, 0, none⟩), .nilIface]) ∧ w.heap.size ≤ Pb ∧ Blk w' Pb (ptc hl hm L.M Pb 0 0 .nilIface) 176 ∧ HdrAt w' w.heap.size (.agg #[hl, hm]) fs ∧ Tells fs ((fieldsOf k (under p i)).map pfH) ∧
    PartS (L.next Pb l p i) w' (content k (under p i)) ∧ Keeps L.own w w'

/-- A part that has just begun. -/
theorem part_start {L : PL} {p : List UInt8} (hp : PlOk p) (hbn : L.bn = bnd p) {k : Ml} {l : List Ml} {i : Nat} {w w' : World} {Pb : Nat} {hl hm : Value} (ok : MlsOk (k :: l)) (hpl : p.length + 1 + msizes (k :: l) ≤ 30)
    (hB : Blk w' Pb (ptc hl hm L.M Pb 0 0 .nilIface) 176) (hMr : MrB w' L.M L.b L.B0 L.cap (.pointer (some ⟨Pb, 0, none⟩)) (i + 1) L.bn)
    (R : Rd w' L.b L.g (stickySrc L.k L.X) (content k (under p i) ++ (13 :: 10 :: 45 :: 45 :: bnd p) ++ tailT l p (i + 1))) (hPb : w.heap.size ≤ Pb) (hlt : ∀ x, InX L.b L.g (stickySrc L.k L.X) x → x < w.heap.size) (hB0 : L.B0 < w.heap.size)
    (nM : ¬ InX L.b L.g (stickySrc L.k L.X) L.M) (nB : ¬ InX L.b L.g (stickySrc L.k L.X) L.B0) (mB : L.M ≠ L.B0) : PartS (L.next Pb l p i) w' (content k (under p i)) := by
  rw [msizes] at hpl
  rw [MlsOk] at ok
  have hk := kid_lns ok.1 hp i (by omega)
  have hb := bnd_no hp
  obtain ⟨s1, s2⟩ := safe_lns (t := tailT l p (i + 1)) hb.1 hk.2.1
  have hcl := content_le k (under p i)
  have h2 := hk.2.2
  refine ⟨hl, hm, 0, 0, .nilIface, _, _, ⟨rfl, rfl⟩, ⟨hB, hMr, fun h => by have := hlt _ h; simp [PL.next] at this; omega, nM, nB, show Pb ≠ L.B0 by omega, mB, ?_, ?_, fun _ => ?_, Nat.zero_le _, .inl rfl, by omega⟩, ?_⟩
  · refine ⟨rfl, ?_, ?_, tail_dl _ _ _⟩
    · show 0 < (45 :: 45 :: L.bn).length
      simp
    · show (13 : UInt8) ∉ 45 :: 45 :: L.bn
      rw [hbn]
      simp only [List.mem_cons, not_or]
      exact ⟨by decide, by decide, hb.1⟩
  · show Safe _ (13 :: 10 :: 45 :: 45 :: L.bn) (tailT l p (i + 1))
    rw [hbn]
    exact s1
  · show Safe0 _ (45 :: 45 :: L.bn) (13 :: 10 :: 45 :: 45 :: L.bn) (tailT l p (i + 1))
    rw [hbn]
    exact s2
  · show Rd w' L.b L.g (stickySrc L.k L.X) (content k (under p i) ++ (13 :: 10 :: 45 :: 45 :: L.bn) ++ tailT l p (i + 1))
    rw [hbn]
    exact R

theorem next_any (L : PL) {p : List UInt8} (hp : PlOk p) (hbn : L.bn = bnd p) {k : Ml} {l : List Ml} {i : Nat} (w : World) (ok : MlsOk (k :: l)) (hpl : p.length + 1 + msizes (k :: l) ≤ 30) (hi : i ≤ 30) (h : Ahead L w (k :: l) p i)
    {N : Nat} (O : L.X.Ok N) (La : Laid N L.X.ea w) (hN : N ≤ w.heap.size) (Lo : L.Old N) (hPb : 0 < i → N ≤ L.Pb) :
    Calls Tryz.prog 91 #[.pointer (some ⟨L.M, 0, none⟩)] w (NextP L k l p i w) := by
  have hb := bnd_no hp
  obtain ⟨f1, f2, f3, f4⟩ := next_facts hp i ok hpl
  have hne : L.bn ≠ [] := by rw [hbn]; simp [bnd]
  have h10 : (10 : UInt8) ∉ L.bn := by rw [hbn]; exact hb.2
  rcases h with ⟨rfl, hMr, R, nM, nB, mB⟩ | ⟨s, hi0, hpn, ht, hP⟩
  · have hlt : ∀ x, InX L.b L.g (stickySrc L.k L.X) x → x < w.heap.size := R.lt
    have hB0 := hMr.D.lt
    have E : Env N L.b L.g (stickySrc L.k L.X) w := ⟨stickySrc_ok O Lo.k, Lo.b, Lo.g, La⟩
    refine (next_first L.M L.b L.g L.k L.B0 L.cap L.X L.bn w _ _ _ f1 hMr h10 hne R f2 f3 f4 E Lo.M nM nB mB).mono ?_
    rintro e w' ⟨⟨Pb, hl, hm, fs, rfl, h1, h2, h3, h4, h5, h6⟩, K⟩
    exact ⟨Pb, hl, hm, fs, rfl, h1, h2, h4, h5, part_start hp hbn ok hpl h2 h3 h6 h1 hlt hB0 nM nB mB, K.mono (fun x _ hx => by rcases hx with hx | hx; exact .inr (.inl hx); exact .inr (.inr (.inr hx)))⟩
  · have hown : ∀ x, L.own x → x < w.heap.size := fun x hx => (partSrc L).lt hP hx
    have hlt : ∀ x, InX L.b L.g (stickySrc L.k L.X) x → x < w.heap.size := fun x hx => hown x (.inr (.inr (.inr hx)))
    have hfacts : ¬ InX L.b L.g (stickySrc L.k L.X) L.M ∧ ¬ InX L.b L.g (stickySrc L.k L.X) L.B0 ∧ L.M ≠ L.B0 := by
      obtain ⟨hl, hm, n, tot, err, cp, pn, _, D, _⟩ := hP
      exact ⟨D.nM, D.nB, D.mB⟩
    refine (next_more L w s _ _ _ f1 f2 f3 f4 hP (by rw [ht]; rfl) h10 hne (by omega) (by omega) O La hN (hPb hi0) Lo.M Lo.B0 Lo.b Lo.g Lo.k).mono ?_
    rintro e w' ⟨⟨Pb, hl, hm, fs, rfl, h1, h2, h3, h4, h5, h6⟩, K⟩
    rw [hpn] at h3
    exact ⟨Pb, hl, hm, fs, rfl, h1, h2, h4, h5, part_start hp hbn ok hpl h2 h3 h6 h1 hlt (hown _ (.inr (.inr (.inl rfl)))) hfacts.1 hfacts.2.1 hfacts.2.2, K⟩

theorem next_last (L : PL) {p : List UInt8} (hp : PlOk p) (hbn : L.bn = bnd p) {i : Nat} (w : World) (hi : i ≤ 30) (hi0 : 0 < i) (h : Ahead L w [] p i)
    {N : Nat} (O : L.X.Ok N) (La : Laid N L.X.ea w) (hN : N ≤ w.heap.size) (Lo : L.Old N) (hPb : 0 < i → N ≤ L.Pb) :
    Calls Tryz.prog 91 #[.pointer (some ⟨L.M, 0, none⟩)] w fun e w' => e = .returned (.tuple #[.pointer none, (.iface 203 (.pointer (some L.X.ea)))]) ∧ (∃ s', L.X.S w' s') ∧ Keeps L.own w w' := by
  have hb := bnd_no hp
  have hne : L.bn ≠ [] := by rw [hbn]; simp [bnd]
  have h10 : (10 : UInt8) ∉ L.bn := by rw [hbn]; exact hb.2
  rcases h with ⟨rfl, _⟩ | ⟨s, _, hpn, ht, hP⟩
  · omega
  · exact next_end L w s hP (by rw [ht]; rfl) h10 hne (by omega) (by omega) O La hN (hPb hi0) Lo.M Lo.B0 Lo.b Lo.g Lo.k
end Go.Proofs.YtjbbapodcngnaaaGreatDoor.G
namespace Go.Proofs.YtjbbapodcngnaaaGreatDoor.G
open Go.RowKit Hdr

/-- What stands at its place all along. -/
structure FEnv (N : Nat) (ea : Addr) (w : World) : Prop where
  laid : Laid N ea w
  tab : Tab w
  tb : 4 < N
  hN : N ≤ w.heap.size
theorem FEnv.keep {S : Nat → Prop} {N : Nat} {ea : Addr} {w w' : World} (h : FEnv N ea w) (k : Keeps S w w') (hS : ∀ x, S x → N ≤ x) : FEnv N ea w' :=
  ⟨h.laid.keep k hS, h.tab.keep k (fun x hx => Nat.lt_of_lt_of_le h.tb (hS x hx)), h.tb, Nat.le_trans h.hN k.size⟩
theorem FEnv.keep_no {N : Nat} {ea : Addr} {w w' : World} (h : FEnv N ea w) (k : Keeps No w w') : FEnv N ea w' := h.keep k (fun _ h => h.elim)

/-- What FetchBodyStructure leaves. -/
def FetchPost (X : Src) (sh : Sh) (w : World) (e : Ending) (w' : World) : Prop :=
  ∃ k s', e = .returned (.tuple #[.pointer (some ⟨k, 0, none⟩), .nilIface]) ∧ BsAt w' (fun x => w.heap.size ≤ x) sh k ∧ X.S w' s' ∧ Keeps X.own w w'
/-- It answers right for this message, wherever it is met. -/
def FetchOk (m : Ml) : Prop := ∀ (p : List UInt8) (X : Src) (N : Nat) (w : World) (hv : Value) (fs : List Fd) (lo : Nat), PlOk p → p.length + msize m ≤ 30 → sureOf m p = true → X.Ok N → FEnv N X.ea w → X.S w (content m p) → HdrAt w lo hv fs → Tells fs ((fieldsOf m p).map pfH) →
  Calls Tryz.prog 65 #[hv, .iface X.t X.v, .bool false] w (FetchPost X (shapeOf m p) w)

theorem keeps_new {w w' : World} (K : Keeps No w w') {k : Nat} (h : w.heap.size ≤ k) (i : Nat) (v : Value) : Keeps No w (w'.setCell ⟨k, i, none⟩ v) := K.setCell (.inr h) v

def linesT (ty T : List UInt8) : Nat := if ty = textS then nlf T else 0
theorem leaf_done {X : Src} {w wC w12 wE : World} {kC : Nat} {ty sub vi vd ve s' : List UInt8} {n lines : Nat} {pm : Value} (hX : ∀ x, X.own x → x < w.heap.size) (hkC : w.heap.size + 1 < kC)
    (hB : Blk wE (w.heap.size + 1) (bsc ty sub pm vi vd ve n (.slice none 0 0) (.pointer none) lines) 138) (hM : MapP wC (fun x => w.heap.size + 1 < x ∧ x < kC) pm []) (K : Keeps No w wC) (K12 : Keeps (InO kC X) wC w12) (kE : Keeps (In [w.heap.size + 1]) w12 wE) (hs : X.S w12 s') :
    FetchPost X (.mk ty sub [] vi vd ve n lines []) w (.returned (.tuple #[.pointer (some ⟨w.heap.size + 1, 0, none⟩), .nilIface])) wE := by
  refine ⟨w.heap.size + 1, s', rfl, ?_, X.keep hs kE (fun x hx h => by have := hX _ hx; simp [In] at h; omega), ?_⟩
  · rw [BsAt_eq]
    refine ⟨Nat.le_succ _, pm, .slice none 0 0, .pointer none, [], hB, ?_, .inl ⟨World.ownsRow_nil _ _ _ _, fun b hb => by simp [Value.ownBlock] at hb, rfl⟩, by rw [BssAt_nil]⟩
    refine ((hM.keep K12 (fun x hx h => ?_)).keep kE (fun x hx h => ?_)).mono (fun x _ hx => by have := hx.1; omega)
    · rcases h with h | h
      · have := hx.2; omega
      · have := hX _ h; have := hx.1; omega
    · simp [In] at h
      have := hx.1
      omega
  · refine ((K.of_no).trans K12 (fun i hi h => ?_)).trans kE (fun i hi h => ?_)
    · rcases h with h | h
      · omega
      · exact h
    · simp [In] at h
      omega
theorem msg_done {X : Src} {w wC w13 w14 w15 wE : World} {kC b g kb : Nat} {ty sub vi vd ve s' T : List UInt8} {n lines : Nat} {pm : Value} {sh : Sh} (hX : ∀ x, X.own x → x < w.heap.size) (hkC : w.heap.size + 1 < kC) (hkC2 : kC < wC.heap.size) (hb : wC.heap.size ≤ b) (hg : wC.heap.size ≤ g)
    (hB : Blk wE (w.heap.size + 1) (bsc ty sub pm vi vd ve n (.slice none 0 0) (.pointer (some ⟨kb, 0, none⟩)) lines) 138) (hM : MapP wC (fun x => w.heap.size + 1 < x ∧ x < kC) pm []) (K : Keeps No w wC) (hkb : BsAt w14 (fun x => w13.heap.size ≤ x) sh kb)
    (h13 : wC.heap.size ≤ w13.heap.size) (K14 : Keeps (InX b g (countSrc kC X T)) wC w14) (k14 : Keeps (In [w.heap.size + 1]) w14 w15) (w16 : World) (K16 : Keeps (InO kC X) w15 w16) (kE : Keeps (In [w.heap.size + 1]) w16 wE) (hs : X.S w16 s') :
    FetchPost X (.mk ty sub [] vi vd ve n lines [sh]) w (.returned (.tuple #[.pointer (some ⟨w.heap.size + 1, 0, none⟩), .nilIface])) wE := by
  have hInX : ∀ x, InX b g (countSrc kC X T) x → wC.heap.size ≤ x ∨ x = kC ∨ X.own x := fun x h => by
    rcases h with h | h | h | h
    · exact .inl (by omega)
    · exact .inl (by omega)
    · exact .inr (.inl h)
    · exact .inr (.inr h)
  refine ⟨w.heap.size + 1, s', rfl, ?_, X.keep hs kE (fun x hx h => by have := hX _ hx; simp [In] at h; omega), ?_⟩
  · rw [BsAt_eq]
    refine ⟨Nat.le_succ _, pm, .slice none 0 0, .pointer (some ⟨kb, 0, none⟩), [kb], hB, ?_, .inr ⟨rfl, kb, rfl, rfl⟩, ?_⟩
    · refine ((((hM.keep K14 (fun x hx h => ?_)).keep k14 (fun x hx h => ?_)).keep K16 (fun x hx h => ?_)).keep kE (fun x hx h => ?_)).mono (fun x _ hx => by have := hx.1; omega)
      · have h1 := hx.1
        have h2 := hx.2
        rcases hInX x h with h | h | h
        · omega
        · omega
        · have := hX _ h; omega
      · simp [In] at h
        have := hx.1
        omega
      · have h1 := hx.1
        have h2 := hx.2
        rcases h with h | h
        · omega
        · have := hX _ h; omega
      · simp [In] at h
        have := hx.1
        omega
    · rw [BssAt_cons]
      refine ⟨kb, [], rfl, ?_, by rw [BssAt_nil]⟩
      have hK : Keeps (fun x => InO kC X x ∨ x = w.heap.size + 1) w14 wE := ((k14.mono (fun _ _ h => Or.inr (by simpa [In] using h))).trans K16 (fun _ _ h => .inl h)).trans kE (fun _ _ h => .inr (by simpa [In] using h))
      refine BsAt.mono (fun x _ hx => by have := K.size; omega) _ _ (BsAt.keep hK (fun x hx h => ?_) _ _ hkb)
      rcases h with (h | h) | h
      · omega
      · have := hX _ h; omega
      · omega
  · refine ((((K.of_no).trans K14 (fun i hi h => ?_)).trans k14 (fun i hi h => ?_)).trans K16 (fun i hi h => ?_)).trans kE (fun i hi h => ?_)
    · have := K.size
      rcases hInX i h with h | h | h
      · omega
      · omega
      · exact h
    · simp [In] at h
      omega
    · rcases h with h | h
      · omega
      · exact h
    · simp [In] at h
      omega
end Go.Proofs.YtjbbapodcngnaaaGreatDoor.G
namespace Go.Proofs.YtjbbapodcngnaaaGreatDoor.G
open Go.RowKit Hdr

/-- The blocks of the multipart reader: apart from what is old, and from what comes later. -/
structure PFix (w : World) (n1 n2 M B0 b g k : Nat) : Prop where
  h0 : w.heap.size + 1 < n1
  M1 : n1 ≤ M
  M2 : M < n2
  B1 : n1 ≤ B0
  B2 : B0 < n2
  b1 : n1 ≤ b
  b2 : b < n2
  g1 : n1 ≤ g
  g2 : g < n2
  k1 : n1 ≤ k
  k2 : k < n2
/-- The multipart reader at hand is this one. -/
structure IsL (L : PL) (M B0 b g k : Nat) (X : Src) (p : List UInt8) : Prop where
  M : L.M = M
  B0 : L.B0 = B0
  b : L.b = b
  g : L.g = g
  k : L.k = k
  X : L.X = X
  bn : L.bn = bnd p
theorem IsL.own {L : PL} {w : World} {n1 n2 M B0 b g k : Nat} {X : Src} {p : List UInt8} (I : IsL L M B0 b g k X p) (F : PFix w n1 n2 M B0 b g k) : ∀ x, L.own x → x = L.Pb ∨ (n1 ≤ x ∧ x < n2) ∨ X.own x := by
  intro x hx
  have f1 := F.M1; have f2 := F.M2; have f3 := F.B1; have f4 := F.B2; have f5 := F.b1; have f6 := F.b2; have f7 := F.g1; have f8 := F.g2; have f9 := F.k1; have f10 := F.k2
  have e1 := I.M; have e2 := I.B0; have e3 := I.b; have e4 := I.g; have e5 := I.k
  rcases hx with h | h | h | h | h | h | h
  · exact .inl h
  · exact .inr (.inl (by omega))
  · exact .inr (.inl (by omega))
  · exact .inr (.inl (by omega))
  · exact .inr (.inl (by omega))
  · exact .inr (.inl (by omega))
  · exact .inr (.inr (I.X ▸ h))

/-- How the loop stands: some parts are told, the others stand ahead. -/
def PInv (kids : List Ml) (p : List UInt8) (X : Src) (w : World) (n1 n2 M B0 b g k : Nat) (cs : List Value) (pm : Value) (pl : List (List UInt8 × List UInt8)) (n : Nat) (s16 : Value) (wr : World) : Prop :=
  ∃ (done rest : List Ml) (L : PL) (ks : List Nat), kids = done ++ rest ∧ n = rest.length + 1 ∧ IsL L M B0 b g k X p ∧ n2 ≤ L.Pb ∧ (done.length = 0 → wr.heap.size ≤ L.Pb) ∧ Ahead L wr rest p done.length ∧
    BssAt wr (fun x => n2 ≤ x ∧ (0 < done.length → x ≠ L.Pb) ∧ s16.ownBlock ≠ some x) (shapesOf done p 0) ks ∧ BPs wr n2 s16 ks ∧ (0 < done.length → s16.ownBlock ≠ some L.Pb) ∧ Blk wr (w.heap.size + 1) cs 138 ∧ MapP wr (fun x => w.heap.size + 1 < x ∧ x < n1) pm pl ∧ n2 ≤ wr.heap.size ∧ Keeps X.own w wr

theorem shapesOf_snoc (p : List UInt8) (m : Ml) : ∀ (l : List Ml) (i : Nat), shapesOf (l ++ [m]) p i = shapesOf l p i ++ [shapeOf m (under p (i + l.length))]
  | [], i => by rw [List.nil_append, shapesOf_cons, shapesOf_nil]; rfl
  | x :: l, i => by rw [List.cons_append, shapesOf_cons, shapesOf_cons, shapesOf_snoc p m l (i + 1), List.cons_append, List.length_cons, show i + 1 + l.length = i + (l.length + 1) by omega]

/-- A part that is told. -/
theorem PInv.step {kids : List Ml} {p : List UInt8} {X : Src} {w : World} {n1 n2 M B0 b g k : Nat} {cs : List Value} {pm : Value} {pl : List (List UInt8 × List UInt8)} {s16 : Value} {wr w1 w2 w3 w4 : World} (F : PFix w n1 n2 M B0 b g k) (hX : ∀ x, X.own x → x < w.heap.size)
    {done rest : List Ml} {m : Ml} {L : PL} {ks : List Nat} (hk : kids = done ++ m :: rest) (I : IsL L M B0 b g k X p) (hPb : n2 ≤ L.Pb) (hPb0 : done.length = 0 → wr.heap.size ≤ L.Pb)
    (hT : BssAt wr (fun x => n2 ≤ x ∧ (0 < done.length → x ≠ L.Pb) ∧ s16.ownBlock ≠ some x) (shapesOf done p 0) ks) (hS : BPs wr n2 s16 ks) (_hSP : 0 < done.length → s16.ownBlock ≠ some L.Pb) (hB : Blk wr (w.heap.size + 1) cs 138) (hM : MapP wr (fun x => w.heap.size + 1 < x ∧ x < n1) pm pl) (hn : n2 ≤ wr.heap.size) (K : Keeps X.own w wr)
    (K1 : Keeps L.own wr w1) {Pb : Nat} (hPb1 : wr.heap.size ≤ Pb) (hPb2 : Pb < w1.heap.size) {kb : Nat} {s' : List UInt8} (hs : PartS (L.next Pb rest p done.length) w2 s') (hkb : BsAt w2 (fun x => w1.heap.size ≤ x) (shapeOf m (under p done.length)) kb) (K2 : Keeps (L.next Pb rest p done.length).own w1 w2)
    (K3 : Keeps No w2 w3) {v' : Value} (hv : BPs w4 n2 v' (ks ++ [kb])) (K4 : Keeps (fun x => s16.ownBlock = some x) w3 w4) (hvo : ∀ x, v'.ownBlock = some x → s16.ownBlock = some x ∨ w3.heap.size ≤ x) :
    PInv kids p X w n1 n2 M B0 b g k cs pm pl (rest.length + 1) v' w4 := by
  have I' : IsL (L.next Pb rest p done.length) M B0 b g k X p := ⟨I.M, I.B0, I.b, I.g, I.k, I.X, I.bn⟩
  have o1 := I.own F
  have o2 := I'.own F
  have hf := F.h0
  have hn12 : n1 < n2 := by have := F.M1; have := F.M2; omega
  have hpb : (L.next Pb rest p done.length).Pb = Pb := rfl
  rw [hpb] at o2
  have z1 := K1.size
  have z2 := K2.size
  have z3 := K3.size
  have hslt := hS.lt
  have hsge : ∀ x, s16.ownBlock = some x → n2 ≤ x := fun x hx => (World.ownsRow.lt hS x hx).1
  -- what the first call touches
  have K1' : Keeps (fun x => (0 < done.length ∧ x = L.Pb) ∨ (n1 ≤ x ∧ x < n2) ∨ X.own x) wr w1 := by
    refine K1.mono (fun x hxl hx => ?_)
    rcases o1 x hx with h | h | h
    · rcases Nat.eq_zero_or_pos done.length with h0 | h0
      · have := hPb0 h0; omega
      · exact .inl ⟨h0, h⟩
    · exact .inr (.inl h)
    · exact .inr (.inr h)
  have K12 : Keeps (fun x => (0 < done.length ∧ x = L.Pb) ∨ (n1 ≤ x ∧ x < n2) ∨ X.own x) wr w2 := K1'.trans K2 (fun i hi hx => by
    rcases o2 i hx with h | h | h
    · omega
    · exact .inr (.inl h)
    · exact .inr (.inr h))
  have K13 := K12.trans_no K3
  have K14 : Keeps (fun x => ((0 < done.length ∧ x = L.Pb) ∨ (n1 ≤ x ∧ x < n2) ∨ X.own x) ∨ s16.ownBlock = some x) wr w4 := (K13.mono (fun _ _ h => .inl h)).trans K4 (fun i _ h => .inr h)
  refine ⟨done ++ [m], rest, L.next Pb rest p done.length, ks ++ [kb], by rw [hk]; simp, rfl, I', by rw [hpb]; omega, fun h => by simp at h, ?_, ?_, hv, fun _ => ?_, ?_, ?_, ?_, ?_⟩
  · rw [List.length_append, List.length_singleton]
    refine .inr ⟨s', by omega, rfl, rfl, (hs.keep K3 (fun _ _ h => h)).keep K4 (fun x hx h => ?_)⟩
    rcases o2 x hx with h' | h' | h'
    · have := hslt x h; omega
    · have := hsge x h; omega
    · have := hX x h'; have := hsge x h; omega
  · rw [shapesOf_snoc, Nat.zero_add]
    refine BssAt.snoc ?_ _ _ ?_
    · refine BsAt.mono (A := fun x => w1.heap.size ≤ x ∧ x < w3.heap.size) (fun x _ hx => ⟨by omega, fun _ => by rw [hpb]; omega, fun e => ?_⟩) _ _ (BsAt.keep K4 (fun x hx h => by have := hslt x h; omega) _ _ (BsAt.mono (A := fun x => w1.heap.size ≤ x) (fun x hx h => ⟨h, hx⟩) _ _ (BsAt.keep K3 (fun _ _ h => h) _ _ hkb)))
      rcases hvo x e with h | h
      · have := hslt x h; omega
      · omega
    · refine BssAt.mono (A := fun x => (n2 ≤ x ∧ (0 < done.length → x ≠ L.Pb) ∧ s16.ownBlock ≠ some x) ∧ x < wr.heap.size) (fun x _ hx => ⟨hx.1.1, fun _ => by rw [hpb]; omega, fun e => ?_⟩) _ _ (BssAt.keep K14 (fun x hx h => ?_) _ _ (BssAt.mono (fun x hx h => ⟨h, hx⟩) _ _ hT))
      · rcases h with (⟨h, h'⟩ | h | h) | h
        · exact hx.1.2.1 h h'
        · omega
        · have := hX x h; omega
        · exact hx.1.2.2 h
      · rcases hvo x e with h | h
        · exact hx.1.2.2 h
        · omega
  · rw [hpb]
    intro e
    rcases hvo _ e with h | h
    · have := hslt _ h; omega
    · omega
  · refine hB.keep K14 (fun h => ?_)
    rcases h with (⟨h, h'⟩ | h | h) | h
    · omega
    · omega
    · have := hX _ h; omega
    · have := hsge _ h; have := F.M1; have := F.M2; omega
  · refine hM.keep K14 (fun x hx h => ?_)
    rcases h with (⟨h, h'⟩ | h | h) | h
    · omega
    · omega
    · have := hX _ h; omega
    · have := hsge _ h; have := F.M1; have := F.M2; omega
  · have := K4.size; omega
  · refine K.trans K14 (fun i hi h => ?_)
    rcases h with (⟨h, h'⟩ | h | h) | h
    · omega
    · omega
    · exact h
    · have := hsge _ h; have := F.M1; have := F.M2; omega
theorem kids_len : ∀ l : List Ml, l.length ≤ msizes l
  | [] => Nat.zero_le _
  | m :: l => by rw [msizes, List.length_cons]; have := msize_pos m; have := kids_len l; omega
theorem sures_app (p : List UInt8) (m : Ml) (r : List Ml) : ∀ (l : List Ml) (i : Nat), suresOf (l ++ m :: r) p i = true → sureOf m (under p (i + l.length)) = true
  | [], i, h => by
    rw [List.nil_append, suresOf_cons, Bool.and_eq_true] at h
    exact h.1
  | x :: l, i, h => by
    rw [List.cons_append, suresOf_cons, Bool.and_eq_true] at h
    have := sures_app p m r l (i + 1) h.2
    rwa [show i + 1 + l.length = i + (x :: l).length by rw [List.length_cons]; omega] at this
theorem mlsOk_drop : ∀ {a b : List Ml}, MlsOk (a ++ b) → MlsOk b
  | [], _, h => h
  | m :: a, b, h => by
    rw [List.cons_append, MlsOk] at h
    exact mlsOk_drop h.2
theorem msizes_app : ∀ (a b : List Ml), msizes (a ++ b) = msizes a + msizes b
  | [], b => by rw [List.nil_append, msizes]; omega
  | m :: a, b => by rw [List.cons_append, msizes, msizes, msizes_app a b]; omega
theorem BPs.mono {w : World} {base base' : Nat} {v : Value} {l : List Nat} (h : BPs w base' v l) (hb : base ≤ base') : BPs w base v l := by
  obtain ⟨h1, h2⟩ := h
  refine ⟨h1, ?_⟩
  rcases h2 with h2 | ⟨g, cap, cur, rfl, hg, h3⟩
  · exact .inl h2
  · exact .inr ⟨g, cap, cur, rfl, by omega, h3⟩
/-- All parts are told. -/
theorem parts_done {kids done : List Ml} {p : List UInt8} {X : Src} {w wr w1 : World} {n1 n2 M B0 b g k : Nat} {ty sub vi vd ve : List UInt8} {pm : Value} {pl : List (List UInt8 × List UInt8)} {s16 : Value} (F : PFix w n1 n2 M B0 b g k) (hX : ∀ x, X.own x → x < w.heap.size)
    {L : PL} {ks : List Nat} {s' : List UInt8} (hk : kids = done ++ []) (hd : 0 < done.length) (I : IsL L M B0 b g k X p) (hPb : n2 ≤ L.Pb) (hpar : pl = parL (bnd p))
    (hT : BssAt wr (fun x => n2 ≤ x ∧ (0 < done.length → x ≠ L.Pb) ∧ s16.ownBlock ≠ some x) (shapesOf done p 0) ks) (hS : BPs wr n2 s16 ks) (hSP : 0 < done.length → s16.ownBlock ≠ some L.Pb) (hB : Blk wr (w.heap.size + 1) (bsc ty sub pm vi vd ve 0 (.slice none 0 0) (.pointer none) 0) 138) (hM : MapP wr (fun x => w.heap.size + 1 < x ∧ x < n1) pm pl) (K : Keeps X.own w wr)
    (K1 : Keeps L.own wr w1) (hs : X.S w1 s') : FetchPost X (.mk ty sub (bnd p) vi vd ve 0 0 (shapesOf kids p 0)) w (.returned (.tuple #[.pointer (some ⟨w.heap.size + 1, 0, none⟩), .nilIface])) (w1.setCell ⟨w.heap.size + 1, 7, none⟩ s16) := by
  have o1 := I.own F
  have hf := F.h0
  have hn12 : n1 < n2 := by have := F.M1; have := F.M2; omega
  have hslt := hS.lt
  have hsge : ∀ x, s16.ownBlock = some x → n2 ≤ x := fun x hx => (World.ownsRow.lt hS x hx).1
  have kk : Keeps (In [w.heap.size + 1]) w1 (w1.setCell ⟨w.heap.size + 1, 7, none⟩ s16) := (Keeps.refl _ w1).setCell (.inl (by simp [In])) _
  have KA : Keeps (fun x => L.own x ∨ x = w.heap.size + 1) wr (w1.setCell ⟨w.heap.size + 1, 7, none⟩ s16) := (K1.mono (fun _ _ h => .inl h)).trans kk (fun i _ h => .inr (by simpa [In] using h))
  have hk' : ¬ L.own (w.heap.size + 1) := fun h => by
    rcases o1 _ h with h | h | h
    · omega
    · omega
    · have := hX _ h; omega
  refine ⟨w.heap.size + 1, s', rfl, ?_, X.set hs (fun h => by have := hX _ h; simp at this; omega) _, ?_⟩
  · rw [BsAt_eq]
    refine ⟨Nat.le_succ _, pm, s16, .pointer none, ks, ((hB.keep K1 hk').set 7 s16).to rfl, ?_, .inl ⟨(hS.mono (Nat.zero_le _)).keep KA (fun x hx h => ?_), fun x hx => by have := hsge x hx; show w.heap.size ≤ x; omega, rfl⟩, ?_⟩
    · rw [← hpar]
      refine (hM.keep KA (fun x hx h => ?_)).mono (fun x _ hx => by have := hx.1; omega)
      rcases h with h | h
      · rcases o1 _ h with h | h | h
        · have := hx.2; omega
        · have := hx.2; omega
        · have := hX _ h; have := hx.1; omega
      · have := hx.1; omega
    · rcases h with h | h
      · rcases o1 _ h with h | h | h
        · exact hSP hd (h ▸ hx)
        · have := hsge x hx; omega
        · have := hX _ h; have := hsge x hx; omega
      · have := hsge x hx; omega
    · rw [hk, List.append_nil]
      refine BssAt.mono (fun x _ hx => by have := hx.1; omega) _ _ (BssAt.keep KA (fun x hx h => ?_) _ _ hT)
      rcases h with h | h
      · rcases o1 _ h with h | h | h
        · exact hx.2.1 hd h
        · have := hx.1; omega
        · have := hX _ h; have := hx.1; omega
      · have := hx.1; omega
  · refine (K.trans KA (fun i hi h => ?_))
    rcases h with h | h
    · rcases o1 _ h with h | h | h
      · omega
      · omega
      · exact h
    · omega
theorem shapesOf_len (p : List UInt8) : ∀ (l : List Ml) (i : Nat), (shapesOf l p i).length = l.length
  | [], i => by rw [shapesOf_nil]; rfl
  | m :: l, i => by rw [shapesOf_cons, List.length_cons, List.length_cons, shapesOf_len p l (i + 1)]
theorem BPs.shape {w : World} {base : Nat} {v : Value} {l : List Nat} (h : BPs w base v l) : ∃ a n c, v = .slice a n c := by
  rcases h.2 with ⟨rfl, _⟩ | ⟨g, cap, cur, rfl, _⟩
  · exact ⟨_, _, _, rfl⟩
  · exact ⟨_, _, _, rfl⟩
theorem slice_kept {p : List UInt8} {X : Src} {w wr w1 w2 w3 : World} {n1 n2 M B0 b g k : Nat} {s16 : Value} (F : PFix w n1 n2 M B0 b g k) (hX : ∀ x, X.own x → x < w.heap.size) {done rest : List Ml} {L : PL} {ks : List Nat} (I : IsL L M B0 b g k X p) (hPb0 : done.length = 0 → wr.heap.size ≤ L.Pb)
    (hS : BPs wr n2 s16 ks) (hSP : 0 < done.length → s16.ownBlock ≠ some L.Pb) (K1 : Keeps L.own wr w1) {Pb : Nat} (hPb1 : wr.heap.size ≤ Pb) (K2 : Keeps (L.next Pb rest p done.length).own w1 w2) (K3 : Keeps No w2 w3) : BPs w3 n2 s16 ks := by
  have I' : IsL (L.next Pb rest p done.length) M B0 b g k X p := ⟨I.M, I.B0, I.b, I.g, I.k, I.X, I.bn⟩
  have o1 := I.own F
  have o2 := I'.own F
  have hpb : (L.next Pb rest p done.length).Pb = Pb := rfl
  rw [hpb] at o2
  have hslt := hS.lt
  have hf := F.h0
  have hn12 : n1 < n2 := by have := F.M1; have := F.M2; omega
  have hsge : ∀ x, s16.ownBlock = some x → n2 ≤ x := fun x hx => (World.ownsRow.lt hS x hx).1
  refine ((hS.keep K1 (fun x hx h => ?_)).keep K2 (fun x hx h => ?_)).keep K3 (fun _ _ h => h)
  · rcases o1 x h with h | h | h
    · rcases Nat.eq_zero_or_pos done.length with h0 | h0
      · have := hPb0 h0; have := hslt x hx; omega
      · exact hSP h0 (h ▸ hx)
    · have := hsge x hx; omega
    · have := hX x h; have := hsge x hx; omega
  · rcases o2 x h with h | h | h
    · have := hslt x hx; omega
    · have := hsge x hx; omega
    · have := hX x h; have := hsge x hx; omega

set_option maxRecDepth 100000 in
set_option maxHeartbeats 4000000 in
theorem fetch_parts (kids : List Ml) (p : List UInt8) (X : Src) (lb cap : Nat) (mp : Option Nat) (lo : Nat) (fs : List Fd) (w : World) (ty sub vt vi vd ve : List UInt8) (pl : List (List UInt8 × List UInt8)) (hn : fs.length ≤ 1000000)
    (hH : HP (w.alloc (.cells #[.slice (some ⟨lb, 0, none⟩) fs.length cap, .map mp] 74)) lo w.heap.size lb cap mp fs)
    (h1 : topv (sel fs ctK) = vt) (h2 : topv (sel fs ciK) = vi) (h3 : topv (sel fs cdK) = vd) (h4 : topv (sel fs ceK) = ve)
    (hP : ∀ W, Keeps No w W → Calls Tryz.prog 87 #[str vt] W (PmPost (ty ++ 47 :: sub) pl W)) (htl : ty.length + sub.length ≤ 1000) (h47 : (47 : UInt8) ∉ ty)
    (hMR : ∀ W, Keeps No w W → Calls Tryz.prog 90 #[.agg #[.slice (some ⟨lb, 0, none⟩) fs.length cap, .map mp], .iface X.t X.v] W (NmPost X (bnd p) (partsText kids p 0) W))
    (hp : PlOk p) (ok : MlsOk kids) (hne : kids ≠ []) (hpl : p.length + 1 + msizes kids ≤ 30) (hsure : suresOf kids p 0 = true) {N : Nat} (O : X.Ok N) (FE : FEnv N X.ea w) (hX : ∀ x, X.own x → x < w.heap.size) (IH : ∀ m ∈ kids, FetchOk m) (hpar : pl = parL (bnd p)) :
    Calls Tryz.prog 65 #[.agg #[.slice (some ⟨lb, 0, none⟩) fs.length cap, .map mp], .iface X.t X.v, .bool false] w (FetchPost X (.mk ty sub (bnd p) vi vd ve 0 0 (shapesOf kids p 0)) w) := by
  have HMR := Lib.hid hMR
  have HP0 := Lib.hid hp
  have HOK := Lib.hid ok
  have HNE := Lib.hid hne
  have HSU := Lib.hid hsure
  have HO := Lib.hid O
  have HFE := Lib.hid FE
  have HIH := Lib.hid IH
  have HPAR := Lib.hid hpar
  have HPL := Lib.hid hpl
  have hkl := kids_len kids
  have HX := Lib.hid hX
  clear hMR hp ok hne hsure O FE IH hpar hX
  have G := Lib.hid (fun K Kl W h => get_any lo w.heap.size lb cap mp fs K W h Kl hn)
  have HPM := Lib.hid hP
  have H1 := Lib.hid h1
  have H2 := Lib.hid h2
  have H3 := Lib.hid h3
  have H4 := Lib.hid h4
  have HH := Lib.hid hH
  have CUT := Lib.hid (fun W => zzCutB_some ty sub 47 W h47 (by omega))
  clear hP h1 h2 h3 h4 hH htl h47
  have hszA : (w.alloc (.cells #[.slice (some ⟨lb, 0, none⟩) fs.length cap, .map mp] 74)).heap.size = w.heap.size + 1 := by simp
  have KA : Keeps No w (w.alloc (.cells #[.slice (some ⟨lb, 0, none⟩) fs.length cap, .map mp] 74)) := (Keeps.refl No w).alloc _
  go_enter Tryz.func65, Tryz.ntmps65
  go_wp2_with (fail)
  generalize w.alloc (.cells #[.slice (some ⟨lb, 0, none⟩) fs.length cap, .map mp] 74) = wA at *
  have B0 : Blk (wA.alloc (.cells (bsc [] [] (.map none) [] [] [] 0 (.slice none 0 0) (.pointer none) 0).toArray 138)) (w.heap.size + 1) (bsc [] [] (.map none) [] [] [] 0 (.slice none 0 0) (.pointer none) 0) 138 := by
    have := Blk.new wA (bsc [] [] (.map none) [] [] [] 0 (.slice none 0 0) (.pointer none) 0) 138
    rwa [hszA] at this
  have K0 : Keeps No wA (wA.alloc (.cells (bsc [] [] (.map none) [] [] [] 0 (.slice none 0 0) (.pointer none) 0).toArray 138)) := (Keeps.refl No wA).alloc _
  have HSZ := Lib.hid (show wA.heap.size ≤ w.heap.size + 1 by omega)
  clear hszA
  refine (G.out ctK (by decide) _ (HH.out.keep_no K0)).mono ?_
  rintro e w1 ⟨rfl, K1⟩
  have B1 := B0.keep_no K1
  have K1 := K0.trans_no K1
  clear B0 K0
  rw [show canon ctK = ctK by decide, H1.out]
  go_wp2_with (fail)
  refine (HPM.out w1 (KA.trans_no K1)).mono ?_
  rintro e w2 ⟨mb, rfl, hmb, M2, K2⟩
  have B2 := B1.keep_no K2
  have hmb2 : w.heap.size + 1 < mb := by have := B1.lt; omega
  have K2 := K1.trans_no K2
  clear B1 K1 hmb
  go_wp2_with (fail)
  refine (CUT.out w2).mono ?_
  rintro e w3 ⟨rfl, K3⟩
  have B3 := Lib.hid (B2.keep_no K3)
  have M3 := Lib.hid (M2.keep K3 (fun h => h))
  have K3 := K2.trans_no K3
  clear B2 K2 M2
  have fz3 := B3.out.frozen
  have c0 : w3.cell? ⟨w.heap.size + 1, 0, none⟩ = some (str []) := B3.out.cell 0
  have c1 : w3.cell? ⟨w.heap.size + 1, 1, none⟩ = some (str []) := B3.out.cell 1
  have c2 : w3.cell? ⟨w.heap.size + 1, 2, none⟩ = some (.map none) := B3.out.cell 2
  go_wp2_with (fail)
  have B4 := (((B3.out.set 0 (str ty)).set 1 (str sub)).set 2 (.map (some mb))).to (show _ = bsc ty sub (.map (some mb)) [] [] [] 0 (.slice none 0 0) (.pointer none) 0 from rfl)
  have K4 := keeps_new (keeps_new (keeps_new K3 HSZ.out 0 (str ty)) HSZ.out 1 (str sub)) HSZ.out 2 (.map (some mb))
  have M4' := M3.out.keep (((Keeps.refl (In [w.heap.size + 1]) w3).setCell (p := ⟨w.heap.size + 1, 0, none⟩) (.inl (by simp [In])) (str ty)).setCell (p := ⟨w.heap.size + 1, 1, none⟩) (.inl (by simp [In])) (str sub) |>.setCell (p := ⟨w.heap.size + 1, 2, none⟩) (.inl (by simp [In])) (.map (some mb))) (fun h => by simp [In] at h; omega)
  have M4 : MapP _ (fun x => w.heap.size + 1 < x) (.map (some mb)) pl := .inr ⟨mb, rfl, hmb2, M4'⟩
  unfold str at B4 K4 M4
  generalize (((w3.setCell _ _).setCell _ _).setCell _ _) = w4 at *
  clear c0 c1 c2 fz3 B3 K3 M3 M4' hmb2
  refine (G.out ciK (by decide) w4 (HH.out.keep_no K4)).mono ?_
  rintro e w5 ⟨rfl, K5⟩
  rw [show canon ciK = ciK by decide, H2.out]
  have HB5 := Lib.hid (B4.keep_no K5)
  have HM5 := Lib.hid (M4.keep K5 (fun _ _ h => h))
  have K5 := K4.trans_no K5
  have fz5 := HB5.out.frozen
  have c3 : w5.cell? ⟨w.heap.size + 1, 3, none⟩ = some (str []) := HB5.out.cell 3
  clear B4 K4 M4
  go_wp2_with (fail)
  have B6 := (HB5.out.set 3 (str vi)).to (show _ = bsc ty sub (.map (some mb)) vi [] [] 0 (.slice none 0 0) (.pointer none) 0 from rfl)
  have M6 := HM5.out.keep ((Keeps.refl (In [w.heap.size + 1]) w5).setCell (p := ⟨w.heap.size + 1, 3, none⟩) (.inl (by simp [In])) (str vi)) (fun x hx h => by simp [In] at h; omega)
  have K6 := keeps_new K5 HSZ.out 3 (str vi)
  unfold str at B6 K6 M6
  generalize (w5.setCell _ _) = w6 at *
  clear c3 fz5 HB5 HM5 K5
  refine (G.out cdK (by decide) w6 (HH.out.keep_no K6)).mono ?_
  rintro e w7 ⟨rfl, K7⟩
  rw [show canon cdK = cdK by decide, H3.out]
  have HB7 := Lib.hid (B6.keep_no K7)
  have HM7 := Lib.hid (M6.keep K7 (fun _ _ h => h))
  have K7 := K6.trans_no K7
  have fz7 := HB7.out.frozen
  have c4 : w7.cell? ⟨w.heap.size + 1, 4, none⟩ = some (str []) := HB7.out.cell 4
  clear B6 K6 M6
  go_wp2_with (fail)
  have B8 := (HB7.out.set 4 (str vd)).to (show _ = bsc ty sub (.map (some mb)) vi vd [] 0 (.slice none 0 0) (.pointer none) 0 from rfl)
  have M8 := HM7.out.keep ((Keeps.refl (In [w.heap.size + 1]) w7).setCell (p := ⟨w.heap.size + 1, 4, none⟩) (.inl (by simp [In])) (str vd)) (fun x hx h => by simp [In] at h; omega)
  have K8 := keeps_new K7 HSZ.out 4 (str vd)
  unfold str at B8 K8 M8
  generalize (w7.setCell _ _) = w8 at *
  clear c4 fz7 HB7 HM7 K7
  refine (G.out ceK (by decide) w8 (HH.out.keep_no K8)).mono ?_
  rintro e w9 ⟨rfl, K9⟩
  rw [show canon ceK = ceK by decide, H4.out]
  have HB9 := Lib.hid (B8.keep_no K9)
  have HM9 := Lib.hid (M8.keep K9 (fun _ _ h => h))
  have K9 := K8.trans_no K9
  have fz9 := HB9.out.frozen
  have c5 : w9.cell? ⟨w.heap.size + 1, 5, none⟩ = some (str []) := HB9.out.cell 5
  clear B8 K8 M8
  have d0 : w9.cell? ⟨w.heap.size, 0, none⟩ = some (.slice (some ⟨lb, 0, none⟩) fs.length cap) := (HH.out.keep_no K9).B.cell 0
  have d1 : w9.cell? ⟨w.heap.size, 1, none⟩ = some (.map mp) := (HH.out.keep_no K9).B.cell 1
  go_wp2_with (fail)
  have B10 := (HB9.out.set 5 (str ve)).to (show _ = bsc ty sub (.map (some mb)) vi vd ve 0 (.slice none 0 0) (.pointer none) 0 from rfl)
  have M10 := HM9.out.keep ((Keeps.refl (In [w.heap.size + 1]) w9).setCell (p := ⟨w.heap.size + 1, 5, none⟩) (.inl (by simp [In])) (str ve)) (fun x hx h => by simp [In] at h; omega)
  have K10 := keeps_new K9 HSZ.out 5 (str ve)
  unfold str at B10 K10 M10
  generalize (w9.setCell _ _) = w10 at *
  clear d0 d1 c5 fz9 HB9 HM9 K9
  refine (HMR.out w10 (KA.trans_no K10)).mono ?_
  rintro e w11 ⟨M, b, g, k, B0, cap', rfl, hM, hb, hg, hk, hB0, MR, RD, nM, nB, mB, K11⟩
  have KK := Lib.hid ((KA.trans_no K10).trans_no K11)
  have HF := Lib.hid (show PFix w w10.heap.size w11.heap.size M B0 b g k from ⟨B10.lt, hM, MR.B.lt, hB0, MR.D.lt, hb, RD.lt _ (.inl rfl), hg, RD.lt _ (.inr (.inl rfl)), hk, RD.lt _ (.inr (.inr (.inl rfl)))⟩)
  have HB11 := Lib.hid (B10.keep_no K11)
  have HM11 := Lib.hid ((M10.mono (B := fun x => w.heap.size + 1 < x ∧ x < w10.heap.size) (fun x hx h => ⟨h, hx⟩)).keep K11 (fun _ _ h => h))
  have HMR11 := Lib.hid MR
  rw [parts_tail] at RD
  have HRD := Lib.hid RD
  clear MR RD B10 M10 K10 K11 hM hb hg hk hB0 G HPM H1 H2 H3 H4 HH CUT HMR KA HSZ
  go_wp2
  go_loopg [16] (kids.length + 1) (fun n s16 wr => PInv kids p X w w10.heap.size w11.heap.size M B0 b g k (bsc ty sub (.map (some mb)) vi vd ve 0 (.slice none 0 0) (.pointer none) 0) (.map (some mb)) pl n s16 wr)
  case atStart =>
    exact ⟨[], kids, ⟨w11.heap.size, M, B0, b, g, k, cap', X, bnd p, [], 0⟩, [], rfl, rfl, ⟨rfl, rfl, rfl, rfl, rfl, rfl, rfl⟩, Nat.le_refl _, fun _ => Nat.le_refl _, .inl ⟨rfl, HMR11.out, HRD.out, nM, nB, mB⟩, by rw [shapesOf_nil, BssAt_nil], World.ownsRow_nil _ _ _ _, fun h => absurd h (by simp), HB11.out, HM11.out, Nat.le_refl _, KK.out.of_no⟩
  case round =>
    obtain ⟨done, rest, L, ks, hkk, hnn, I, hPb, hPb0, hA, hT, hS, hSP, hB, hM, hsz, K⟩ := hrel
    obtain ⟨sa, sn, sc, hsl⟩ := hS.shape
    subst hsl
    have F := HF.out
    have FEr := HFE.out.keep K (fun x hx => HO.out.old hx)
    have hNw := HFE.out.hN
    have hf0 := F.h0
    have OL : L.X.Ok N := by rw [I.X]; exact HO.out
    have LaL : Laid N L.X.ea wr := by rw [I.X]; exact FEr.laid
    have Lo : L.Old N := ⟨by rw [I.M]; have := F.M1; omega, by rw [I.B0]; have := F.B1; omega, by rw [I.b]; have := F.b1; omega, by rw [I.g]; have := F.g1; omega, by rw [I.k]; have := F.k1; omega⟩
    have hPbN : N ≤ L.Pb := by have := F.M1; have := F.M2; omega
    have own := I.own F
    have hdl : done.length + rest.length = kids.length := by rw [hkk, List.length_append]
    have ownN : ∀ x, L.own x → N ≤ x := fun x hx => (partSrc_ok OL hPbN Lo.M Lo.B0 Lo.b Lo.g Lo.k).old hx
    have hcs : (bsc ty sub (.map (some mb)) vi vd ve 0 (.slice none 0 0) (.pointer none) 0)[7]? = some (.slice none 0 0) := rfl
    have hms : msizes kids = msizes done + msizes rest := by rw [hkk, msizes_app]
    have hpl := HPL.out
    have hkd := HOK.out
    rw [hkk] at hkd
    have hkd := mlsOk_drop hkd
    cases rest with
    | nil =>
      have hd0 : 0 < done.length := List.length_pos_iff.2 (fun e => HNE.out (by rw [hkk, e]; rfl))
      have hNx := next_last L HP0.out I.bn wr (by simp at hdl; omega) hd0 hA OL LaL FEr.hN Lo (fun _ => hPbN)
      rw [I.M, I.X] at hNx
      have HNX := Lib.hid hNx
      have HI := Lib.hid I
      have HK := Lib.hid hkk
      have hkO : ¬ L.own (w.heap.size + 1) := fun h => by
        have := F.M1
        have := F.M2
        rcases own _ h with h | h | h
        · omega
        · omega
        · have := HX.out _ h; omega
      have HKO := Lib.hid hkO
      have HDONE := Lib.hid (fun w1 s' K1 hs => parts_done (w1 := w1) (s' := s') F HX.out hkk hd0 I hPb HPAR.out hT hS hSP hB hM K K1 hs)
      have HB := Lib.hid hB
      have HFR := Lib.hid FEr
      have HOWN := Lib.hid ownN
      clear hNx hd0 hA OL LaL Lo hPbN hdl hms hpl hkd hkk I hT hS hSP hB hM K FEr F hPb hPb0 hcs own ownN hkO
      go_wp2_with (fail)
      refine HNX.out.mono ?_
      rintro e w12 ⟨rfl, ⟨s', hXs⟩, K12⟩
      have F12 := HFR.out.keep K12 HOWN.out
      have heof := F12.laid.eof
      have hq := fun w => eql_err_same w X.ea
      have B12 := HB.out.keep K12 HKO.out
      have fz := B12.frozen
      have c7 : w12.cell? ⟨w.heap.size + 1, 7, none⟩ = some (.slice none 0 0) := B12.cell 7
      have HD := Lib.hid (HDONE.out w12 s' K12 hXs)
      clear F12 B12 HDONE HB HFR HOWN hXs K12
      go_wp2
      go_ret2
      exact HD.out
    | cons m rest =>
      rw [msizes] at hms
      have hkl2 : done.length < kids.length := by rw [← hdl]; simp
      have hNx := next_any L HP0.out I.bn wr hkd (by rw [msizes]; omega) (by omega) hA OL LaL FEr.hN Lo (fun _ => hPbN)
      rw [I.M] at hNx
      have hsm := HSU.out
      rw [hkk] at hsm
      have hsm := sures_app p m rest done 0 hsm
      rw [Nat.zero_add] at hsm
      have hmem : m ∈ kids := by rw [hkk]; exact List.mem_append_right _ (List.mem_cons_self ..)
      have hFO := HIH.out m hmem
      have hSTEP := fun w1 w2 w3 w4 K1 Pb hPb1 hPb2 kb s' hs hkb K2 K3 v' hv K4 hvo => PInv.step (w1 := w1) (w2 := w2) (w3 := w3) (w4 := w4) F HX.out hkk I hPb hPb0 hT hS hSP hB hM hsz K K1 (Pb := Pb) hPb1 hPb2 (kb := kb) (s' := s') hs hkb K2 K3 (v' := v') hv K4 hvo
      have hSK := fun w1 w2 w3 K1 Pb hPb1 K2 K3 => slice_kept (rest := rest) (w1 := w1) (w2 := w2) (w3 := w3) F HX.out I hPb0 hS hSP K1 (Pb := Pb) hPb1 K2 K3
      have hPO : ∀ Pb, N ≤ Pb → (partSrc (L.next Pb rest p done.length)).Ok N := fun Pb h => partSrc_ok (L := L.next Pb rest p done.length) OL h Lo.M Lo.B0 Lo.b Lo.g Lo.k
      have HNX := Lib.hid hNx
      have HFR := Lib.hid FEr
      have HOWN := Lib.hid ownN
      have HFO := Lib.hid hFO
      have HSM := Lib.hid hsm
      have HST := Lib.hid hSTEP
      have HSK := Lib.hid hSK
      have HPO := Lib.hid hPO
      have HS := Lib.hid hS
      have HNN := Lib.hid hnn
      have HSZR := Lib.hid hsz
      have HMS := Lib.hid hms
      have HLX := Lib.hid (show L.X.ea = X.ea by rw [I.X])
      have hlks : ks.length ≤ 30 := by
        have := BssAt.len _ _ hT
        rw [shapesOf_len] at this
        omega
      clear hNx hA OL LaL Lo hdl hms hpl hkd hkk I hT hS hSP hB hM K FEr F hPb hPb0 hcs own ownN hFO hsm hSTEP hPO hmem hnn hSK
      go_wp2_with (fail)
      refine HNX.out.mono ?_
      rintro e w12 ⟨Pb, hl, hm, fs', rfl, h1, h2, h3, h4, h5, K12⟩
      have F12 := HFR.out.keep K12 HOWN.out
      have heof := F12.laid.eof
      have hq2 := fun (w : World) (v : Value) => run_eql_iface_nil_left (P := Tryz.prog) w 203 v Tryz.underlying93
      have d0 : w12.cell? ⟨Pb, 0, none⟩ = some hl := h2.cell 0
      have d1 : w12.cell? ⟨Pb, 1, none⟩ = some hm := h2.cell 1
      have hPl := h2.lt
      have HF12 := Lib.hid F12
      have H3' := Lib.hid h3
      have H4' := Lib.hid h4
      have H5' := Lib.hid h5
      have HK12 := Lib.hid K12
      clear F12 h2 h3 h4 h5 K12
      go_wp2_with (fail)
      refine (HFO.out (under p done.length) (partSrc (L.next Pb rest p done.length)) N w12 (.agg #[hl, hm]) fs' wr.heap.size (under_ok HP0.out _) (by rw [under_len]; have := HPL.out; have := HMS.out; omega) HSM.out (HPO.out Pb (by have := HFR.out.hN; omega)) (show FEnv N L.X.ea w12 by rw [HLX.out]; exact HF12.out) H5'.out H3'.out H4'.out).mono ?_
      rintro e w13 ⟨kb, s', rfl, hkb, hs', K13⟩
      have C := Lib.hid (show (w13.alloc (.cells #[.pointer (some ⟨kb, 0, none⟩)] 91)).cell? ⟨w13.heap.size, 0, none⟩ = some (.pointer (some ⟨kb, 0, none⟩)) from (Blk.new w13 [.pointer (some ⟨kb, 0, none⟩)] 91).cell 0)
      have KAL : Keeps No w13 (w13.alloc (.cells #[.pointer (some ⟨kb, 0, none⟩)] 91)) := (Keeps.refl No w13).alloc _
      have SKP := Lib.hid (HSK.out w12 w13 _ HK12.out Pb h1 K13 KAL)
      have hszs : w11.heap.size ≤ (w13.alloc (.cells #[.pointer (some ⟨kb, 0, none⟩)] 91)).heap.size := by
        have := KAL.size
        have := K13.size
        have := HK12.out.size
        have := HSZR.out
        omega
      have HSZS := Lib.hid hszs
      clear hszs
      go_wp2_with (at_builtin; refine wpList_append_bs rfl (.tmp 102) (.tmp 104) rfl w11.heap.size ks.length _ ks rfl rfl SKP.out ⟨w13.heap.size, 0, none⟩ 1 kb rfl C.out (by omega) HSZS.out ?_; intro v' W hv K14 hvo)
      have HSTP := Lib.hid (HST.out w12 w13 _ W HK12.out Pb h1 hPl kb s' hs' hkb K13 KAL v' hv K14 hvo)
      clear hv K14 hvo
      go_wp2
      go_roundg (rest.length + 1)
      case measure => have := HNN.out; simp at this; omega
      case rel => exact HSTP.out
end Go.Proofs.YtjbbapodcngnaaaGreatDoor.G
namespace Go.Proofs.YtjbbapodcngnaaaGreatDoor.G
open Go.RowKit Hdr

set_option maxRecDepth 100000 in
set_option maxHeartbeats 4000000 in
theorem fetch_msg (X : Src) (lb cap : Nat) (mp : Option Nat) (lo : Nat) (fs : List Fd) (w : World) (ty sub vt vi vd ve : List UInt8) (pl : List (List UInt8 × List UInt8)) (hn : fs.length ≤ 1000000)
    (hH : HP (w.alloc (.cells #[.slice (some ⟨lb, 0, none⟩) fs.length cap, .map mp] 74)) lo w.heap.size lb cap mp fs)
    (h1 : topv (sel fs ctK) = vt) (h2 : topv (sel fs ciK) = vi) (h3 : topv (sel fs cdK) = vd) (h4 : topv (sel fs ceK) = ve)
    (hP : ∀ W, Keeps No w W → Calls Tryz.prog 87 #[str vt] W (PmPost (ty ++ 47 :: sub) pl W)) (htl : ty.length + sub.length ≤ 1000) (h47 : (47 : UInt8) ∉ ty)
    (hMR : ∀ W, Keeps No w W → Calls Tryz.prog 90 #[.agg #[.slice (some ⟨lb, 0, none⟩) fs.length cap, .map mp], .iface X.t X.v] W fun e w' => e = .returned (.pointer none) ∧ Keeps No W w')
    (T : List UInt8) (hs : X.S w T) (hT : T ≠ [] → T.getLast? = some 10) (hTl : T.length ≤ 1000000) {N : Nat} (O : X.Ok N) (FE : FEnv N X.ea w) (hX : ∀ x, X.own x → x < w.heap.size) (hm : ty = messS) (hsb : sub = rfcS) (hpar : pl = []) (m : Ml) (ok : MlOk m) (q : List UInt8) (hq : PlOk q) (hql : q.length + msize m ≤ 30) (hTm : T = mtext m q) (hsm : sureOf m q = true) (IH : FetchOk m) :
    Calls Tryz.prog 65 #[.agg #[.slice (some ⟨lb, 0, none⟩) fs.length cap, .map mp], .iface X.t X.v, .bool false] w (FetchPost X (.mk ty sub [] vi vd ve T.length (nlf T) [shapeOf m q]) w) := by
  have HMR := Lib.hid hMR
  have HS0 := Lib.hid hs
  have HTT := Lib.hid hT
  have HTL2 := Lib.hid hTl
  have HO := Lib.hid O
  have HFE := Lib.hid FE
  have HXX := Lib.hid hX
  have HME := Lib.hid hm
  have HSB := Lib.hid hsb
  have HOKM := Lib.hid ok
  have HQ := Lib.hid hq
  have HQL := Lib.hid hql
  have HTM := Lib.hid hTm
  have HSM := Lib.hid hsm
  have HIH := Lib.hid IH
  have HPAR := Lib.hid hpar
  clear hMR hs hT hTl O FE hX hm hpar hsb ok hq hql hTm hsm IH
  have G := Lib.hid (fun K Kl W h => get_any lo w.heap.size lb cap mp fs K W h Kl hn)
  have HPM := Lib.hid hP
  have H1 := Lib.hid h1
  have H2 := Lib.hid h2
  have H3 := Lib.hid h3
  have H4 := Lib.hid h4
  have HH := Lib.hid hH
  have CUT := Lib.hid (fun W => zzCutB_some ty sub 47 W h47 (by omega))
  clear hP h1 h2 h3 h4 hH htl h47
  have hszA : (w.alloc (.cells #[.slice (some ⟨lb, 0, none⟩) fs.length cap, .map mp] 74)).heap.size = w.heap.size + 1 := by simp
  have KA : Keeps No w (w.alloc (.cells #[.slice (some ⟨lb, 0, none⟩) fs.length cap, .map mp] 74)) := (Keeps.refl No w).alloc _
  go_enter Tryz.func65, Tryz.ntmps65
  go_wp2_with (fail)
  generalize w.alloc (.cells #[.slice (some ⟨lb, 0, none⟩) fs.length cap, .map mp] 74) = wA at *
  have B0 : Blk (wA.alloc (.cells (bsc [] [] (.map none) [] [] [] 0 (.slice none 0 0) (.pointer none) 0).toArray 138)) (w.heap.size + 1) (bsc [] [] (.map none) [] [] [] 0 (.slice none 0 0) (.pointer none) 0) 138 := by
    have := Blk.new wA (bsc [] [] (.map none) [] [] [] 0 (.slice none 0 0) (.pointer none) 0) 138
    rwa [hszA] at this
  have K0 : Keeps No wA (wA.alloc (.cells (bsc [] [] (.map none) [] [] [] 0 (.slice none 0 0) (.pointer none) 0).toArray 138)) := (Keeps.refl No wA).alloc _
  have HSZ := Lib.hid (show wA.heap.size ≤ w.heap.size + 1 by omega)
  clear hszA
  refine (G.out ctK (by decide) _ (HH.out.keep_no K0)).mono ?_
  rintro e w1 ⟨rfl, K1⟩
  have B1 := B0.keep_no K1
  have K1 := K0.trans_no K1
  clear B0 K0
  rw [show canon ctK = ctK by decide, H1.out]
  go_wp2_with (fail)
  refine (HPM.out w1 (KA.trans_no K1)).mono ?_
  rintro e w2 ⟨mb, rfl, hmb, M2, K2⟩
  have B2 := B1.keep_no K2
  have hmb2 : w.heap.size + 1 < mb := by have := B1.lt; omega
  have K2 := K1.trans_no K2
  clear B1 K1 hmb
  go_wp2_with (fail)
  refine (CUT.out w2).mono ?_
  rintro e w3 ⟨rfl, K3⟩
  have B3 := Lib.hid (B2.keep_no K3)
  have M3 := Lib.hid (M2.keep K3 (fun h => h))
  have K3 := K2.trans_no K3
  clear B2 K2 M2
  have fz3 := B3.out.frozen
  have c0 : w3.cell? ⟨w.heap.size + 1, 0, none⟩ = some (str []) := B3.out.cell 0
  have c1 : w3.cell? ⟨w.heap.size + 1, 1, none⟩ = some (str []) := B3.out.cell 1
  have c2 : w3.cell? ⟨w.heap.size + 1, 2, none⟩ = some (.map none) := B3.out.cell 2
  go_wp2_with (fail)
  have B4 := (((B3.out.set 0 (str ty)).set 1 (str sub)).set 2 (.map (some mb))).to (show _ = bsc ty sub (.map (some mb)) [] [] [] 0 (.slice none 0 0) (.pointer none) 0 from rfl)
  have K4 := keeps_new (keeps_new (keeps_new K3 HSZ.out 0 (str ty)) HSZ.out 1 (str sub)) HSZ.out 2 (.map (some mb))
  have M4' := M3.out.keep (((Keeps.refl (In [w.heap.size + 1]) w3).setCell (p := ⟨w.heap.size + 1, 0, none⟩) (.inl (by simp [In])) (str ty)).setCell (p := ⟨w.heap.size + 1, 1, none⟩) (.inl (by simp [In])) (str sub) |>.setCell (p := ⟨w.heap.size + 1, 2, none⟩) (.inl (by simp [In])) (.map (some mb))) (fun h => by simp [In] at h; omega)
  have M4 : MapP _ (fun x => w.heap.size + 1 < x) (.map (some mb)) pl := .inr ⟨mb, rfl, hmb2, M4'⟩
  unfold str at B4 K4 M4
  generalize (((w3.setCell _ _).setCell _ _).setCell _ _) = w4 at *
  clear c0 c1 c2 fz3 B3 K3 M3 M4' hmb2
  refine (G.out ciK (by decide) w4 (HH.out.keep_no K4)).mono ?_
  rintro e w5 ⟨rfl, K5⟩
  rw [show canon ciK = ciK by decide, H2.out]
  have HB5 := Lib.hid (B4.keep_no K5)
  have HM5 := Lib.hid (M4.keep K5 (fun _ _ h => h))
  have K5 := K4.trans_no K5
  have fz5 := HB5.out.frozen
  have c3 : w5.cell? ⟨w.heap.size + 1, 3, none⟩ = some (str []) := HB5.out.cell 3
  clear B4 K4 M4
  go_wp2_with (fail)
  have B6 := (HB5.out.set 3 (str vi)).to (show _ = bsc ty sub (.map (some mb)) vi [] [] 0 (.slice none 0 0) (.pointer none) 0 from rfl)
  have M6 := HM5.out.keep ((Keeps.refl (In [w.heap.size + 1]) w5).setCell (p := ⟨w.heap.size + 1, 3, none⟩) (.inl (by simp [In])) (str vi)) (fun x hx h => by simp [In] at h; omega)
  have K6 := keeps_new K5 HSZ.out 3 (str vi)
  unfold str at B6 K6 M6
  generalize (w5.setCell _ _) = w6 at *
  clear c3 fz5 HB5 HM5 K5
  refine (G.out cdK (by decide) w6 (HH.out.keep_no K6)).mono ?_
  rintro e w7 ⟨rfl, K7⟩
  rw [show canon cdK = cdK by decide, H3.out]
  have HB7 := Lib.hid (B6.keep_no K7)
  have HM7 := Lib.hid (M6.keep K7 (fun _ _ h => h))
  have K7 := K6.trans_no K7
  have fz7 := HB7.out.frozen
  have c4 : w7.cell? ⟨w.heap.size + 1, 4, none⟩ = some (str []) := HB7.out.cell 4
  clear B6 K6 M6
  go_wp2_with (fail)
  have B8 := (HB7.out.set 4 (str vd)).to (show _ = bsc ty sub (.map (some mb)) vi vd [] 0 (.slice none 0 0) (.pointer none) 0 from rfl)
  have M8 := HM7.out.keep ((Keeps.refl (In [w.heap.size + 1]) w7).setCell (p := ⟨w.heap.size + 1, 4, none⟩) (.inl (by simp [In])) (str vd)) (fun x hx h => by simp [In] at h; omega)
  have K8 := keeps_new K7 HSZ.out 4 (str vd)
  unfold str at B8 K8 M8
  generalize (w7.setCell _ _) = w8 at *
  clear c4 fz7 HB7 HM7 K7
  refine (G.out ceK (by decide) w8 (HH.out.keep_no K8)).mono ?_
  rintro e w9 ⟨rfl, K9⟩
  rw [show canon ceK = ceK by decide, H4.out]
  have HB9 := Lib.hid (B8.keep_no K9)
  have HM9 := Lib.hid (M8.keep K9 (fun _ _ h => h))
  have K9 := K8.trans_no K9
  have fz9 := HB9.out.frozen
  have c5 : w9.cell? ⟨w.heap.size + 1, 5, none⟩ = some (str []) := HB9.out.cell 5
  clear B8 K8 M8
  have d0 : w9.cell? ⟨w.heap.size, 0, none⟩ = some (.slice (some ⟨lb, 0, none⟩) fs.length cap) := (HH.out.keep_no K9).B.cell 0
  have d1 : w9.cell? ⟨w.heap.size, 1, none⟩ = some (.map mp) := (HH.out.keep_no K9).B.cell 1
  go_wp2_with (fail)
  have B10 := (HB9.out.set 5 (str ve)).to (show _ = bsc ty sub (.map (some mb)) vi vd ve 0 (.slice none 0 0) (.pointer none) 0 from rfl)
  have M10 := HM9.out.keep ((Keeps.refl (In [w.heap.size + 1]) w9).setCell (p := ⟨w.heap.size + 1, 5, none⟩) (.inl (by simp [In])) (str ve)) (fun x hx h => by simp [In] at h; omega)
  have K10 := keeps_new K9 HSZ.out 5 (str ve)
  unfold str at B10 K10 M10
  generalize (w9.setCell _ _) = w10 at *
  clear d0 d1 c5 fz9 HB9 HM9 K9
  refine (HMR.out w10 (KA.trans_no K10)).mono ?_
  rintro e w11 ⟨rfl, K11⟩
  have KK := Lib.hid ((KA.trans_no K10).trans_no K11)
  have HB11 := Lib.hid (B10.keep_no K11)
  have HM11 := Lib.hid ((M10.keep K11 (fun _ _ h => h)).mono (B := fun x => w.heap.size + 1 < x ∧ x < w11.heap.size) (fun x hx h => ⟨h, hx⟩))
  have c110 : w11.cell? ⟨w.heap.size + 1, 0, none⟩ = some (str ty) := HB11.out.cell 0
  clear B10 M10 K10 K11 G HPM H1 H2 H3 H4 HH HMR KA HSZ
  go_upto_region 28 with (fail)
  have hCb := Blk.new w11 [.iface X.t X.v, .int .u32 0, .int .u32 0, .bool false] 178
  have KC : Keeps No w11 (w11.alloc (.cells #[.iface X.t X.v, .int .u32 0, .int .u32 0, .bool false] 178)) := (Keeps.refl No w11).alloc _
  have hkC : w.heap.size + 1 < w11.heap.size := HB11.out.lt
  have HKC := Lib.hid (KK.out.trans_no KC)
  have hCS : CountS w11.heap.size X T (w11.alloc (.cells #[.iface X.t X.v, .int .u32 0, .int .u32 0, .bool false] 178)) T :=
    ⟨[], 0, rfl, hCb, fun _ => rfl, X.keep_no HS0.out HKC.out, fun h => by have := HXX.out _ h; omega, fun h => by unfold lfEnd; rw [HTT.out h]; rfl, by have := HTL2.out; omega, by unfold U32; omega⟩
  have HCS := Lib.hid hCS
  have HBC := Lib.hid (HB11.out.keep_no KC)
  have HMC := Lib.hid (HM11.out.keep KC (fun _ _ h => h))
  have HFC := Lib.hid (HFE.out.keep_no HKC.out)
  generalize (w11.alloc (.cells #[.iface X.t X.v, .int .u32 0, .int .u32 0, .bool false] 178)) = wC at *
  have c0 : wC.cell? ⟨w.heap.size + 1, 0, none⟩ = some (str ty) := HBC.out.cell 0
  have hte : (ty == [109, 101, 115, 115, 97, 103, 101]) = true := beq_iff_eq.2 HME.out
  have hte2 : ty = [109, 101, 115, 115, 97, 103, 101] ↔ True := ⟨fun _ => trivial, fun _ => HME.out⟩
  have hse : (sub == [114, 102, 99, 56, 50, 50]) = true := beq_iff_eq.2 HSB.out
  have hse2 : sub = [114, 102, 99, 56, 50, 50] ↔ True := ⟨fun _ => trivial, fun _ => HSB.out⟩
  have c1 : wC.cell? ⟨w.heap.size + 1, 1, none⟩ = some (str sub) := HBC.out.cell 1
  clear hCb KC hCS HB11 HM11 c110
  have hON := countSrc_ok (k := w11.heap.size) (T := T) HO.out (by have := HFE.out.hN; omega)
  have HON := Lib.hid hON
  clear hON
  have hszC : w11.heap.size < wC.heap.size := (countSrc w11.heap.size X T).lt HCS.out (.inl rfl)
  go_wp2_with (fail)
  refine (bufNew_any (countSrc w11.heap.size X T) T wC HCS.out (count_notBuf w11.heap.size)).mono ?_
  rintro e w12 ⟨b, g, rfl, hb, hg, R12, K12⟩
  have HF12 := Lib.hid (HFC.out.keep_no K12)
  have hN0 : N ≤ wC.heap.size := HFC.out.hN
  have hl := any_lns HOKM.out HQ.out HQL.out
  have hsh : Short T := by
    rw [HTM.out]
    have := hl.1.short (c := []) short_nil
    rwa [List.append_nil] at this
  have hTn : T ≠ [] := by
    rw [HTM.out]
    unfold mtext hdrText
    simp
  have E12 : Env N b g (countSrc w11.heap.size X T) w12 := ⟨HON.out, by omega, by omega, HF12.out.laid⟩
  have hRH := readHeader_any b g (countSrc w11.heap.size X T) w12 T R12 hTn hsh HTL2.out E12
  have hrd : rhd T = some ((fieldsOf m q).map pfH, content m q) := by
    rw [HTM.out]
    unfold mtext
    exact rhd_fields _ (fields_ok HOKM.out HQ.out (by have := HQL.out; have := msize_pos m; omega)) _
  rw [hrd] at hRH
  have HRH := Lib.hid hRH
  have HTN := Lib.hid hTn
  have HK12 := Lib.hid K12
  clear hRH hrd hsh hl E12 R12 hTn K12
  go_wp2_with (fail)
  refine HRH.out.mono ?_
  rintro e w13 ⟨K13, lb2, cap2, mp2, fs2, rfl, p1, p2, p3, p4, p5, p6, p7⟩
  have KCX : ∀ x, InX b g (countSrc w11.heap.size X T) x → N ≤ x := fun x hx => by
    rcases hx with h | h | h
    · omega
    · omega
    · exact HON.out.old h
  have HF13 := Lib.hid (HF12.out.keep K13 KCX)
  have hBK : Keeps No w13 (w13.alloc (.cells #[.slice (some ⟨lb2, 0, none⟩) fs2.length cap2, .map mp2] 74)) := (Keeps.refl No w13).alloc _
  have hH13 : HdrAt w13 w12.heap.size (.agg #[.slice (some ⟨lb2, 0, none⟩) fs2.length cap2, .map mp2]) fs2 := ⟨lb2, cap2, mp2, rfl, p1, p2, p3, p4, p5⟩
  have hfin := HIH.out q (bufSrc b g (countSrc w11.heap.size X T)) N (w13.alloc (.cells #[.slice (some ⟨lb2, 0, none⟩) fs2.length cap2, .map mp2] 74)) _ fs2 w12.heap.size HQ.out HQL.out HSM.out (bufSrc_ok HON.out (by omega) (by omega)) (HF13.out.keep_no hBK)
    ⟨p7.keep_no hBK, by have := content_le m q; have := any_lns HOKM.out HQ.out HQL.out; have := HQL.out; omega⟩ (hH13.up hBK (fun x h => h.elim)) p6
  have HFIN := Lib.hid hfin
  have HK13 := Lib.hid K13
  have HBK := Lib.hid hBK
  clear hfin K13 hBK hH13 p2 p3 p4 p5 p6 p7
  go_wp2_with (fail)
  refine HFIN.out.mono ?_
  rintro e w15 ⟨kb, s', rfl, hkb, hs', K15⟩
  have K14 : Keeps (InX b g (countSrc w11.heap.size X T)) wC w15 := (((HK12.out.of_no).trans' HK13.out).trans_no HBK.out).trans' K15
  have hkI : ¬ InX b g (countSrc w11.heap.size X T) (w.heap.size + 1) := fun h => by
    rcases h with h | h | h | h
    · omega
    · omega
    · omega
    · have := HXX.out _ h; omega
  have B15 := HBC.out.keep K14 hkI
  have c8 : w15.cell? ⟨w.heap.size + 1, 8, none⟩ = some (.pointer none) := B15.cell 8
  have fz := B15.frozen
  obtain ⟨r2, q2, s2, err2, lb3, lr3, data3, hR2, _⟩ := hs'.1
  have hkk : ∀ v : Value, Keeps (In [w.heap.size + 1]) w15 (w15.setCell ⟨w.heap.size + 1, 8, none⟩ v) := fun v => (Keeps.refl _ w15).setCell (.inl (by simp [In])) _
  have hCS16 : (countSrc w11.heap.size X T).S (w15.setCell ⟨w.heap.size + 1, 8, none⟩ (.pointer (some ⟨kb, 0, none⟩))) s2 := (countSrc w11.heap.size X T).set hR2.S (fun h => hkI (.inr (.inr h))) _
  have hF16 := (HF13.out.keep_no HBK.out).keep K15 KCX
  have hF17 := hF16.keep (hkk (.pointer (some ⟨kb, 0, none⟩))) (fun x hx => by simp [In] at hx; have := HFE.out.hN; omega)
  have B16 := (B15.set 8 (.pointer (some ⟨kb, 0, none⟩))).to (show _ = bsc ty sub (.map (some mb)) vi vd ve 0 (.slice none 0 0) (.pointer (some ⟨kb, 0, none⟩)) 0 from rfl)
  have KK16 := hkk (.pointer (some ⟨kb, 0, none⟩))
  have HB16 := Lib.hid B16
  have HS16 := Lib.hid hCS16
  have HF16 := Lib.hid hF17
  have HKB := Lib.hid hkb
  have HK14 := Lib.hid K14
  have HK16 := Lib.hid KK16
  have h1316 : wC.heap.size ≤ (w13.alloc (.cells #[.slice (some ⟨lb2, 0, none⟩) fs2.length cap2, .map mp2] 74)).heap.size := by
    have := HK12.out.size
    have := HK13.out.size
    have := HBK.out.size
    omega
  have H1316 := Lib.hid h1316
  clear hkb hs' B15 hR2 hkk hCS16 hF16 hF17 B16 K14 KK16 K15 h1316
  go_wp2_with (fail)
  generalize (w15.setCell ⟨w.heap.size + 1, 8, none⟩ (.pointer (some ⟨kb, 0, none⟩))) = w16 at *
  refine (discard_any (countSrc w11.heap.size X T) HON.out w16 s2 HS16.out HF16.out.laid HF16.out.hN).mono ?_
  rintro e w17 ⟨rfl, ⟨pre, nl, hpre, hCB, hnl, hXS, _, _, _, hU⟩, K17⟩
  rw [List.append_nil] at hpre
  subst hpre
  have B17 := HB16.out.keep K17 (fun h => by
    rcases h with h | h
    · omega
    · have := HXX.out _ h; omega)
  have k1 : w17.cell? ⟨w11.heap.size, 1, none⟩ = some (.int .u32 T.length) := hCB.cell 1
  have k2 : w17.cell? ⟨w11.heap.size, 2, none⟩ = some (.int .u32 nl) := hCB.cell 2
  have c6 : w17.cell? ⟨w.heap.size + 1, 6, none⟩ = some (.int .u32 0) := B17.cell 6
  have c9 : w17.cell? ⟨w.heap.size + 1, 9, none⟩ = some (.int .u32 0) := B17.cell 9
  have fz7 := B17.frozen
  have hne : w11.heap.size ≠ w.heap.size + 1 := by omega
  have HB17 := Lib.hid B17
  have HNL := Lib.hid hnl
  have HXS := Lib.hid hXS
  clear hCB B17 hnl hXS hU c8 fz
  go_wp2
  go_ret2
  have hnl : nl = (nlf T : Nat) := HNL.out HTN.out
  have hpl := HPAR.out
  have hM := HMC.out
  rw [hpl] at hM
  have hfin := msg_done (ty := ty) (sub := sub) (vi := vi) (vd := vd) (ve := ve) (n := T.length) (lines := nlf T) HXX.out hkC hszC hb hg (((HB17.out.set 6 (.int .u32 T.length)).set 9 (.int .u32 nl)).to (by rw [hnl]; rfl)) hM HKC.out HKB.out H1316.out HK14.out HK16.out w17 K17 (((Keeps.refl (In [w.heap.size + 1]) w17).setCell (p := ⟨w.heap.size + 1, 6, none⟩) (.inl (by simp [In])) _).setCell (p := ⟨w.heap.size + 1, 9, none⟩) (.inl (by simp [In])) _) HXS.out
  exact hfin
end Go.Proofs.YtjbbapodcngnaaaGreatDoor.G
namespace Go.Proofs.YtjbbapodcngnaaaGreatDoor.G
open Go.RowKit Hdr

set_option maxRecDepth 100000 in
set_option maxHeartbeats 4000000 in
theorem fetch_text (X : Src) (lb cap : Nat) (mp : Option Nat) (lo : Nat) (fs : List Fd) (w : World) (ty sub vt vi vd ve : List UInt8) (pl : List (List UInt8 × List UInt8)) (hn : fs.length ≤ 1000000)
    (hH : HP (w.alloc (.cells #[.slice (some ⟨lb, 0, none⟩) fs.length cap, .map mp] 74)) lo w.heap.size lb cap mp fs)
    (h1 : topv (sel fs ctK) = vt) (h2 : topv (sel fs ciK) = vi) (h3 : topv (sel fs cdK) = vd) (h4 : topv (sel fs ceK) = ve)
    (hP : ∀ W, Keeps No w W → Calls Tryz.prog 87 #[str vt] W (PmPost (ty ++ 47 :: sub) pl W)) (htl : ty.length + sub.length ≤ 1000) (h47 : (47 : UInt8) ∉ ty)
    (hMR : ∀ W, Keeps No w W → Calls Tryz.prog 90 #[.agg #[.slice (some ⟨lb, 0, none⟩) fs.length cap, .map mp], .iface X.t X.v] W fun e w' => e = .returned (.pointer none) ∧ Keeps No W w')
    (T : List UInt8) (hs : X.S w T) (hT : T ≠ [] → T.getLast? = some 10) (hTl : T.length ≤ 1000000) {N : Nat} (O : X.Ok N) (FE : FEnv N X.ea w) (hX : ∀ x, X.own x → x < w.heap.size) (hm : ty ≠ messS) (hsure : ty = textS → T ≠ []) (hpar : pl = []) :
    Calls Tryz.prog 65 #[.agg #[.slice (some ⟨lb, 0, none⟩) fs.length cap, .map mp], .iface X.t X.v, .bool false] w (FetchPost X (.mk ty sub [] vi vd ve T.length (linesT ty T) []) w) := by
  have HMR := Lib.hid hMR
  have HS0 := Lib.hid hs
  have HTT := Lib.hid hT
  have HTL2 := Lib.hid hTl
  have HO := Lib.hid O
  have HFE := Lib.hid FE
  have HXX := Lib.hid hX
  have HME := Lib.hid hm
  have HSU := Lib.hid hsure
  have HPAR := Lib.hid hpar
  clear hMR hs hT hTl O FE hX hm hsure hpar
  have G := Lib.hid (fun K Kl W h => get_any lo w.heap.size lb cap mp fs K W h Kl hn)
  have HPM := Lib.hid hP
  have H1 := Lib.hid h1
  have H2 := Lib.hid h2
  have H3 := Lib.hid h3
  have H4 := Lib.hid h4
  have HH := Lib.hid hH
  have CUT := Lib.hid (fun W => zzCutB_some ty sub 47 W h47 (by omega))
  clear hP h1 h2 h3 h4 hH htl h47
  have hszA : (w.alloc (.cells #[.slice (some ⟨lb, 0, none⟩) fs.length cap, .map mp] 74)).heap.size = w.heap.size + 1 := by simp
  have KA : Keeps No w (w.alloc (.cells #[.slice (some ⟨lb, 0, none⟩) fs.length cap, .map mp] 74)) := (Keeps.refl No w).alloc _
  go_enter Tryz.func65, Tryz.ntmps65
  go_wp2_with (fail)
  generalize w.alloc (.cells #[.slice (some ⟨lb, 0, none⟩) fs.length cap, .map mp] 74) = wA at *
  have B0 : Blk (wA.alloc (.cells (bsc [] [] (.map none) [] [] [] 0 (.slice none 0 0) (.pointer none) 0).toArray 138)) (w.heap.size + 1) (bsc [] [] (.map none) [] [] [] 0 (.slice none 0 0) (.pointer none) 0) 138 := by
    have := Blk.new wA (bsc [] [] (.map none) [] [] [] 0 (.slice none 0 0) (.pointer none) 0) 138
    rwa [hszA] at this
  have K0 : Keeps No wA (wA.alloc (.cells (bsc [] [] (.map none) [] [] [] 0 (.slice none 0 0) (.pointer none) 0).toArray 138)) := (Keeps.refl No wA).alloc _
  have HSZ := Lib.hid (show wA.heap.size ≤ w.heap.size + 1 by omega)
  clear hszA
  refine (G.out ctK (by decide) _ (HH.out.keep_no K0)).mono ?_
  rintro e w1 ⟨rfl, K1⟩
  have B1 := B0.keep_no K1
  have K1 := K0.trans_no K1
  clear B0 K0
  rw [show canon ctK = ctK by decide, H1.out]
  go_wp2_with (fail)
  refine (HPM.out w1 (KA.trans_no K1)).mono ?_
  rintro e w2 ⟨mb, rfl, hmb, M2, K2⟩
  have B2 := B1.keep_no K2
  have hmb2 : w.heap.size + 1 < mb := by have := B1.lt; omega
  have K2 := K1.trans_no K2
  clear B1 K1 hmb
  go_wp2_with (fail)
  refine (CUT.out w2).mono ?_
  rintro e w3 ⟨rfl, K3⟩
  have B3 := Lib.hid (B2.keep_no K3)
  have M3 := Lib.hid (M2.keep K3 (fun h => h))
  have K3 := K2.trans_no K3
  clear B2 K2 M2
  have fz3 := B3.out.frozen
  have c0 : w3.cell? ⟨w.heap.size + 1, 0, none⟩ = some (str []) := B3.out.cell 0
  have c1 : w3.cell? ⟨w.heap.size + 1, 1, none⟩ = some (str []) := B3.out.cell 1
  have c2 : w3.cell? ⟨w.heap.size + 1, 2, none⟩ = some (.map none) := B3.out.cell 2
  go_wp2_with (fail)
  have B4 := (((B3.out.set 0 (str ty)).set 1 (str sub)).set 2 (.map (some mb))).to (show _ = bsc ty sub (.map (some mb)) [] [] [] 0 (.slice none 0 0) (.pointer none) 0 from rfl)
  have K4 := keeps_new (keeps_new (keeps_new K3 HSZ.out 0 (str ty)) HSZ.out 1 (str sub)) HSZ.out 2 (.map (some mb))
  have M4' := M3.out.keep (((Keeps.refl (In [w.heap.size + 1]) w3).setCell (p := ⟨w.heap.size + 1, 0, none⟩) (.inl (by simp [In])) (str ty)).setCell (p := ⟨w.heap.size + 1, 1, none⟩) (.inl (by simp [In])) (str sub) |>.setCell (p := ⟨w.heap.size + 1, 2, none⟩) (.inl (by simp [In])) (.map (some mb))) (fun h => by simp [In] at h; omega)
  have M4 : MapP _ (fun x => w.heap.size + 1 < x) (.map (some mb)) pl := .inr ⟨mb, rfl, hmb2, M4'⟩
  unfold str at B4 K4 M4
  generalize (((w3.setCell _ _).setCell _ _).setCell _ _) = w4 at *
  clear c0 c1 c2 fz3 B3 K3 M3 M4' hmb2
  refine (G.out ciK (by decide) w4 (HH.out.keep_no K4)).mono ?_
  rintro e w5 ⟨rfl, K5⟩
  rw [show canon ciK = ciK by decide, H2.out]
  have HB5 := Lib.hid (B4.keep_no K5)
  have HM5 := Lib.hid (M4.keep K5 (fun _ _ h => h))
  have K5 := K4.trans_no K5
  have fz5 := HB5.out.frozen
  have c3 : w5.cell? ⟨w.heap.size + 1, 3, none⟩ = some (str []) := HB5.out.cell 3
  clear B4 K4 M4
  go_wp2_with (fail)
  have B6 := (HB5.out.set 3 (str vi)).to (show _ = bsc ty sub (.map (some mb)) vi [] [] 0 (.slice none 0 0) (.pointer none) 0 from rfl)
  have M6 := HM5.out.keep ((Keeps.refl (In [w.heap.size + 1]) w5).setCell (p := ⟨w.heap.size + 1, 3, none⟩) (.inl (by simp [In])) (str vi)) (fun x hx h => by simp [In] at h; omega)
  have K6 := keeps_new K5 HSZ.out 3 (str vi)
  unfold str at B6 K6 M6
  generalize (w5.setCell _ _) = w6 at *
  clear c3 fz5 HB5 HM5 K5
  refine (G.out cdK (by decide) w6 (HH.out.keep_no K6)).mono ?_
  rintro e w7 ⟨rfl, K7⟩
  rw [show canon cdK = cdK by decide, H3.out]
  have HB7 := Lib.hid (B6.keep_no K7)
  have HM7 := Lib.hid (M6.keep K7 (fun _ _ h => h))
  have K7 := K6.trans_no K7
  have fz7 := HB7.out.frozen
  have c4 : w7.cell? ⟨w.heap.size + 1, 4, none⟩ = some (str []) := HB7.out.cell 4
  clear B6 K6 M6
  go_wp2_with (fail)
  have B8 := (HB7.out.set 4 (str vd)).to (show _ = bsc ty sub (.map (some mb)) vi vd [] 0 (.slice none 0 0) (.pointer none) 0 from rfl)
  have M8 := HM7.out.keep ((Keeps.refl (In [w.heap.size + 1]) w7).setCell (p := ⟨w.heap.size + 1, 4, none⟩) (.inl (by simp [In])) (str vd)) (fun x hx h => by simp [In] at h; omega)
  have K8 := keeps_new K7 HSZ.out 4 (str vd)
  unfold str at B8 K8 M8
  generalize (w7.setCell _ _) = w8 at *
  clear c4 fz7 HB7 HM7 K7
  refine (G.out ceK (by decide) w8 (HH.out.keep_no K8)).mono ?_
  rintro e w9 ⟨rfl, K9⟩
  rw [show canon ceK = ceK by decide, H4.out]
  have HB9 := Lib.hid (B8.keep_no K9)
  have HM9 := Lib.hid (M8.keep K9 (fun _ _ h => h))
  have K9 := K8.trans_no K9
  have fz9 := HB9.out.frozen
  have c5 : w9.cell? ⟨w.heap.size + 1, 5, none⟩ = some (str []) := HB9.out.cell 5
  clear B8 K8 M8
  have d0 : w9.cell? ⟨w.heap.size, 0, none⟩ = some (.slice (some ⟨lb, 0, none⟩) fs.length cap) := (HH.out.keep_no K9).B.cell 0
  have d1 : w9.cell? ⟨w.heap.size, 1, none⟩ = some (.map mp) := (HH.out.keep_no K9).B.cell 1
  go_wp2_with (fail)
  have B10 := (HB9.out.set 5 (str ve)).to (show _ = bsc ty sub (.map (some mb)) vi vd ve 0 (.slice none 0 0) (.pointer none) 0 from rfl)
  have M10 := HM9.out.keep ((Keeps.refl (In [w.heap.size + 1]) w9).setCell (p := ⟨w.heap.size + 1, 5, none⟩) (.inl (by simp [In])) (str ve)) (fun x hx h => by simp [In] at h; omega)
  have K10 := keeps_new K9 HSZ.out 5 (str ve)
  unfold str at B10 K10 M10
  generalize (w9.setCell _ _) = w10 at *
  clear d0 d1 c5 fz9 HB9 HM9 K9
  refine (HMR.out w10 (KA.trans_no K10)).mono ?_
  rintro e w11 ⟨rfl, K11⟩
  have KK := Lib.hid ((KA.trans_no K10).trans_no K11)
  have HB11 := Lib.hid (B10.keep_no K11)
  have HM11 := Lib.hid ((M10.keep K11 (fun _ _ h => h)).mono (B := fun x => w.heap.size + 1 < x ∧ x < w11.heap.size) (fun x hx h => ⟨h, hx⟩))
  have c110 : w11.cell? ⟨w.heap.size + 1, 0, none⟩ = some (str ty) := HB11.out.cell 0
  clear B10 M10 K10 K11 G HPM H1 H2 H3 H4 HH HMR KA HSZ
  go_upto_region 28 with (fail)
  have hCb := Blk.new w11 [.iface X.t X.v, .int .u32 0, .int .u32 0, .bool false] 178
  have KC : Keeps No w11 (w11.alloc (.cells #[.iface X.t X.v, .int .u32 0, .int .u32 0, .bool false] 178)) := (Keeps.refl No w11).alloc _
  have hkC : w.heap.size + 1 < w11.heap.size := HB11.out.lt
  have HKC := Lib.hid (KK.out.trans_no KC)
  have hCS : CountS w11.heap.size X T (w11.alloc (.cells #[.iface X.t X.v, .int .u32 0, .int .u32 0, .bool false] 178)) T :=
    ⟨[], 0, rfl, hCb, fun _ => rfl, X.keep_no HS0.out HKC.out, fun h => by have := HXX.out _ h; omega, fun h => by unfold lfEnd; rw [HTT.out h]; rfl, by have := HTL2.out; omega, by unfold U32; omega⟩
  have HCS := Lib.hid hCS
  have HBC := Lib.hid (HB11.out.keep_no KC)
  have HMC := Lib.hid (HM11.out.keep KC (fun _ _ h => h))
  have HFC := Lib.hid (HFE.out.keep_no HKC.out)
  generalize (w11.alloc (.cells #[.iface X.t X.v, .int .u32 0, .int .u32 0, .bool false] 178)) = wC at *
  have c0 : wC.cell? ⟨w.heap.size + 1, 0, none⟩ = some (str ty) := HBC.out.cell 0
  have hte : (ty == [109, 101, 115, 115, 97, 103, 101]) = false := beq_eq_false_iff_ne.2 HME.out
  have hte2 : ¬ (ty = [109, 101, 115, 115, 97, 103, 101]) := HME.out
  clear hCb KC hCS HB11 HM11 c110
  have hON := countSrc_ok (k := w11.heap.size) (T := T) HO.out (by have := HFE.out.hN; omega)
  have HDI := Lib.hid (discard_any (countSrc w11.heap.size X T) hON wC T HCS.out HFC.out.laid HFC.out.hN)
  clear hON
  rcases Decidable.em (ty = textS) with hx | hx
  · have htt : (ty == [116, 101, 120, 116]) = true := beq_iff_eq.2 hx
    have HX := Lib.hid hx
    clear hx
    go_wp2_with (fail)
    refine HDI.out.mono ?_
    rintro e w12 ⟨rfl, ⟨pre, nl, hpre, hCB, hnl, hXS, _, _, _, hU⟩, K12⟩
    rw [List.append_nil] at hpre
    subst hpre
    have B12 := HBC.out.keep K12 (fun h => by
      rcases h with h | h
      · omega
      · have := HXX.out _ h; omega)
    have k1 : w12.cell? ⟨w11.heap.size, 1, none⟩ = some (.int .u32 T.length) := hCB.cell 1
    have k2 : w12.cell? ⟨w11.heap.size, 2, none⟩ = some (.int .u32 nl) := hCB.cell 2
    have c6 : w12.cell? ⟨w.heap.size + 1, 6, none⟩ = some (.int .u32 0) := B12.cell 6
    have c9 : w12.cell? ⟨w.heap.size + 1, 9, none⟩ = some (.int .u32 0) := B12.cell 9
    have fz := B12.frozen
    have hne : w11.heap.size ≠ w.heap.size + 1 := by omega
    have HB12 := Lib.hid B12
    have HNL := Lib.hid hnl
    have HXS := Lib.hid hXS
    clear hCB B12 hnl hXS hU
    go_wp2
    go_ret2
    have hT0 := HSU.out HX.out
    have hnl : nl = (nlf T : Nat) := HNL.out hT0
    have hpl := HPAR.out
    have hM := HMC.out
    rw [hpl] at hM
    have hfin := leaf_done (ty := ty) (sub := sub) (vi := vi) (vd := vd) (ve := ve) (n := T.length) (lines := linesT (ty) T) HXX.out hkC (((HB12.out.set 6 (.int .u32 T.length)).set 9 (.int .u32 nl)).to (by unfold linesT; rw [if_pos HX.out, hnl]; rfl)) hM HKC.out K12 (((Keeps.refl (In [w.heap.size + 1]) w12).setCell (p := ⟨w.heap.size + 1, 6, none⟩) (.inl (by simp [In])) _).setCell (p := ⟨w.heap.size + 1, 9, none⟩) (.inl (by simp [In])) _) HXS.out
    exact hfin
  · have htt : (ty == [116, 101, 120, 116]) = false := beq_eq_false_iff_ne.2 hx
    have HX := Lib.hid hx
    clear hx
    go_wp2_with (fail)
    refine HDI.out.mono ?_
    rintro e w12 ⟨rfl, ⟨pre, nl, hpre, hCB, hnl, hXS, _, _, _, hU⟩, K12⟩
    rw [List.append_nil] at hpre
    subst hpre
    have B12 := HBC.out.keep K12 (fun h => by
      rcases h with h | h
      · omega
      · have := HXX.out _ h; omega)
    have k1 : w12.cell? ⟨w11.heap.size, 1, none⟩ = some (.int .u32 T.length) := hCB.cell 1
    have k2 : w12.cell? ⟨w11.heap.size, 2, none⟩ = some (.int .u32 nl) := hCB.cell 2
    have c6 : w12.cell? ⟨w.heap.size + 1, 6, none⟩ = some (.int .u32 0) := B12.cell 6
    have c9 : w12.cell? ⟨w.heap.size + 1, 9, none⟩ = some (.int .u32 0) := B12.cell 9
    have fz := B12.frozen
    have hne : w11.heap.size ≠ w.heap.size + 1 := by omega
    have HB12 := Lib.hid B12
    have HNL := Lib.hid hnl
    have HXS := Lib.hid hXS
    clear hCB B12 hnl hXS hU
    go_wp2
    go_ret2
    have hpl := HPAR.out
    have hM := HMC.out
    rw [hpl] at hM
    have hfin := leaf_done (ty := ty) (sub := sub) (vi := vi) (vd := vd) (ve := ve) (n := T.length) (lines := linesT (ty) T) HXX.out hkC ((HB12.out.set 6 (.int .u32 T.length)).to (by unfold linesT; rw [if_neg HX.out]; rfl)) hM HKC.out K12 ((Keeps.refl (In [w.heap.size + 1]) w12).setCell (p := ⟨w.heap.size + 1, 6, none⟩) (.inl (by simp [In])) _) HXS.out
    exact hfin
end Go.Proofs.YtjbbapodcngnaaaGreatDoor.G
namespace Go.Proofs.YtjbbapodcngnaaaGreatDoor.G
open Go.RowKit Hdr

set_option maxRecDepth 100000 in
set_option maxHeartbeats 4000000 in
theorem fetch_none (X : Src) (lb cap : Nat) (mp : Option Nat) (lo : Nat) (fs : List Fd) (w : World) (vt vi vd ve : List UInt8) (hn : fs.length ≤ 1000000)
    (hH : HP (w.alloc (.cells #[.slice (some ⟨lb, 0, none⟩) fs.length cap, .map mp] 74)) lo w.heap.size lb cap mp fs)
    (h1 : topv (sel fs ctK) = vt) (h2 : topv (sel fs ciK) = vi) (h3 : topv (sel fs cdK) = vd) (h4 : topv (sel fs ceK) = ve)
    (hP : ∀ W, Keeps No w W → Calls Tryz.prog 87 #[str vt] W fun e w' => (∃ ea, e = .returned (.tuple #[str [], .map none, .iface 203 (.pointer (some ea))])) ∧ Keeps No W w')
    (hMR : ∀ W, Keeps No w W → Calls Tryz.prog 90 #[.agg #[.slice (some ⟨lb, 0, none⟩) fs.length cap, .map mp], .iface X.t X.v] W fun e w' => e = .returned (.pointer none) ∧ Keeps No W w')
    (T : List UInt8) (hs : X.S w T) (hT : T ≠ [] → T.getLast? = some 10) (hTl : T.length ≤ 1000000) {N : Nat} (O : X.Ok N) (FE : FEnv N X.ea w) (hX : ∀ x, X.own x → x < w.heap.size) (hsure : T ≠ []) :
    Calls Tryz.prog 65 #[.agg #[.slice (some ⟨lb, 0, none⟩) fs.length cap, .map mp], .iface X.t X.v, .bool false] w (FetchPost X (.mk textS plainS [] vi vd ve T.length (nlf T) []) w) := by
  have HMR := Lib.hid hMR
  have HS0 := Lib.hid hs
  have HTT := Lib.hid hT
  have HTL2 := Lib.hid hTl
  have HO := Lib.hid O
  have HFE := Lib.hid FE
  have HXX := Lib.hid hX
  have HSU := Lib.hid hsure
  clear hMR hs hT hTl O FE hX hsure
  have G := Lib.hid (fun K Kl W h => get_any lo w.heap.size lb cap mp fs K W h Kl hn)
  have HPM := Lib.hid hP
  have H1 := Lib.hid h1
  have H2 := Lib.hid h2
  have H3 := Lib.hid h3
  have H4 := Lib.hid h4
  have HH := Lib.hid hH
  clear hP h1 h2 h3 h4 hH 
  have hszA : (w.alloc (.cells #[.slice (some ⟨lb, 0, none⟩) fs.length cap, .map mp] 74)).heap.size = w.heap.size + 1 := by simp
  have KA : Keeps No w (w.alloc (.cells #[.slice (some ⟨lb, 0, none⟩) fs.length cap, .map mp] 74)) := (Keeps.refl No w).alloc _
  go_enter Tryz.func65, Tryz.ntmps65
  go_wp2_with (fail)
  generalize w.alloc (.cells #[.slice (some ⟨lb, 0, none⟩) fs.length cap, .map mp] 74) = wA at *
  have B0 : Blk (wA.alloc (.cells (bsc [] [] (.map none) [] [] [] 0 (.slice none 0 0) (.pointer none) 0).toArray 138)) (w.heap.size + 1) (bsc [] [] (.map none) [] [] [] 0 (.slice none 0 0) (.pointer none) 0) 138 := by
    have := Blk.new wA (bsc [] [] (.map none) [] [] [] 0 (.slice none 0 0) (.pointer none) 0) 138
    rwa [hszA] at this
  have K0 : Keeps No wA (wA.alloc (.cells (bsc [] [] (.map none) [] [] [] 0 (.slice none 0 0) (.pointer none) 0).toArray 138)) := (Keeps.refl No wA).alloc _
  have HSZ := Lib.hid (show wA.heap.size ≤ w.heap.size + 1 by omega)
  clear hszA
  refine (G.out ctK (by decide) _ (HH.out.keep_no K0)).mono ?_
  rintro e w1 ⟨rfl, K1⟩
  have B1 := B0.keep_no K1
  have K1 := K0.trans_no K1
  clear B0 K0
  rw [show canon ctK = ctK by decide, H1.out]
  go_wp2_with (fail)
  refine (HPM.out w1 (KA.trans_no K1)).mono ?_
  rintro e w2 ⟨⟨ea, rfl⟩, K2⟩
  have B2 := Lib.hid (B1.keep_no K2)
  have K2 := K1.trans_no K2
  clear B1 K1
  have fz2 := B2.out.frozen
  have c0 : w2.cell? ⟨w.heap.size + 1, 0, none⟩ = some (str []) := B2.out.cell 0
  have c1 : w2.cell? ⟨w.heap.size + 1, 1, none⟩ = some (str []) := B2.out.cell 1
  go_wp2_with (fail)
  have B4 := ((B2.out.set 0 (str textS)).set 1 (str plainS)).to (show _ = bsc textS plainS (.map none) [] [] [] 0 (.slice none 0 0) (.pointer none) 0 from rfl)
  have K4 := keeps_new (keeps_new K2 HSZ.out 0 (str textS)) HSZ.out 1 (str plainS)
  rw [show str textS = .string ⟨#[116, 101, 120, 116]⟩ from rfl, show str plainS = .string ⟨#[112, 108, 97, 105, 110]⟩ from rfl] at B4 K4
  generalize ((w2.setCell _ _).setCell _ _) = w4 at *
  have M4 : MapP w4 (fun x => w.heap.size + 1 < x) (.map none) [] := .inl ⟨rfl, rfl⟩
  clear c0 c1 fz2 B2 K2
  refine (G.out ciK (by decide) w4 (HH.out.keep_no K4)).mono ?_
  rintro e w5 ⟨rfl, K5⟩
  rw [show canon ciK = ciK by decide, H2.out]
  have HB5 := Lib.hid (B4.keep_no K5)
  have HM5 := Lib.hid (M4.keep K5 (fun _ _ h => h))
  have K5 := K4.trans_no K5
  have fz5 := HB5.out.frozen
  have c3 : w5.cell? ⟨w.heap.size + 1, 3, none⟩ = some (str []) := HB5.out.cell 3
  clear B4 K4 M4
  go_wp2_with (fail)
  have B6 := (HB5.out.set 3 (str vi)).to (show _ = bsc textS plainS (.map none) vi [] [] 0 (.slice none 0 0) (.pointer none) 0 from rfl)
  have M6 := HM5.out.keep ((Keeps.refl (In [w.heap.size + 1]) w5).setCell (p := ⟨w.heap.size + 1, 3, none⟩) (.inl (by simp [In])) (str vi)) (fun x hx h => by simp [In] at h; omega)
  have K6 := keeps_new K5 HSZ.out 3 (str vi)
  unfold str at B6 K6 M6
  generalize (w5.setCell _ _) = w6 at *
  clear c3 fz5 HB5 HM5 K5
  refine (G.out cdK (by decide) w6 (HH.out.keep_no K6)).mono ?_
  rintro e w7 ⟨rfl, K7⟩
  rw [show canon cdK = cdK by decide, H3.out]
  have HB7 := Lib.hid (B6.keep_no K7)
  have HM7 := Lib.hid (M6.keep K7 (fun _ _ h => h))
  have K7 := K6.trans_no K7
  have fz7 := HB7.out.frozen
  have c4 : w7.cell? ⟨w.heap.size + 1, 4, none⟩ = some (str []) := HB7.out.cell 4
  clear B6 K6 M6
  go_wp2_with (fail)
  have B8 := (HB7.out.set 4 (str vd)).to (show _ = bsc textS plainS (.map none) vi vd [] 0 (.slice none 0 0) (.pointer none) 0 from rfl)
  have M8 := HM7.out.keep ((Keeps.refl (In [w.heap.size + 1]) w7).setCell (p := ⟨w.heap.size + 1, 4, none⟩) (.inl (by simp [In])) (str vd)) (fun x hx h => by simp [In] at h; omega)
  have K8 := keeps_new K7 HSZ.out 4 (str vd)
  unfold str at B8 K8 M8
  generalize (w7.setCell _ _) = w8 at *
  clear c4 fz7 HB7 HM7 K7
  refine (G.out ceK (by decide) w8 (HH.out.keep_no K8)).mono ?_
  rintro e w9 ⟨rfl, K9⟩
  rw [show canon ceK = ceK by decide, H4.out]
  have HB9 := Lib.hid (B8.keep_no K9)
  have HM9 := Lib.hid (M8.keep K9 (fun _ _ h => h))
  have K9 := K8.trans_no K9
  have fz9 := HB9.out.frozen
  have c5 : w9.cell? ⟨w.heap.size + 1, 5, none⟩ = some (str []) := HB9.out.cell 5
  clear B8 K8 M8
  have d0 : w9.cell? ⟨w.heap.size, 0, none⟩ = some (.slice (some ⟨lb, 0, none⟩) fs.length cap) := (HH.out.keep_no K9).B.cell 0
  have d1 : w9.cell? ⟨w.heap.size, 1, none⟩ = some (.map mp) := (HH.out.keep_no K9).B.cell 1
  go_wp2_with (fail)
  have B10 := (HB9.out.set 5 (str ve)).to (show _ = bsc textS plainS (.map none) vi vd ve 0 (.slice none 0 0) (.pointer none) 0 from rfl)
  have M10 := HM9.out.keep ((Keeps.refl (In [w.heap.size + 1]) w9).setCell (p := ⟨w.heap.size + 1, 5, none⟩) (.inl (by simp [In])) (str ve)) (fun x hx h => by simp [In] at h; omega)
  have K10 := keeps_new K9 HSZ.out 5 (str ve)
  unfold str at B10 K10 M10
  generalize (w9.setCell _ _) = w10 at *
  clear d0 d1 c5 fz9 HB9 HM9 K9
  refine (HMR.out w10 (KA.trans_no K10)).mono ?_
  rintro e w11 ⟨rfl, K11⟩
  have KK := Lib.hid ((KA.trans_no K10).trans_no K11)
  have HB11 := Lib.hid (B10.keep_no K11)
  have HM11 := Lib.hid ((M10.keep K11 (fun _ _ h => h)).mono (B := fun x => w.heap.size + 1 < x ∧ x < w11.heap.size) (fun x hx h => ⟨h, hx⟩))
  have c110 : w11.cell? ⟨w.heap.size + 1, 0, none⟩ = some (.string ⟨#[116, 101, 120, 116]⟩) := HB11.out.cell 0
  clear B10 M10 K10 K11 G HPM H1 H2 H3 H4 HH HMR KA HSZ
  go_upto_region 28 with (fail)
  have hCb := Blk.new w11 [.iface X.t X.v, .int .u32 0, .int .u32 0, .bool false] 178
  have KC : Keeps No w11 (w11.alloc (.cells #[.iface X.t X.v, .int .u32 0, .int .u32 0, .bool false] 178)) := (Keeps.refl No w11).alloc _
  have hkC : w.heap.size + 1 < w11.heap.size := HB11.out.lt
  have HKC := Lib.hid (KK.out.trans_no KC)
  have hCS : CountS w11.heap.size X T (w11.alloc (.cells #[.iface X.t X.v, .int .u32 0, .int .u32 0, .bool false] 178)) T :=
    ⟨[], 0, rfl, hCb, fun _ => rfl, X.keep_no HS0.out HKC.out, fun h => by have := HXX.out _ h; omega, fun h => by unfold lfEnd; rw [HTT.out h]; rfl, by have := HTL2.out; omega, by unfold U32; omega⟩
  have HCS := Lib.hid hCS
  have HBC := Lib.hid (HB11.out.keep_no KC)
  have HMC := Lib.hid (HM11.out.keep KC (fun _ _ h => h))
  have HFC := Lib.hid (HFE.out.keep_no HKC.out)
  generalize (w11.alloc (.cells #[.iface X.t X.v, .int .u32 0, .int .u32 0, .bool false] 178)) = wC at *
  have c0 : wC.cell? ⟨w.heap.size + 1, 0, none⟩ = some (.string ⟨#[116, 101, 120, 116]⟩) := HBC.out.cell 0
  clear hCb KC hCS HB11 HM11 c110
  have hON := countSrc_ok (k := w11.heap.size) (T := T) HO.out (by have := HFE.out.hN; omega)
  have HDI := Lib.hid (discard_any (countSrc w11.heap.size X T) hON wC T HCS.out HFC.out.laid HFC.out.hN)
  clear hON
  go_wp2_with (fail)
  refine HDI.out.mono ?_
  rintro e w12 ⟨rfl, ⟨pre, nl, hpre, hCB, hnl, hXS, _, _, _, hU⟩, K12⟩
  rw [List.append_nil] at hpre
  subst hpre
  have B12 := HBC.out.keep K12 (fun h => by
    rcases h with h | h
    · omega
    · have := HXX.out _ h; omega)
  have k1 : w12.cell? ⟨w11.heap.size, 1, none⟩ = some (.int .u32 T.length) := hCB.cell 1
  have k2 : w12.cell? ⟨w11.heap.size, 2, none⟩ = some (.int .u32 nl) := hCB.cell 2
  have c6 : w12.cell? ⟨w.heap.size + 1, 6, none⟩ = some (.int .u32 0) := B12.cell 6
  have c9 : w12.cell? ⟨w.heap.size + 1, 9, none⟩ = some (.int .u32 0) := B12.cell 9
  have fz := B12.frozen
  have hne : w11.heap.size ≠ w.heap.size + 1 := by omega
  have HB12 := Lib.hid B12
  have HNL := Lib.hid hnl
  have HXS := Lib.hid hXS
  clear hCB B12 hnl hXS hU
  go_wp2
  go_ret2
  have hT0 := HSU.out
  have hnl : nl = (nlf T : Nat) := HNL.out hT0
  have hM := HMC.out
  have hfin := leaf_done (ty := textS) (sub := plainS) (vi := vi) (vd := vd) (ve := ve) (n := T.length) (lines := nlf T) HXX.out hkC (((HB12.out.set 6 (.int .u32 T.length)).set 9 (.int .u32 nl)).to (by rw [hnl]; rfl)) hM HKC.out K12 (((Keeps.refl (In [w.heap.size + 1]) w12).setCell (p := ⟨w.heap.size + 1, 6, none⟩) (.inl (by simp [In])) _).setCell (p := ⟨w.heap.size + 1, 9, none⟩) (.inl (by simp [In])) _) HXS.out
  exact hfin
end Go.Proofs.YtjbbapodcngnaaaGreatDoor.G
namespace Go.Proofs.YtjbbapodcngnaaaGreatDoor.G
open Go.RowKit Hdr

theorem fetch_all (n : Nat) : ∀ m : Ml, msize m ≤ n → MlOk m → FetchOk m := by
  induction n with
  | zero => intro m h; have := msize_pos m; omega
  | succ n ih =>
    intro m hm ok p X N w hv fs lo hp hpl hsure O FE hs hH hT
    obtain ⟨lb, cap, mp, hhv, HP0⟩ := HdrAt.hp hH
    have hsz := msize_eq m
    have hp40 : p.length ≤ 40 := by omega
    have nd := ok.node
    have tel := fun k => get_tells k fs (fieldsOf m p) hT
    obtain ⟨g1, g2, g3, g4⟩ := getH_fields ok p
    have hn : fs.length ≤ 1000000 := by
      have h1 := Tells.length hT
      have h2 := fields_len ok p
      rw [List.length_map] at h1
      omega
    have hX : ∀ x, X.own x → x < w.heap.size := fun x hx => X.lt hs hx
    have hlns := any_lns ok hp hpl
    have hcl := content_le m p
    have HPW : ∀ W, Keeps No w W → HP (W.alloc (.cells #[.slice (some ⟨lb, 0, none⟩) fs.length cap, .map mp] 74)) lo W.heap.size lb cap mp fs := fun W K => by
      obtain ⟨lb', cap', mp', h1, h2⟩ := HdrAt.hp (hH.up K (fun x h => h.elim))
      rw [hhv] at h1
      injection h1 with h1
      have h3 := congrArg Array.toList h1
      simp only [List.cons.injEq, Value.slice.injEq, Option.some.injEq, Addr.mk.injEq, Value.map.injEq, and_true, true_and] at h3
      obtain ⟨⟨rfl, rfl⟩, rfl⟩ := h3
      exact h2
    obtain ⟨low1, low2⟩ := typeV_low ok hp hp40
    subst hhv
    have MN : m.kind ≠ 1 → ∀ W, Keeps No w W → Calls Tryz.prog 90 #[.agg #[.slice (some ⟨lb, 0, none⟩) fs.length cap, .map mp], .iface X.t X.v] W fun e w' => e = .returned (.pointer none) ∧ Keeps No W w' :=
      fun hk W K => mr_none lb cap mp lo fs _ W (typeV m p) (HPW W K) hn (by rw [tel, g1]) low1 (by omega) (typeV_no ok p hk)
    rw [sureOf_eq, Bool.and_eq_true] at hsure
    obtain ⟨su1, su2⟩ := hsure
    have toks := tok7_all nd.typ
    have toks2 := tok7_all nd.sb
    rw [shapeOf_eq]
    rcases nd.knd.all with ⟨k0, k1, k2, k3, k4, k5⟩ | ⟨k0, k1, k2, k3, k4⟩ | ⟨k0, k1, k2, k3, k4⟩
    · have hc : content m p = m.text := by rw [content_eq, if_pos k0]
      have hk1 : ¬ m.kind = 1 := by omega
      have hk2 : ¬ m.kind = 2 := by omega
      have hend : content m p ≠ [] → (content m p).getLast? = some 10 := fun h => hlns.2.1.end h
      rw [k1, shapesOf_nil, if_neg hk1, if_neg hk1, if_neg hk1]
      by_cases ht : m.type = []
      · have htt : ttype m = textS := if_pos ht
        have hts : tsub m = plainS := if_pos ht
        have hne : content m p ≠ [] := by
          rw [htt] at su2
          simpa [hk1] using su2
        rw [htt, hts, if_pos (.inl rfl)]
        exact fetch_none X lb cap mp lo fs w (typeV m p) m.id m.about m.way hn HP0 (by rw [tel, g1]) (by rw [tel, g2]) (by rw [tel, g3]) (by rw [tel, g4]) (fun W K => by
          have : typeV m p = [] := if_pos ht
          rw [this]
          exact pm_none W) (MN hk1) (content m p) hs hend (by omega) O FE hX hne
      · have htt : ttype m = m.type := if_neg ht
        have hts : tsub m = m.sub := if_neg ht
        have hsb : m.sub ≠ [] := fun e => ht (k3.2 e)
        have hv : typeV m p = m.type ++ 47 :: m.sub := by unfold typeV; rw [if_neg ht, if_neg hk1]
        have hli : (if m.type = textS ∨ m.kind = 2 then nlf (content m p) else 0) = linesT m.type (content m p) := by
          unfold linesT
          simp only [hk2, or_false]
        rw [htt, hts, hli]
        refine fetch_text X lb cap mp lo fs w m.type m.sub (typeV m p) m.id m.about m.way [] hn HP0 (by rw [tel, g1]) (by rw [tel, g2]) (by rw [tel, g3]) (by rw [tel, g4]) (fun W K => by
          rw [hv]
          exact pm_plain m.type m.sub toks.1 toks2.1 ht hsb (by omega) W (FE.tab.keep_no K)) (by omega) (tok7_no47 nd.typ) (MN hk1) (content m p) hs hend (by omega) O FE hX k5 (fun e => ?_) rfl
        rw [htt] at su2
        simpa [hk1, e] using su2
    · have ht : m.type ≠ [] := by rw [k2]; decide
      have htt : ttype m = multiS := by unfold ttype; rw [if_neg ht, k2]
      have hts : tsub m = m.sub := if_neg ht
      have hc : content m p = partsText m.kids p 0 := by rw [content_eq, if_neg (by omega), if_neg (by omega)]
      have hv : typeV m p = mpS ++ m.sub ++ bdS ++ bnd p := by unfold typeV; rw [if_neg ht, if_pos k0]
      have hbne : bnd p ≠ [] := by simp [bnd]
      rw [htt, hts, if_pos k0, if_pos k0, if_pos k0]
      refine fetch_parts m.kids p X lb cap mp lo fs w multiS m.sub (typeV m p) m.id m.about m.way [(bndK, bnd p)] hn HP0 (by rw [tel, g1]) (by rw [tel, g2]) (by rw [tel, g3]) (by rw [tel, g4]) (fun W K => ?_) (by simp [multiS]; omega) (by decide) (fun W K => ?_) hp ok.kids k1 (by omega) su1 O FE hX (fun k hk => ih k (by have := msizes_mem hk; omega) (ok.kids.mem hk)) (by unfold parL; rw [if_neg hbne])
      · rw [hv]
        have := pm_multi m.sub 98 p toks2.1 k3 (by omega) (pl_t7 hp) (by omega) W (FE.tab.keep_no K)
        rwa [show mpS ++ m.sub = multiS ++ 47 :: m.sub by simp [mpS, multiS]] at this
      · rw [hv] at low1 low2
        have := mr_some X (partsText m.kids p 0) lb cap mp lo fs W m.sub 98 p (HPW W K) hn (by rw [tel, g1, hv]; rfl) low1 (by show (mpS ++ m.sub ++ bdS ++ bnd p).length ≤ 100000; omega) (FE.tab.keep_no K) toks2.1 k3 (by omega) (pl_t7 hp) (by omega) (by rw [← hc]; exact X.keep_no hs K)
        exact this
    · have ht : m.type ≠ [] := by rw [k2]; decide
      have hk1 : ¬ m.kind = 1 := by omega
      have htt : ttype m = messS := by unfold ttype; rw [if_neg ht, k2]
      have hts : tsub m = rfcS := by unfold tsub; rw [if_neg ht, k3]
      have hend : content m p ≠ [] → (content m p).getLast? = some 10 := fun h => hlns.2.1.end h
      have hv : typeV m p = messS ++ 47 :: rfcS := by unfold typeV; rw [if_neg ht, if_neg hk1, k2, k3]
      match hkk : m.kids, k1 with
      | [k], _ =>
        have hc : content m p = mtext k (under p 0) := by rw [content_eq, if_neg (by omega), if_pos k0, hkk, oneText_one]
        have okk : MlOk k := ok.kids.mem (by rw [hkk]; exact List.mem_singleton_self _)
        have hks : msizes m.kids = msize k := by rw [hkk, msizes, msizes]; omega
        rw [hkk, suresOf_cons, Bool.and_eq_true] at su1
        rw [shapesOf_cons, shapesOf_nil, htt, hts, if_neg hk1, if_neg hk1, if_neg hk1, if_pos (.inr k0)]
        exact fetch_msg X lb cap mp lo fs w messS rfcS (typeV m p) m.id m.about m.way [] hn HP0 (by rw [tel, g1]) (by rw [tel, g2]) (by rw [tel, g3]) (by rw [tel, g4]) (fun W K => by
          rw [hv]
          exact pm_plain messS rfcS (by decide) (by decide) (by decide) (by decide) (by decide) W (FE.tab.keep_no K)) (by decide) (by decide) (MN hk1) (content m p) hs hend (by omega) O FE hX rfl rfl rfl k okk (under p 0) (under_ok hp 0) (by rw [under_len]; omega) hc su1.1 (ih k (by omega) okk)
end Go.Proofs.YtjbbapodcngnaaaGreatDoor.G
namespace Go.Proofs.YtjbbapodcngnaaaGreatDoor.G
open Go.RowKit Hdr

/-- A bytes.Reader at block k over the bytes T at place o of block h: s is still to come. -/
def BytesS (k h o cap : Nat) (T : List UInt8) (w : World) (s : List UInt8) : Prop :=
  ∃ (i : Nat) (p : Int), Blk w k [.slice (some ⟨h, o, none⟩) T.length cap, .int .i64 i, .int .i64 p] 207 ∧ BytesAt w h o T ∧ i ≤ T.length ∧ s = T.drop i ∧ T.length ≤ cap ∧ T.length ≤ 1000000000 ∧ k ≠ h

theorem BytesS.keep {S : Nat → Prop} {k h o cap : Nat} {T : List UInt8} {w w' : World} {s : List UInt8} (hb : BytesS k h o cap T w s) (K : Keeps S w w') (hS : ∀ x, (x = k ∨ x = h) → ¬ S x) : BytesS k h o cap T w' s := by
  obtain ⟨i, p, h1, h2, h3⟩ := hb
  exact ⟨i, p, h1.keep K (hS _ (.inl rfl)), h2.keep K (hS _ (.inr rfl)), h3⟩

set_option maxRecDepth 100000 in
set_option maxHeartbeats 1000000 in
theorem bytesRead_any (k h ob bcap : Nat) (T : List UInt8) (ea : Addr) {N : Nat} (d o len cap : Nat) (cs : List Value) (w : World) (s : List UInt8) (hb : BytesS k h ob bcap T w s) (L : Laid N ea w) (hd : Blk w d cs 5) (hnd : ¬ (d = k ∨ d = h)) (hlen : 0 < len) (hfit : o + len ≤ cs.length) (_hcs : cs.length ≤ 1000000) :
    Calls Tryz.prog 257 #[.pointer (some ⟨k, 0, none⟩), .slice (some ⟨d, o, none⟩) len cap] w fun e w' =>
      ∃ (n : Nat) (err : Value), e = .returned (.tuple #[.int .i64 n, err]) ∧ n ≤ len ∧ n ≤ s.length ∧ (0 < n ∧ err = .nilIface ∨ n = s.length ∧ err = (.iface 203 (.pointer (some ea)))) ∧ BytesS k h ob bcap T w' (s.drop n) ∧
        Blk w' d (cs.take o ++ u8s (s.take n) ++ cs.drop (o + n)) 5 ∧ Keeps (fun x => (x = k ∨ x = h) ∨ x = d) w w' := by
  obtain ⟨i, p, hB, hT, hi, hs, hc, hsz, hkh⟩ := hb
  have c0 : w.cell? ⟨k, 0, none⟩ = some (.slice (some ⟨h, ob, none⟩) T.length bcap) := hB.cell 0
  have c1 : w.cell? ⟨k, 1, none⟩ = some (.int .i64 i) := hB.cell 1
  have c2 : w.cell? ⟨k, 2, none⟩ = some (.int .i64 p) := hB.cell 2
  have fz := hB.frozen
  have hkd : k ≠ d := fun e => hnd (.inl e.symm)
  have hhd : h ≠ d := fun e => hnd (.inr e.symm)
  have HB := Lib.hid hB
  have HT := Lib.hid hT
  have HS := Lib.hid hs
  have HD := Lib.hid hd
  have heof := L.eof
  have hsl : s.length = T.length - i := by rw [hs, List.length_drop]
  have HSL := Lib.hid hsl
  clear hB hT hs hd L hsl
  by_cases hlt : i < T.length
  · have e1 : decide ((T.length : Int) ≤ (i : Int)) = false := decide_eq_false (by omega)
    have b1 : (i : Int) ≤ (T.length : Int) := by omega
    obtain ⟨m, hm⟩ : ∃ m, m = min len (T.length - i) := ⟨_, rfl⟩
    have hm1 : 0 < m := by omega
    have hm2 : i + m ≤ T.length := by omega
    have hm3 : m ≤ len := by omega
    have hnew : (s.take m).length = m := by rw [List.length_take, HSL.out]; omega
    obtain ⟨t, ht⟩ : ∃ t : Nat, t = i + m := ⟨_, rfl⟩
    have hsum : (i : Int) + m = t := by omega
    have hw3 : IntKind.i64.wrap (t : Int) = t := IntWalk.i64_in _ (by omega)
    have hsum2 : IntKind.i64.wrap ((i : Int) + m) = t := by rw [hsum]; exact hw3
    have HTT := Lib.hid ht
    clear ht
    have HN := Lib.hid hnew
    have HM := Lib.hid hm
    clear hnew hm
    go_enter Tryz.func257, Tryz.ntmps257
    go_wp2
    go_quiet (fail)
    go_wp2
    refine wp_as fun W1 hW1 => ?_
    have hB1 : Blk W1 k [.slice (some ⟨h, ob, none⟩) T.length bcap, .int .i64 i, .int .i64 (-1)] 207 := by subst hW1; exact ((HB.out.drewN _).set 2 _).to rfl
    have K1 : Keeps (In [k]) w W1 := by subst hW1; exact (by repeat (first | assumption | exact Keeps.refl _ _ | apply Keeps.drewN | apply Keeps.drew | apply Keeps.alloc | (refine Keeps.setCell ?_ (.inl (by simp [In])) _)))
    have HB1 := Lib.hid hB1
    clear hW1 c0 c1 c2 fz
    have c0 : W1.cell? ⟨k, 0, none⟩ = some (.slice (some ⟨h, ob, none⟩) T.length bcap) := hB1.cell 0
    have c1 : W1.cell? ⟨k, 1, none⟩ = some (.int .i64 i) := hB1.cell 1
    clear hB1
    refine region_tail 10 (by kernel_rfl) (by kernel_rfl) ?_
    simp only [List.take_succ_cons, List.take_zero, List.drop_succ_cons, List.drop_zero]
    repeat still_step
    refine wpStill_nil ?_
    refine wpList_copy_cells rfl (.tmp 20) (.tmp 29) 85 85 rfl 5 Tryz.underlying85 (by kernel_rfl) d o len cap _ (T.length - i) (bcap - i) rfl rfl cs 5 (HD.out.keep K1 (fun h => by simp only [In, List.mem_cons, List.not_mem_nil, or_false] at h; exact hkd h.symm)).drew (u8s (s.take m)) ?hn ?hsrc ?hfit (u8s_one _) ?_
    case hn => have := HN.out; have := HM.out; rw [u8s_length]; omega
    case hfit => have := HN.out; rw [u8s_length]; omega
    case hsrc =>
      have hb2 := (HT.out.keep K1 (fun h => by simp only [In, List.mem_cons, List.not_mem_nil, or_false] at h; exact hkh h.symm)).cut i m hc
      rw [HS.out]
      exact ⟨_, rfl, (hb2.keep (S := No) (Keeps.refl No _).drew (fun h => h)).cells⟩
    rw [u8s_length, HN.out]
    intro W2 B2 K2
    have hB2 := HB1.out.drew.keep K2 (fun h => by simp only [In, List.mem_cons, List.not_mem_nil, or_false] at h; exact hkd h)
    have fz := hB2.frozen
    clear c0 c1
    have c1 : W2.cell? ⟨k, 1, none⟩ = some (.int .i64 i) := hB2.cell 1
    have HB2 := Lib.hid hB2
    clear hB2
    go_wp2
    go_ret2
    have KK : Keeps (fun x => (x = k ∨ x = h) ∨ x = d) w W2 := (K1.mono (fun _ _ h => by simp only [In, List.mem_cons, List.not_mem_nil, or_false] at h; exact .inl (.inl h))).drew.trans' (K2.mono (fun _ _ h => by simp only [In, List.mem_cons, List.not_mem_nil, or_false] at h; exact .inr h))
    have hTd : BytesAt W2 h ob T := (HT.out.keep (K1.drew) (fun h => by simp only [In, List.mem_cons, List.not_mem_nil, or_false] at h; exact hkh h.symm)).keep K2 (fun h => by simp only [In, List.mem_cons, List.not_mem_nil, or_false] at h; exact hhd h)
    refine ⟨m, .nilIface, rfl, hm3, by have := HSL.out; omega, .inl ⟨hm1, rfl⟩, ⟨t, -1, (HB2.out.set 1 _).to rfl, ?_, by have := HTT.out; omega, ?_, hc, hsz, hkh⟩, ?_, KK.setCell (.inl (.inl (.inl rfl))) _⟩
    · exact hTd.keep (Keeps.cell_one W2 ⟨k, 1, none⟩ _) (fun h => by simp only [In, List.mem_cons, List.not_mem_nil, or_false] at h; exact hkh h.symm)
    · rw [HS.out, List.drop_drop, HTT.out]
    · exact B2.out.set_other hkd _
  · have e1 : decide ((T.length : Int) ≤ (i : Int)) = true := decide_eq_true (by omega)
    go_enter Tryz.func257, Tryz.ntmps257
    go_wp2
    go_quiet (fail)
    go_wp2
    go_quiet (fail)
    go_wp2
    go_ret2
    have hs0 : s = [] := List.length_eq_zero_iff.1 (by have := HSL.out; omega)
    refine ⟨0, _, rfl, by omega, by omega, .inr ⟨by rw [hs0]; rfl, rfl⟩, ⟨i, p, (HB.out.drewN _).drewN _, HT.out.keep (S := No) (((Keeps.refl No _).drewN _).drewN _) (fun h => h), hi, by rw [List.drop_zero]; exact HS.out, hc, hsz, hkh⟩, ?_, ((Keeps.refl _ w).drewN _).drewN _⟩
    have hh : ∀ a b : Nat, Blk ((w.drewN a).drewN b) d (cs.take o ++ u8s (s.take 0) ++ cs.drop (o + 0)) 5 := fun a b => by simpa using (HD.out.drewN a).drewN b
    exact hh _ _

/-- A bytes.Reader is a source. -/
def bytesSrc (ea : Addr) (k h o cap : Nat) (T : List UInt8) : Src where
  ea := ea
  t := 164
  v := .pointer (some ⟨k, 0, none⟩)
  f := 257
  recv := .pointer (some ⟨k, 0, none⟩)
  own := fun x => x = k ∨ x = h
  S := BytesS k h o cap T
  keep := fun h k hS => h.keep k hS
  lt := fun hb hx => by
    obtain ⟨i, p, h1, h2, _⟩ := hb
    rcases hx with rfl | rfl
    · exact h1.lt
    · exact h2.lt
  small := fun hb => by
    obtain ⟨i, p, h1, h2, h3, h4, h5, h6, _⟩ := hb
    rw [h4, List.length_drop]
    omega

theorem method_bytes (k : Nat) (w : World) : (method 477 164 (.pointer (some ⟨k, 0, none⟩)) "Read").run Tryz.prog w = .ok (257, .pointer (some ⟨k, 0, none⟩)) w := by kernel_rfl
theorem enter_bytes (args : Array Value) (w : World) : (callFunc 257 args).run Tryz.prog w = .ok (.enter 257 args) w := by kernel_rfl
theorem bytes_notBuf (k : Nat) (w : World) : (Instr.typeAssert (.iface 164 (.pointer (some ⟨k, 0, none⟩))) 131 150 true).run Tryz.prog w = .ok (.tuple #[.pointer none, .bool false]) w := by kernel_rfl

theorem bytesSrc_ok {ea : Addr} {k h o cap : Nat} {T : List UInt8} {N : Nat} (hK : N ≤ k) (hH : N ≤ h) : (bytesSrc ea k h o cap T).Ok N where
  meth := method_bytes k
  enter := enter_bytes
  old := fun hx => by
    rcases hx with rfl | rfl
    · exact hK
    · exact hH
  read := fun {w s d o len cap cs} hS L hd hnd hdN hlen hcap hfit hcs => bytesRead_any k h _ _ T ea d o len cap cs w s hS L hd hnd hlen hfit hcs
end Go.Proofs.YtjbbapodcngnaaaGreatDoor.G
