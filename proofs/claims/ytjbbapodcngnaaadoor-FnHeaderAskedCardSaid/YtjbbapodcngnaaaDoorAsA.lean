/- What a header tells of a key: Get, Has, Raw. -/
import Derived.Test.YtjbbapodcngnaaaDoorSpI
import Derived.Deep.OwnRows
import Derived.Laws.OwnMore
namespace Go.Proofs.YtjbbapodcngnaaaDoor
open Go.RowKit Hdr

/-- A header behind a pointer. -/
structure HP (w : World) (lo hb lb cap : Nat) (m : Option Nat) (fs : List Fd) : Prop where
  B : Blk w hb [.slice (some ⟨lb, 0, none⟩) fs.length cap, .map m] 45
  M : HMap w lo m fs.reverse
  F : Fds w lo w.heap.size fs
theorem HP.keep_no {w w' : World} {lo hb lb cap : Nat} {m : Option Nat} {fs : List Fd} (h : HP w lo hb lb cap m fs) (k : Keeps No w w') : HP w' lo hb lb cap m fs :=
  ⟨h.B.keep_no k, h.M.up k (fun _ h => h.elim), (h.F.keep k (fun _ h => h.elim)).mono k.size⟩

/-- The fields of a key. -/
def sel (fs : List Fd) (k : List UInt8) : List Fd := fs.filter (fun f => decide (f.k = k))
theorem sel_reverse (fs : List Fd) (k : List UInt8) : sel fs.reverse k = (sel fs k).reverse := by unfold sel; rw [List.filter_reverse]
theorem sel_len (fs : List Fd) (k : List UInt8) : (sel fs k).length ≤ fs.length := List.length_filter_le _ _

theorem run_lookup_nil (w : World) (k : List UInt8) : (Instr.lookup 43 (.map none) (str k) false).run Tryd.prog w = .ok (.slice none 0 0) w := by
  simp [Instr.lookup, run_underlying und_map, check_str, Instr.findKey, run_underlying Tryd.underlying9, Instr.findNow, Result.andThen]
theorem run_lookup_nil_ok (w : World) (k : List UInt8) : (Instr.lookup 43 (.map none) (str k) true).run Tryd.prog w = .ok (.tuple #[.slice none 0 0, .bool false]) w := by
  simp [Instr.lookup, run_underlying und_map, check_str, Instr.findKey, run_underlying Tryd.underlying9, Instr.findNow, Result.andThen]

/-- 'm[k]', with and without ok. -/
theorem find_any {w : World} {lo : Nat} {m : Option Nat} {fs : List Fd} (h : HMap w lo m fs) (k : List UInt8) :
    ∃ v, PS w lo v ((sel fs k).map (·.blk)) ∧ (∀ W : World, W.heap = w.heap → (Instr.lookup 43 (.map m) (str k) false).run Tryd.prog W = .ok v W) ∧
      (∀ W : World, W.heap = w.heap → (Instr.lookup 43 (.map m) (str k) true).run Tryd.prog W = .ok (.tuple #[v, .bool (!(sel fs k).isEmpty)]) W) ∧ (sel fs k = [] → v = .slice none 0 0) := by
  rcases h with ⟨rfl, rfl⟩ | ⟨mb, gs, rfl, _, hM, hG⟩
  · exact ⟨_, World.ownsRow_nil _ _ _ _, fun W _ => run_lookup_nil W k, fun W _ => run_lookup_nil_ok W k, fun _ => rfl⟩
  · have hMW : ∀ W : World, W.heap = w.heap → MapE W mb gs := fun W hW => by
      obtain ⟨es, c, h1, h2⟩ := hM
      exact ⟨es, c, by rw [hW]; exact h1, h2⟩
    rcases grp_cases gs k with hn | ⟨a, x, b, rfl, hx, hn⟩
    · have hs : sel fs k = [] := by
        unfold sel
        rw [List.filter_eq_nil_iff]
        intro f hf hk
        obtain ⟨x, hx, hxk⟩ := hG.all f hf
        exact hn x hx (by rw [hxk]; simpa using hk)
      rw [hs]
      exact ⟨_, World.ownsRow_nil _ _ _ _, fun W hW => run_lookup_none W mb gs k (hMW W hW) hn, fun W hW => run_lookup_none_ok W mb gs k (hMW W hW) hn, fun _ => rfl⟩
    · have hxm : x ∈ a ++ x :: b := by simp
      have hp := hG.own x hxm
      have ho := hG.of x hxm
      rw [hx] at ho
      have hne : (sel fs k).isEmpty = false := by
        cases hq : sel fs k with
        | nil =>
          unfold sel at hq
          rw [hq] at ho
          exact absurd ho (hG.some_ x hxm)
        | cons _ _ => rfl
      rw [hne]
      subst hx
      refine ⟨x.v, ?_, fun W hW => run_lookup_some W mb a b x (hMW W hW) hn, fun W hW => run_lookup_some_ok W mb a b x (hMW W hW) hn, fun h => by rw [h] at hne; cases hne⟩
      unfold sel
      rw [← ho]
      exact hp

def topv (s : List Fd) : List UInt8 := match s with | [] => [] | f :: _ => f.v
/-- What Get leaves. -/
def GetPost (s : List Fd) (w : World) (e : Ending) (w' : World) : Prop := e = .returned (str (topv s)) ∧ Keeps No w w'
def HasPost (s : List Fd) (w : World) (e : Ending) (w' : World) : Prop := e = .returned (.bool (!s.isEmpty)) ∧ Keeps No w w'
def rawV (s : List Fd) : Value := match s with | [] => .slice none 0 0 | f :: _ => f.rv
def RawPost (s : List Fd) (w : World) (e : Ending) (w' : World) : Prop := e = .returned (.tuple #[rawV s, .nilIface]) ∧ Keeps No w w'

set_option maxRecDepth 100000 in
set_option maxHeartbeats 1000000 in
theorem has_any (lo hb lb cap : Nat) (m : Option Nat) (fs : List Fd) (key : List UInt8) (w : World) (h : HP w lo hb lb cap m fs) (hlen : key.length ≤ 1000000000) :
    Calls Tryd.prog 17 #[.pointer (some ⟨hb, 0, none⟩), str key] w (HasPost (sel fs (canon key)) w) := by
  have HH := Lib.hid h
  have c1 : w.cell? ⟨hb, 1, none⟩ = some (.map m) := h.B.cell 1
  clear h
  go_enter Tryd.func17, Tryd.ntmps17
  go_upto_region 1 with (fail)
  refine region_segs [([0, 1, 2, 3, 4], 5)] [] 6 (fun W => W.cell? ⟨hb, 1, none⟩ = some (.map m)) (by kernel_rfl) (by kernel_rfl) ?_ ?_
  · exact c1
  simp only [segPick, List.map_cons, List.map_nil, pick, List.filterMap_cons, List.filterMap_nil, List.getElem?_cons_succ, List.getElem?_cons_zero, List.drop_succ_cons, List.drop_zero]
  rw [wpSegs]
  intro ι F hne hF
  have d1 := fun j => hF j
  clear hF
  repeat (quiet_step (fail))
  refine wpQuiet_nil ?_
  clear d1 hne F ι
  go_wp2_with (fail)
  refine (canonicalKey_any key _ hlen).mono ?_
  rintro e w1 ⟨rfl, K⟩
  have K1 : Keeps No w w1 := ((Keeps.refl No w).drew).trans' K
  have hH1 := HH.out.keep_no K1
  obtain ⟨v, hv, hl1', hl2', hl0⟩ := find_any hH1.M (canon key)
  have hl1 := hl1' _ rfl
  have hl2 := hl2' _ rfl
  clear hl1' hl2'
  have hl3 : (!(sel fs.reverse (canon key)).isEmpty) = (!(sel fs (canon key)).isEmpty) := by rw [sel_reverse]; cases sel fs (canon key) <;> simp
  rw [hl3] at hl2
  go_wp2
  refine EffPost.intro (hH1.B.cell 1) ?_
  clear hv hl1 hl0 hH1
  rw [wpSegs]
  intro ι F hne hF
  clear hF
  repeat (quiet_step (fail))
  refine wpQuiet_nil ?_
  clear hne F ι
  go_wp2
  go_ret
  exact ⟨rfl, K1⟩

theorem last_at {l : List Nat} {x : Nat} {xs : List Nat} (h : l = (x :: xs).reverse) : l[l.length - 1]? = some x := by
  subst h
  rw [List.length_reverse, List.getElem?_reverse (by simp)]
  simp

/-- The slice of a key's fields: empty, or with the topmost at its end. -/
theorem sel_cases {w : World} {lo : Nat} {v : Value} {fs : List Fd} {k : List UInt8} (hv : PS w lo v ((sel fs.reverse k).map (·.blk))) (h0 : sel fs.reverse k = [] → v = .slice none 0 0) (hF : Fds w lo w.heap.size fs) :
    (sel fs k = [] ∧ v = .slice none 0 0) ∨ ∃ f r g cap, sel fs k = f :: r ∧ v = .slice (some ⟨g, 0, none⟩) (r.length + 1) cap ∧ f ∈ fs ∧ w.cell? ⟨g, r.length, none⟩ = some (.pointer (some ⟨f.blk, 0, none⟩)) ∧ Blk w f.blk [f.rv, str f.k, str f.v] 70 := by
  rw [sel_reverse] at hv
  cases hs : sel fs k with
  | nil =>
    left
    exact ⟨rfl, h0 (by rw [sel_reverse, hs]; rfl)⟩
  | cons f r =>
    right
    rw [hs] at hv
    have hf : f ∈ fs := by
      have : f ∈ sel fs k := by rw [hs]; simp
      unfold sel at this
      exact (List.mem_filter.1 this).1
    obtain ⟨g, cap, h1, _, _, h4, _, _⟩ := PS.block hv (by simp)
    refine ⟨f, r, g, cap, rfl, by rw [h1]; simp, hf, ?_, (hF f hf).B⟩
    refine h4.cell_of ?_
    simp

set_option maxRecDepth 100000 in
set_option maxHeartbeats 1000000 in
theorem get_any (lo hb lb cap : Nat) (m : Option Nat) (fs : List Fd) (key : List UInt8) (w : World) (h : HP w lo hb lb cap m fs) (hlen : key.length ≤ 1000000000) (hn : fs.length ≤ 1000000) :
    Calls Tryd.prog 16 #[.pointer (some ⟨hb, 0, none⟩), str key] w (GetPost (sel fs (canon key)) w) := by
  have HH := Lib.hid h
  have hsl := sel_len fs (canon key)
  have c1 : w.cell? ⟨hb, 1, none⟩ = some (.map m) := h.B.cell 1
  clear h
  go_enter Tryd.func16, Tryd.ntmps16
  go_upto_region 1 with (fail)
  refine region_segs [([0, 1, 2, 3, 4], 5)] [] 6 (fun W => W.cell? ⟨hb, 1, none⟩ = some (.map m)) (by kernel_rfl) (by kernel_rfl) ?_ ?_
  · exact c1
  simp only [segPick, List.map_cons, List.map_nil, pick, List.filterMap_cons, List.filterMap_nil, List.getElem?_cons_succ, List.getElem?_cons_zero, List.drop_succ_cons, List.drop_zero]
  rw [wpSegs]
  intro ι F hne hF
  have d1 := fun j => hF j
  clear hF
  repeat (quiet_step (fail))
  refine wpQuiet_nil ?_
  clear d1 hne F ι
  go_wp2_with (fail)
  refine (canonicalKey_any key _ hlen).mono ?_
  rintro e w1 ⟨rfl, K⟩
  have K1 : Keeps No w w1 := ((Keeps.refl No w).drew).trans' K
  have hH1 := HH.out.keep_no K1
  obtain ⟨v, hv, hl1', hl2', hl0⟩ := find_any hH1.M (canon key)
  have hl1 := hl1' _ rfl
  have hl2 := hl2' _ rfl
  clear hl1' hl2'
  have hcs := sel_cases hv hl0 hH1.F
  generalize sel fs (canon key) = s at *
  have HCS := Lib.hid hcs
  clear hv hl2 hl0 hcs
  go_wp2
  refine EffPost.intro (hH1.B.cell 1) ?_
  clear hH1
  rw [wpSegs]
  intro ι F hne hF
  clear hF
  repeat (quiet_step (fail))
  refine wpQuiet_nil ?_
  clear hne F ι
  rcases HCS.out with ⟨rfl, rfl⟩ | ⟨f, r, g, gcap, rfl, rfl, _, hc, hB⟩
  · go_wp2
    go_ret
    exact ⟨rfl, K1⟩
  · have hrl : r.length ≤ 1000000 := by simp at hsl; omega
    have b1 : IntKind.i64.wrap (((r.length + 1 : Nat) : Int) - 1) = (r.length : Int) := by rw [IntKind.wrap_i64]; omega
    have b2 : (((r.length + 1 : Nat) : Int) - 1) = (r.length : Int) := by omega
    have b3 : (((r.length + 1 : Nat) : Int) == 0) = false := by simp; omega
    have b4 : ((r.length : Int) + 1 == 0) = false := by simp; omega
    have hc2 : w1.cell? ⟨f.blk, 2, none⟩ = some (str f.v) := hB.cell 2
    clear hB
    go_wp2
    go_ret
    exact ⟨rfl, K1⟩

set_option maxRecDepth 100000 in
set_option maxHeartbeats 1000000 in
theorem rawOf_any (lo hb lb cap : Nat) (m : Option Nat) (fs : List Fd) (key : List UInt8) (w : World) (h : HP w lo hb lb cap m fs) (hlen : key.length ≤ 1000000000) (hn : fs.length ≤ 1000000) (hraw : ∀ f ∈ fs, f.raw.isSome = true) :
    Calls Tryd.prog 15 #[.pointer (some ⟨hb, 0, none⟩), str key] w (RawPost (sel fs (canon key)) w) := by
  have HH := Lib.hid h
  have hsl := sel_len fs (canon key)
  have c1 : w.cell? ⟨hb, 1, none⟩ = some (.map m) := h.B.cell 1
  have HR := Lib.hid hraw
  clear h hraw
  go_enter Tryd.func15, Tryd.ntmps15
  go_upto_region 1 with (fail)
  refine region_segs [([0, 1, 2, 3, 4], 5)] [] 6 (fun W => W.cell? ⟨hb, 1, none⟩ = some (.map m)) (by kernel_rfl) (by kernel_rfl) ?_ ?_
  · exact c1
  simp only [segPick, List.map_cons, List.map_nil, pick, List.filterMap_cons, List.filterMap_nil, List.getElem?_cons_succ, List.getElem?_cons_zero, List.drop_succ_cons, List.drop_zero]
  rw [wpSegs]
  intro ι F hne hF
  have d1 := fun j => hF j
  clear hF
  repeat (quiet_step (fail))
  refine wpQuiet_nil ?_
  clear d1 hne F ι
  go_wp2_with (fail)
  refine (canonicalKey_any key _ hlen).mono ?_
  rintro e w1 ⟨rfl, K⟩
  have K1 : Keeps No w w1 := ((Keeps.refl No w).drew).trans' K
  have hH1 := HH.out.keep_no K1
  obtain ⟨v, hv, hl1', hl2', hl0⟩ := find_any hH1.M (canon key)
  have hl1 := hl1' _ rfl
  have hl2 := hl2' _ rfl
  clear hl1' hl2'
  have hcs := sel_cases hv hl0 hH1.F
  have hF1 := Lib.hid hH1.F
  generalize sel fs (canon key) = s at *
  have HCS := Lib.hid hcs
  clear hv hl2 hl0 hcs
  go_wp2
  refine EffPost.intro (hH1.B.cell 1) ?_
  clear hH1
  rw [wpSegs]
  intro ι F hne hF
  clear hF
  repeat (quiet_step (fail))
  refine wpQuiet_nil ?_
  clear hne F ι
  rcases HCS.out with ⟨rfl, rfl⟩ | ⟨f, r, g, gcap, rfl, rfl, hf, hc, hB⟩
  · go_wp2
    go_ret2
    exact ⟨rfl, K1⟩
  · have hrl : r.length ≤ 1000000 := by simp at hsl; omega
    have b1 : IntKind.i64.wrap (((r.length + 1 : Nat) : Int) - 1) = (r.length : Int) := by rw [IntKind.wrap_i64]; omega
    have b2 : (((r.length + 1 : Nat) : Int) - 1) = (r.length : Int) := by omega
    have b3 : (((r.length + 1 : Nat) : Int) == 0) = false := by simp; omega
    have b4 : ((r.length : Int) + 1 == 0) = false := by simp; omega
    have hR := (hF1.out f hf).R
    have hS := HR.out f hf
    cases hq : f.raw with
    | none => rw [hq] at hS; cases hS
    | some rl =>
      rw [hq] at hR
      obtain ⟨rb, ro, rcap, hrv, _⟩ := hR
      have HRV := Lib.hid hrv
      rw [hrv] at hB
      have HBF := Lib.hid hB
      clear hB hrv hq hS
      go_wp2_with (fail)
      refine (fieldRaw_some f.blk ⟨rb, ro, none⟩ rl.length rcap f.k f.v _ HBF.out).mono ?_
      rintro e w2 ⟨rfl, hw2⟩
      subst hw2
      go_wp2
      go_ret2
      exact ⟨by unfold rawV; rw [← HRV.out]; rfl, K1⟩

/-- What Values leaves. -/
def ValPost (s : List Fd) (w : World) (e : Ending) (w' : World) : Prop :=
  ∃ v, e = .returned v ∧ w'.ownsRow w.heap.size 9 1 v s.length (s.map fun f => str f.v) ∧ Keeps No w w'

theorem run_make_strs (w : World) (n : Nat) (hn : n ≤ 1000000) : (Instr.makeSlice 26 (.int .i64 (n : Int)) (.int .i64 (n : Int))).run Tryd.prog w = .ok (.slice (some ⟨w.heap.size, 0, none⟩) n n) (w.alloc (.cells (List.replicate n (.string ⟨#[]⟩)).toArray 9)) := by
  have h := run_make_row' (P := Tryd.prog) 26 9 (.string ⟨#[]⟩) 16 Tryd.underlying26 info_str rfl .i64 .i64 n (by omega) (by omega) w
  have e : madeCells #[Value.string ⟨#[]⟩] n = (List.replicate n (Value.string ⟨#[]⟩)).toArray := Array.toList_inj.1 (by rw [toList_madeCells_one])
  rw [h, e]

theorem set_last {α : Type} (n : Nat) (z x : α) (r : List α) : (List.replicate (n + 1) z ++ r).set n x = List.replicate n z ++ x :: r := by
  rw [List.replicate_succ', List.append_assoc, List.set_append_right _ _ (by simp)]
  simp

set_option maxRecDepth 100000 in
set_option maxHeartbeats 1000000 in
theorem values_any (lo hb lb cap : Nat) (m : Option Nat) (fs : List Fd) (key : List UInt8) (w : World) (h : HP w lo hb lb cap m fs) (hlen : key.length ≤ 1000000000) (hn : fs.length ≤ 1000000) :
    Calls Tryd.prog 18 #[.pointer (some ⟨hb, 0, none⟩), str key] w (ValPost (sel fs (canon key)) w) := by
  have HH := Lib.hid h
  have hsl := sel_len fs (canon key)
  have c1 : w.cell? ⟨hb, 1, none⟩ = some (.map m) := h.B.cell 1
  clear h
  go_enter Tryd.func18, Tryd.ntmps18
  go_upto_region 1 with (fail)
  refine region_segs [([0, 1, 2, 3, 4], 5)] [] 6 (fun W => W.cell? ⟨hb, 1, none⟩ = some (.map m)) (by kernel_rfl) (by kernel_rfl) ?_ ?_
  · exact c1
  simp only [segPick, List.map_cons, List.map_nil, pick, List.filterMap_cons, List.filterMap_nil, List.getElem?_cons_succ, List.getElem?_cons_zero, List.drop_succ_cons, List.drop_zero]
  rw [wpSegs]
  intro ι F hne hF
  have d1 := fun j => hF j
  clear hF
  repeat (quiet_step (fail))
  refine wpQuiet_nil ?_
  clear d1 hne F ι
  go_wp2_with (fail)
  refine (canonicalKey_any key _ hlen).mono ?_
  rintro e w1 ⟨rfl, K⟩
  have K1 : Keeps No w w1 := ((Keeps.refl No w).drew).trans' K
  have hH1 := HH.out.keep_no K1
  obtain ⟨v, hv, hl1', hl2', hl0⟩ := find_any hH1.M (canon key)
  have hl1 := hl1' _ rfl
  clear hl1' hl2'
  rw [sel_reverse] at hv hl0
  have hsm : ∀ f ∈ sel fs (canon key), f ∈ fs := fun f hf => by
    unfold sel at hf
    exact (List.mem_filter.1 hf).1
  have hF1 := Lib.hid hH1.F
  generalize sel fs (canon key) = s at *
  have HV := Lib.hid hv
  have HV0 := Lib.hid hl0
  clear hv hl0
  go_wp2
  refine EffPost.intro (hH1.B.cell 1) ?_
  clear hH1
  rw [wpSegs]
  intro ι F hne hF
  clear hF
  repeat (quiet_step (fail))
  refine wpQuiet_nil ?_
  clear hne F ι
  by_cases hs : s = []
  · subst hs
    have hv := HV0.out rfl
    subst hv
    go_wp2
    go_ret
    exact ⟨_, rfl, World.ownsRow_nil _ _ _ _, K1⟩
  · obtain ⟨g, gcap, hv, _, hgl, hpt, _, _⟩ := PS.block HV.out (by simpa using hs)
    rw [List.length_map, List.length_reverse] at hv
    subst hv
    have hsp : 0 < s.length := List.length_pos_iff.2 hs
    have hs1 : s.length ≤ 1000000 := by omega
    have HPT := Lib.hid hpt
    generalize hnn : s.length = n at *
    have HNN := Lib.hid hnn
    have hmk := run_make_strs w1 n hs1
    have e0 : ((n : Int) == 0) = false := by simp; omega
    have hOB := Blk.new w1 (List.replicate n (.string ⟨#[]⟩)) 9
    have KA : Keeps No w1 (w1.alloc (.cells (List.replicate n (.string ⟨#[]⟩)).toArray 9)) := (Keeps.refl No w1).alloc _
    have HOB := Lib.hid hOB
    have HSM := Lib.hid hsm
    clear hnn hs hpt hOB hsm HV HV0
    go_wp2
    go_loopg [24] n (fun q s24 wr => ∃ j : Nat, s24 = .int .i64 (j : Int) ∧ j + q = n ∧ Blk wr w1.heap.size (List.replicate (n - j) (.string ⟨#[]⟩) ++ (s.drop (n - j)).map fun f => str f.v) 9 ∧ Keeps (Up w1.heap.size []) w1 wr)
    case atStart => exact ⟨0, rfl, by omega, HOB.out.to (by rw [Nat.sub_zero, List.drop_eq_nil_of_le (by have := HNN.out; omega)]; simp), KA.of_no⟩
    case round =>
      obtain ⟨j, rfl, hjn, hB, hK⟩ := hrel
      have HJN := Lib.hid hjn
      have HB := Lib.hid hB
      have hjl : j ≤ n := by omega
      clear hjn hB
      by_cases hj : j < n
      · have hjj : (j : Int) < (n : Int) := by omega
        have hi : n - 1 - j < s.length := by have := HNN.out; omega
        have hfm := HSM.out _ (List.getElem_mem hi)
        have hcell : wr.cell? ⟨g, j, none⟩ = some (.pointer (some ⟨(s[n - 1 - j]).blk, 0, none⟩)) := by
          refine (HPT.out.keep hK (fun h => by rcases h with h | h; cases h; omega)).cell_of ?_
          have h1 : j < s.reverse.length := by rw [List.length_reverse, HNN.out]; exact hj
          rw [List.getElem?_map, List.getElem?_eq_getElem h1, List.getElem_reverse]
          have := HNN.out
          simp only [Option.map_some]
          congr 3
          omega
        have hfd := ((hF1.out _ hfm).keep hK (fun x h => by rcases h with h | h; cases h; exact .inr h)).B
        have hdr : s.drop (n - 1 - j) = s[n - 1 - j] :: s.drop (n - j) := by
          rw [List.drop_eq_getElem_cons hi]
          congr 2
          omega
        generalize s[n - 1 - j] = f at *
        have hc2 : wr.cell? ⟨f.blk, 2, none⟩ = some (str f.v) := hfd.cell 2
        have HDR := Lib.hid hdr
        have b1 : IntKind.i64.wrap ((n : Int) - (j : Int)) = (n : Int) - j := by rw [IntKind.wrap_i64]; omega
        have b2 : IntKind.i64.wrap ((n : Int) - (j : Int) - 1) = ((n - 1 - j : Nat) : Int) := by rw [IntKind.wrap_i64]; omega
        have b3 : (n : Int) - (j : Int) - 1 = ((n - 1 - j : Nat) : Int) := by omega
        have fz := HB.out.frozen (n - 1 - j)
        have hset := HB.out.set (n - 1 - j) (str f.v)
        rw [show n - j = n - 1 - j + 1 by omega, set_last] at hset
        have hold : ∃ u, wr.cell? ⟨w1.heap.size, n - 1 - j, none⟩ = some u := by
          have h1 := HB.out.cell (n - 1 - j)
          rw [List.getElem?_append_left (by simp; omega), List.getElem?_replicate, if_pos (by omega)] at h1
          exact ⟨_, h1⟩
        obtain ⟨u, hu⟩ := hold
        have HSET := Lib.hid hset
        clear hset hdr hfd hfm
        go_wp2
        go_roundg (gk - 1)
        case measure => have := HJN.out; omega
        case rel =>
          refine ⟨j + 1, by simp, by have := HJN.out; omega, HSET.out.to ?_, hK.setCell (.inr (Nat.le_refl _)) _⟩
          rw [show n - (j + 1) = n - 1 - j by omega, HDR.out, show n - 1 - j + 1 = n - j by omega]
          rfl
      · have hjn : j = n := by omega
        have e1 : decide ((j : Int) < (n : Int)) = false := decide_eq_false (by omega)
        have HJE := Lib.hid hjn
        clear hjn
        go_wp2
        go_ret
        have hB := HB.out
        rw [HJE.out, Nat.sub_self, List.drop_zero, List.replicate_zero, List.nil_append] at hB
        have hw1 := K1.size
        refine ⟨.slice (some ⟨w1.heap.size, 0, none⟩) n n, rfl, ?_, K1.trans' ((hK.down (Nat.le_refl _)).mono (fun _ _ h => by cases h))⟩
        have hsz : (List.map (fun f : Fd => str f.v) s).length = n := by rw [List.length_map, HNN.out]
        rw [HNN.out]
        refine ⟨by rw [hsz, Nat.mul_one], .inr ⟨w1.heap.size, n, _, rfl, hw1, hB, Nat.le_refl _, by unfold maxLen; omega, by have := HNN.out; simp; omega, ?_⟩⟩
        rw [List.take_of_length_le (by have := HNN.out; simp; omega)]

/-- What FieldsByKey leaves. -/
def FbkPost (hb : Nat) (ck : List UInt8) (w : World) (e : Ending) (w' : World) : Prop :=
  ∃ ib : Nat, e = .returned (.iface 72 (.pointer (some ⟨ib, 0, none⟩))) ∧ w.heap.size ≤ ib ∧ Blk w' ib [.pointer (some ⟨hb, 0, none⟩), str ck, .int .i64 (-1)] 74 ∧ Keeps No w w'

set_option maxRecDepth 100000 in
theorem fieldsByKey_any (hb : Nat) (key : List UInt8) (w : World) (hlen : key.length ≤ 1000000000) :
    Calls Tryd.prog 19 #[.pointer (some ⟨hb, 0, none⟩), str key] w (FbkPost hb (canon key) w) := by
  go_enter Tryd.func19, Tryd.ntmps19
  go_wp2_with (fail)
  refine (canonicalKey_any key _ hlen).mono ?_
  rintro e w1 ⟨rfl, K⟩
  go_wp2
  go_ret
  exact ⟨w1.heap.size, rfl, K.size, Blk.new w1 _ _, K.alloc _⟩

theorem method_lenK (b : Nat) (w : World) : (method 257 72 (.pointer (some ⟨b, 0, none⟩)) "Len").run Tryd.prog w = .ok (96, .pointer (some ⟨b, 0, none⟩)) w := by kernel_rfl

set_option maxRecDepth 100000 in
set_option maxHeartbeats 1000000 in
theorem lenK_any (lo hb lb cap ib : Nat) (c : Int) (m : Option Nat) (fs : List Fd) (ck : List UInt8) (w : World) (h : HP w lo hb lb cap m fs) (hI : Blk w ib [.pointer (some ⟨hb, 0, none⟩), str ck, .int .i64 c] 74) :
    Calls Tryd.prog 96 #[.pointer (some ⟨ib, 0, none⟩)] w fun e w' => e = .returned (.int .i64 ((sel fs ck).length : Int)) ∧ ∃ q, w' = w.drewN q := by
  have c1 : w.cell? ⟨hb, 1, none⟩ = some (.map m) := h.B.cell 1
  have i0 : w.cell? ⟨ib, 0, none⟩ = some (.pointer (some ⟨hb, 0, none⟩)) := hI.cell 0
  have i1 : w.cell? ⟨ib, 1, none⟩ = some (str ck) := hI.cell 1
  obtain ⟨v, hv, hl, -, -⟩ := find_any h.M ck
  rw [sel_reverse] at hv
  obtain ⟨va, vc, rfl⟩ := ownsRow_shape hv
  have hlk : ∀ q, (Instr.lookup 43 (.map m) (str ck) false).run Tryd.prog (w.drewN q) = .ok (.slice va ((sel fs ck).reverse.map (·.blk)).length vc) (w.drewN q) := fun q => hl _ rfl
  rw [List.length_map, List.length_reverse] at hlk
  generalize (sel fs ck).length = n at *
  clear h hI hv hl
  go_enter Tryd.func96, Tryd.ntmps96
  go_upto_region 1 with (fail)
  go_quiet (fail)
  go_wp2
  go_ret
  exact ⟨rfl, nq, rfl⟩
end Go.Proofs.YtjbbapodcngnaaaDoor
