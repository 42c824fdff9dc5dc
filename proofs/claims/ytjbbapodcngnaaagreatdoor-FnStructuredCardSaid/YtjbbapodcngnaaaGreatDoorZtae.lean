/- spec.MailRight: true only of messages that are right. zzFits6, zzFits7, zzFits8 answer. Steps that come in, opened and shut. A message that comes in, opened. -/
import Derived.Test.YtjbbapodcngnaaaGreatDoorZtad
import Derived.Test.YtjbbapodcngnaaaGreatDoorZtab
import Derived.Test.YtjbbapodcngnaaaGreatDoorZtac
import Derived.Test.YtjbbapodcngnaaaGreatDoorZtaa
import Derived.Maps.AppendAt
import Derived.LaidEqlPtr
import Derived.Test.YtjbbapodcngnaaaGreatDoorZtca
import Derived.Deep.Slices
import Derived.Lib.SmallJoins
namespace Go.Proofs.YtjbbapodcngnaaaGreatDoor
open Go.RowKit Hdr

theorem mailRight_all (d : Nat) : ∀ (m : Ml) (ha : Option Addr) (hc : Nat) (ka : Option Addr) (kc : Nat) (lb : Nat) (k : Int) (w0 w : World), d ≤ 5 → MlC w0 m (mlCs (.slice ha m.head.length hc) m.kind m.type m.sub m.id m.about m.way m.text (.slice ka m.kids.length kc)) → Keeps No w0 w → w0.heap.size ≤ lb → Blk w lb [.int .i64 k] 3 → 0 ≤ k → k ≤ 16 →
    Calls Tryz.prog 37 #[mlVal ha m.head.length hc m.kind m.type m.sub m.id m.about m.way m.text ka m.kids.length kc, .int .i64 d, .pointer (some ⟨lb, 0, none⟩)] w (RPost lb k m w) := by
  induction d with
  | zero =>
    intro m ha hc ka kc lb k w0 w hd h K hlb hL h0 h16
    have hwf := h.wf
    obtain ⟨ha', hc', ka', kc', css, he, hh, hms, hr, hcl⟩ := h.form
    simp only [mlCs, List.cons.injEq, Value.slice.injEq, true_and, and_true] at he
    obtain ⟨⟨rfl, rfl⟩, rfl, rfl⟩ := he
    have := mailRight_node ha hc m.head m.kind m.type m.sub m.id m.about m.way m.text ka kc m.kids css 0 0 lb k w0 w hwf hh hms hr K hlb hL h0 h16 (by omega) (fun h => absurd rfl h) (fun h => absurd rfl h)
    obtain ⟨a, b, c, d, e, f, g, x, i⟩ := m
    exact this
  | succ d ih =>
    intro m ha hc ka kc lb k w0 w hd h K hlb hL h0 h16
    have hwf := h.wf
    obtain ⟨ha', hc', ka', kc', css, he, hh, hms, hr, hcl⟩ := h.form
    simp only [mlCs, List.cons.injEq, Value.slice.injEq, true_and, and_true] at he
    obtain ⟨⟨rfl, rfl⟩, rfl, rfl⟩ := he
    have := mailRight_node ha hc m.head m.kind m.type m.sub m.id m.about m.way m.text ka kc m.kids css (d + 1) d lb k w0 w hwf hh hms hr K hlb hL h0 h16 hd (fun _ => rfl)
      (fun _ i x ha' hc' ka' kc' hx hxc W k' K' hL' h0' h16' => ih x ha' hc' ka' kc' lb k' w0 W (by omega) hxc K' hlb hL' h0' h16')
    obtain ⟨a, b, c, d, e, f, g, x, i⟩ := m
    exact this

def MRPost (m : Ml) (w : World) (e : Ending) (w' : World) : Prop := ∃ b : Bool, e = .returned (.bool b) ∧ (b = true → MlOk m ∧ msize m ≤ 16) ∧ Keeps No w w'

set_option maxRecDepth 100000 in
set_option maxHeartbeats 1000000 in
theorem mailRight_any (m : Ml) (ha : Option Addr) (hc : Nat) (ka : Option Addr) (kc : Nat) (w : World) (h : MlC w m (mlCs (.slice ha m.head.length hc) m.kind m.type m.sub m.id m.about m.way m.text (.slice ka m.kids.length kc))) :
    Calls Tryz.prog 15 #[mlVal ha m.head.length hc m.kind m.type m.sub m.id m.about m.way m.text ka m.kids.length kc] w (MRPost m w) := by
  have HR := Lib.hid (fun (lb : Nat) (W : World) K hlb hL => mailRight_all 5 m ha hc ka kc lb 16 w W (by omega) h K hlb hL (by omega) (by omega))
  obtain ⟨n1, hn1⟩ : ∃ n1, n1 = m.head.length := ⟨_, rfl⟩
  obtain ⟨n2, hn2⟩ : ∃ n2, n2 = m.kids.length := ⟨_, rfl⟩
  rw [← hn1, ← hn2] at HR ⊢
  generalize m.kind = kind at *
  generalize m.type = ty at *
  generalize m.sub = sub at *
  generalize m.id = id at *
  generalize m.about = ab at *
  generalize m.way = way at *
  generalize m.text = text at *
  unfold mlVal at HR ⊢
  clear hn1 hn2 h
  have e1 : (w.alloc (.cells #[.slice ha n1 hc, .int .i64 kind, str ty, str sub, str id, str ab, str way, str text, .slice ka n2 kc] 42)).heap.size = w.heap.size + 1 := by simp
  have kA : Keeps No w ((w.alloc (.cells #[.slice ha n1 hc, .int .i64 kind, str ty, str sub, str id, str ab, str way, str text, .slice ka n2 kc] 42)).alloc (.cells #[.int .i64 16] 3)) := ((Keeps.refl No w).alloc _).alloc _
  have hL : Blk ((w.alloc (.cells #[.slice ha n1 hc, .int .i64 kind, str ty, str sub, str id, str ab, str way, str text, .slice ka n2 kc] 42)).alloc (.cells #[.int .i64 16] 3)) (w.heap.size + 1) [.int .i64 16] 3 := by
    have := Blk.new (w.alloc (.cells #[.slice ha n1 hc, .int .i64 kind, str ty, str sub, str id, str ab, str way, str text, .slice ka n2 kc] 42)) [.int .i64 16] 3
    rw [e1] at this
    exact this
  have HC := Lib.hid (HR.out (w.heap.size + 1) _ kA (by omega) hL)
  have HKA := Lib.hid kA
  clear e1 hL kA
  go_enter Tryz.func15, Tryz.ntmps15
  go_wp2_with (fail)
  refine HC.out.mono ?_
  rintro e w2 ⟨b, k', rfl, hb, K2, hm⟩
  go_wp2
  go_ret
  exact ⟨b, rfl, fun hbt => ⟨(hm hbt).1, by have h1 := (hm hbt).2.1; have h2 := (hm hbt).2.2; omega⟩, HKA.out.trans K2 (fun x hx e => by omega)⟩
end Go.Proofs.YtjbbapodcngnaaaGreatDoor
namespace Go.Proofs.YtjbbapodcngnaaaGreatDoor
open Go.RowKit Hdr

set_option maxRecDepth 100000 in
theorem fits8_any (x : Hd) (w : World) : Calls Tryz.prog 58 #[.agg #[str x.1, str x.2]] w (BoolPost w) := by
  obtain ⟨key, val⟩ := x
  have kA : Keeps No w (w.alloc (.cells #[str key, str val] 127)) := (Keeps.refl No w).alloc _
  have hlk := str_len key
  have hlv := str_len val
  by_cases h1 : 2147483647 < key.length
  · have e1 : decide (2147483647 < key.length) = true := decide_eq_true h1
    have e2 : decide ((2147483647 : Int) < (key.length : Int)) = true := decide_eq_true (by omega)
    go_enter Tryz.func58, Tryz.ntmps58
    go_wp2
    go_ret
    exact ⟨false, rfl, kA⟩
  · have e1 : decide (2147483647 < key.length) = false := decide_eq_false h1
    have e2 : decide ((2147483647 : Int) < (key.length : Int)) = false := decide_eq_false (by omega)
    by_cases h2 : 2147483647 < val.length
    · have e3 : decide (2147483647 < val.length) = true := decide_eq_true h2
      have e4 : decide ((2147483647 : Int) < (val.length : Int)) = true := decide_eq_true (by omega)
      go_enter Tryz.func58, Tryz.ntmps58
      go_wp2
      go_ret
      exact ⟨false, rfl, kA⟩
    · have e3 : decide (2147483647 < val.length) = false := decide_eq_false h2
      have e4 : decide ((2147483647 : Int) < (val.length : Int)) = false := decide_eq_false (by omega)
      go_enter Tryz.func58, Tryz.ntmps58
      go_wp2
      go_ret
      exact ⟨true, rfl, kA⟩

set_option maxRecDepth 100000 in
set_option maxHeartbeats 1000000 in
theorem fits7_any (l : List Hd) (sa : Option Addr) (scap : Nat) (w : World) (hst : RowsAt w 2 (.slice sa l.length scap) (l.map hdC)) (hlm : l.length ≤ maxLen) :
    Calls Tryz.prog 36 #[.slice sa l.length scap] w (BoolPost w) := by
  have HST := Lib.hid hst
  clear hst
  unfold maxLen at hlm
  by_cases h1 : 2147483647 < l.length
  · have e2 : decide ((2147483647 : Int) < (l.length : Int)) = true := decide_eq_true (by omega)
    go_enter Tryz.func36, Tryz.ntmps36
    go_wp2
    go_ret
    exact ⟨false, rfl, Keeps.refl _ _⟩
  have e2 : decide ((2147483647 : Int) < (l.length : Int)) = false := decide_eq_false (by omega)
  have h2 : l.length ≤ 2147483647 := by omega
  clear h1
  go_enter Tryz.func36, Tryz.ntmps36
  go_wp2
  go_loopg [10] l.length (fun q s10 wr => ∃ i : Nat, s10 = .int .i64 (i : Int) ∧ i + q = l.length ∧ Keeps No w wr)
  case atStart => exact ⟨0, rfl, by omega, Keeps.refl _ _⟩
  case round =>
    obtain ⟨i, rfl, hin, K⟩ := hrel
    have HIN := Lib.hid hin
    have HK := Lib.hid K
    have hil : i ≤ l.length := by omega
    clear hin K
    by_cases hi : i < l.length
    · have hii : (i : Int) < (l.length : Int) := by omega
      obtain ⟨x, hx⟩ : ∃ x, l[i]? = some x := ⟨_, List.getElem?_eq_getElem hi⟩
      obtain ⟨sb, so, rfl, -, hscap, c0, c1⟩ := hd_cells (HST.out.keep HK.out) hx
      have H8 := Lib.hid (fun w => fits8_any x w)
      obtain ⟨x1, x2⟩ := x
      simp only at c0 c1 H8
      clear hx
      go_wp2_with (fail)
      refine (H8.out _).mono ?_
      rintro e w2 ⟨t, rfl, K2⟩
      cases t with
      | false =>
        have HK2 := Lib.hid K2
        clear K2
        go_wp2
        go_ret
        exact ⟨false, rfl, (HK.out.alloc _).trans_no HK2.out⟩
      | true =>
        have HK2 := Lib.hid K2
        clear K2
        have hwi : IntKind.i64.wrap ((i : Int) + 1) = (i : Int) + 1 := by rw [IntKind.wrap_i64]; omega
        go_wp2
        go_roundg (gk - 1)
        case measure => have := HIN.out; omega
        case rel => exact ⟨i + 1, by simp, by have := HIN.out; omega, (HK.out.alloc _).trans_no HK2.out⟩
    · have hin : i = l.length := by omega
      have e1 : decide ((i : Int) < (l.length : Int)) = false := decide_eq_false (by omega)
      clear hin
      go_wp2
      go_ret
      exact ⟨true, rfl, HK.out⟩

set_option maxRecDepth 100000 in
set_option maxHeartbeats 1000000 in
theorem fits6_any (m : Ml) (cs : List Value) (w : World) (h : MlC w m cs) : Calls Tryz.prog 14 #[.agg cs.toArray] w (BoolPost w) := by
  have hw := h.wf
  obtain ⟨ha, hc, ka, kc, css, rfl, hh, hk, hkr, hcl⟩ := h.form
  clear h
  obtain ⟨hd, kind, ty, sub, id, ab, way, text, kids⟩ := m
  simp only [Ml.head, Ml.kind, Ml.type, Ml.sub, Ml.id, Ml.about, Ml.way, Ml.text, Ml.kids] at *
  have kA : Keeps No w (w.alloc (.cells #[.slice ha hd.length hc, .int .i64 kind, str ty, str sub, str id, str ab, str way, str text, .slice ka kids.length kc] 42)) := (Keeps.refl No w).alloc _
  have HB := Lib.hid (show Blk (w.alloc (.cells #[.slice ha hd.length hc, .int .i64 kind, str ty, str sub, str id, str ab, str way, str text, .slice ka kids.length kc] 42)) w.heap.size [.slice ha hd.length hc, .int .i64 kind, str ty, str sub, str id, str ab, str way, str text, .slice ka kids.length kc] 42 from Blk.new w _ _)
  have H7 := Lib.hid (fun W (K : Keeps No w W) => fits7_any hd ha hc W (hh.keep K) hw.hl)
  have HKA := Lib.hid kA
  clear hh hk hkr hcl hw kA
  have l1 := str_len ty
  have l2 := str_len sub
  have l3 := str_len id
  have l4 := str_len ab
  have l5 := str_len way
  have l6 := str_len text
  obtain ⟨t1, b1⟩ : ∃ t, decide ((2147483647 : Int) < (ty.length : Int)) = t := ⟨_, rfl⟩
  have n1 : decide (2147483647 < ty.length) = t1 := by rw [← b1]; exact decide_eq_decide.2 (by omega)
  obtain ⟨t2, b2⟩ : ∃ t, decide ((2147483647 : Int) < (sub.length : Int)) = t := ⟨_, rfl⟩
  have n2 : decide (2147483647 < sub.length) = t2 := by rw [← b2]; exact decide_eq_decide.2 (by omega)
  obtain ⟨t3, b3⟩ : ∃ t, decide ((2147483647 : Int) < (id.length : Int)) = t := ⟨_, rfl⟩
  have n3 : decide (2147483647 < id.length) = t3 := by rw [← b3]; exact decide_eq_decide.2 (by omega)
  obtain ⟨t4, b4⟩ : ∃ t, decide ((2147483647 : Int) < (ab.length : Int)) = t := ⟨_, rfl⟩
  have n4 : decide (2147483647 < ab.length) = t4 := by rw [← b4]; exact decide_eq_decide.2 (by omega)
  obtain ⟨t5, b5⟩ : ∃ t, decide ((2147483647 : Int) < (way.length : Int)) = t := ⟨_, rfl⟩
  have n5 : decide (2147483647 < way.length) = t5 := by rw [← b5]; exact decide_eq_decide.2 (by omega)
  obtain ⟨t6, b6⟩ : ∃ t, decide ((2147483647 : Int) < (text.length : Int)) = t := ⟨_, rfl⟩
  have n6 : decide (2147483647 < text.length) = t6 := by rw [← b6]; exact decide_eq_decide.2 (by omega)
  obtain ⟨t7, b7⟩ : ∃ t, decide ((2147483647 : Int) < (kids.length : Int)) = t := ⟨_, rfl⟩
  have n7 : decide (2147483647 < kids.length) = t7 := by rw [← b7]; exact decide_eq_decide.2 (by omega)
  show Calls Tryz.prog 14 #[.agg #[.slice ha hd.length hc, .int .i64 kind, str ty, str sub, str id, str ab, str way, str text, .slice ka kids.length kc]] w (BoolPost w)
  go_enter Tryz.func14, Tryz.ntmps14
  go_wp2_with (fail)
  refine (H7.out _ HKA.out).mono ?_
  rintro e w2 ⟨t, rfl, K2⟩
  have HK2 := Lib.hid (HKA.out.trans_no K2)
  have B2 := HB.out.keep_no K2
  have c2 : w2.cell? ⟨w.heap.size, 2, none⟩ = some (str ty) := B2.cell 2
  have c3 : w2.cell? ⟨w.heap.size, 3, none⟩ = some (str sub) := B2.cell 3
  have c4 : w2.cell? ⟨w.heap.size, 4, none⟩ = some (str id) := B2.cell 4
  have c5 : w2.cell? ⟨w.heap.size, 5, none⟩ = some (str ab) := B2.cell 5
  have c6 : w2.cell? ⟨w.heap.size, 6, none⟩ = some (str way) := B2.cell 6
  have c7 : w2.cell? ⟨w.heap.size, 7, none⟩ = some (str text) := B2.cell 7
  have c8 : w2.cell? ⟨w.heap.size, 8, none⟩ = some (.slice ka kids.length kc) := B2.cell 8
  clear B2
  clear K2
  cases t with
  | false => (go_wp2; go_ret; exact ⟨false, rfl, HK2.out⟩)
  | true =>
  cases t1 with
  | true => (go_wp2; go_ret; exact ⟨false, rfl, HK2.out⟩)
  | false =>
  cases t2 with
  | true => (go_wp2; go_ret; exact ⟨false, rfl, HK2.out⟩)
  | false =>
  cases t3 with
  | true => (go_wp2; go_ret; exact ⟨false, rfl, HK2.out⟩)
  | false =>
  cases t4 with
  | true => (go_wp2; go_ret; exact ⟨false, rfl, HK2.out⟩)
  | false =>
  cases t5 with
  | true => (go_wp2; go_ret; exact ⟨false, rfl, HK2.out⟩)
  | false =>
  cases t6 with
  | true => (go_wp2; go_ret; exact ⟨false, rfl, HK2.out⟩)
  | false =>
  cases t7 with
  | true => (go_wp2; go_ret; exact ⟨false, rfl, HK2.out⟩)
  | false =>
  go_wp2
  go_ret
  exact ⟨true, rfl, HK2.out⟩
end Go.Proofs.YtjbbapodcngnaaaGreatDoor
namespace Go.Proofs.YtjbbapodcngnaaaGreatDoor
open Go.ChangeShapes Go.WideShapes Go.RowKit Hdr

theorem cellsInt : Tryz.prog.cellsOf 3 = 1 := by kernel_rfl
theorem laidOutT : laidOutB Tryz.prog = true := by kernel_rfl

section
variable {H : Type} {enc : TypeId × Value → H}

end
end Go.Proofs.YtjbbapodcngnaaaGreatDoor
namespace Go.Proofs.YtjbbapodcngnaaaGreatDoor
open Go.ChangeShapes Go.WideShapes Go.RowKit Hdr

theorem cellsMail : Tryz.prog.cellsOf 42 = 9 := by kernel_rfl
theorem cellsHead : Tryz.prog.cellsOf 127 = 2 := by kernel_rfl
theorem cellsMails : Tryz.prog.cellsOf 40 = 1 := by kernel_rfl
theorem cellsHeads : Tryz.prog.cellsOf 39 = 1 := by kernel_rfl
instance : Inhabited Ml := ⟨.mk [] 0 [] [] [] [] [] [] []⟩

theorem cells_at {W : World} {a : Addr} {n : Nat} {cs : List Value} (h : W.cells? 0 a n = some cs) : cs.length = n ∧ ∀ (j : Nat) (u : Value), cs[j]? = some u → W.cell? (a.add j) = some u := by
  obtain ⟨_, hlen, hall⟩ := World.cells?_some h
  refine ⟨hlen, fun j u hu => ?_⟩
  have hj : j < n := by rw [← hlen]; exact (List.getElem?_eq_some_iff.1 hu).1
  have := hall j hj
  rw [this]
  exact hu
theorem mlsC_of {w : World} : ∀ (l : List Ml) (css : List (List Value)), l.length = css.length → (∀ (i : Nat) (m : Ml) (c : List Value), l[i]? = some m → css[i]? = some c → MlC w m c) → MlsC w l css
  | [], css, hl, _ => by
    rw [MlsC_nil]
    exact List.eq_nil_of_length_eq_zero hl.symm
  | m :: l, [], hl, _ => by simp at hl
  | m :: l, c :: r, hl, h => by
    rw [MlsC_cons]
    exact ⟨c, r, rfl, h 0 m c rfl rfl, mlsC_of l r (by simpa using hl) fun i m' c' h1 h2 => h (i + 1) m' c' (by simpa using h1) (by simpa using h2)⟩

section
variable {H : Type} {enc : TypeId × Value → H}

/-- A struct of nine fields. -/
theorem trod_struct9 {P : Program} {w : World} {base : Nat} {spare : Nat → Bool} {held : Bool} {t : TypeId} {f0 f1 f2 f3 f4 f5 f6 f7 f8 : Field} {fuel : Nat} {cs : List Value} {x : DataW H × List MemPlace} (ht : P.underlying t = some (.struct #[f0, f1, f2, f3, f4, f5, f6, f7, f8])) (h : DataW.trod enc P w base spare held fuel t cs = some x) :
    ∃ y0 y1 y2 y3 y4 y5 y6 y7 y8 n, fuel = n + 1 ∧ cs.length = P.cellsOf t ∧ DataW.trod enc P w base spare held n f0.type ((cs.drop f0.offset).take (P.cellsOf f0.type)) = some y0 ∧ DataW.trod enc P w base spare held n f1.type ((cs.drop f1.offset).take (P.cellsOf f1.type)) = some y1 ∧ DataW.trod enc P w base spare held n f2.type ((cs.drop f2.offset).take (P.cellsOf f2.type)) = some y2 ∧ DataW.trod enc P w base spare held n f3.type ((cs.drop f3.offset).take (P.cellsOf f3.type)) = some y3 ∧ DataW.trod enc P w base spare held n f4.type ((cs.drop f4.offset).take (P.cellsOf f4.type)) = some y4 ∧ DataW.trod enc P w base spare held n f5.type ((cs.drop f5.offset).take (P.cellsOf f5.type)) = some y5 ∧ DataW.trod enc P w base spare held n f6.type ((cs.drop f6.offset).take (P.cellsOf f6.type)) = some y6 ∧ DataW.trod enc P w base spare held n f7.type ((cs.drop f7.offset).take (P.cellsOf f7.type)) = some y7 ∧ DataW.trod enc P w base spare held n f8.type ((cs.drop f8.offset).take (P.cellsOf f8.type)) = some y8 := by
  obtain ⟨xs, n, hn, _, hl, hlen, hf⟩ := DataW.trod_struct ht h
  match xs, hlen with
  | [y0, y1, y2, y3, y4, y5, y6, y7, y8], _ => exact ⟨y0, y1, y2, y3, y4, y5, y6, y7, y8, n, hn, hl, by simpa using hf 0 f0 rfl, by simpa using hf 1 f1 rfl, by simpa using hf 2 f2 rfl, by simpa using hf 3 f3 rfl, by simpa using hf 4 f4 rfl, by simpa using hf 5 f5 rfl, by simpa using hf 6 f6 rfl, by simpa using hf 7 f7 rfl, by simpa using hf 8 f8 rfl⟩

/-- A slice of structs, opened at every index. -/
theorem rows_open {W : World} {n : Nat} {t e : TypeId} {v : Value} {size : Nat} {x : DataW H × List MemPlace} (ht : Tryz.prog.underlying t = some (.slice e)) (hc : Tryz.prog.cellsOf e = size) (hs : 0 < size) (h : DataW.trod enc Tryz.prog W 0 (fun _ => true) true n t [v] = some x) :
    ∃ (len : Nat) (C : Nat → List Value), RowsAt W size v ((List.range len).map C) ∧ len ≤ maxLen ∧ (∀ i, i < len → ∃ m y, m < n ∧ DataW.trod enc Tryz.prog W 0 (fun _ => true) true m e (C i) = some y) := by
  rcases DataW.trod_slice ht h with ⟨h1, _⟩ | ⟨a, len, cap, elems, rest, m, hn, h1, _, _, hl, hm, hlen, hel, _, _⟩
  · simp only [List.cons.injEq, and_true] at h1
    subst h1
    exact ⟨0, fun _ => [], ⟨none, 0, rfl, Nat.le_refl _, fun _ => rfl, .inl rfl⟩, by unfold maxLen; omega, fun i hi => absurd hi (Nat.not_lt_zero _)⟩
  · simp only [List.cons.injEq, and_true] at h1
    subst h1
    rw [hc] at hel
    obtain ⟨C, hC⟩ := Go.Deep.choose_lt (n := len) (p := fun i (c : List Value) => W.cells? 0 (a.add (i * size)) size = some c ∧ ∃ y, DataW.trod enc Tryz.prog W 0 (fun _ => true) true m e c = some y) (fun i hi => by
      have h2 := hel i hi
      have h3 : elems[i]? = some elems[i] := List.getElem?_eq_getElem (by omega)
      rw [h3, Option.bind_eq_some_iff] at h2
      obtain ⟨c, h4, h5⟩ := h2
      exact ⟨c, h4, _, h5⟩)
    refine ⟨len, C, ⟨some a, cap, by simp, by simpa using hl, fun h => (by cases h), ?_⟩, by omega, fun i hi => ⟨m, (hC i hi).2.choose, by omega, (hC i hi).2.choose_spec⟩⟩
    cases len with
    | zero => exact .inl rfl
    | succ len =>
      right
      obtain ⟨b, o, spot⟩ := a
      obtain ⟨l0, g0⟩ := cells_at (hC 0 (by omega)).1
      have hne : (C 0)[0]? = some ((C 0)[0]'(by omega)) := List.getElem?_eq_getElem (by omega)
      have h0 := g0 0 _ hne
      have hspot : spot = none := by
        have := World.cell?_spot h0
        simpa [Addr.add] using this
      subst hspot
      have hadd : ∀ i, (⟨b, o, none⟩ : Addr).add i = ⟨b, o + i, none⟩ := fun i => by unfold Addr.add; split <;> simp_all
      refine ⟨b, o, rfl, ?_, fun i cs hi j u hu => ?_⟩
      · have := World.block_lt_of_cell? W _ h0
        simpa [hadd] using this
      · rw [List.getElem?_map, Option.map_eq_some_iff] at hi
        obtain ⟨i', hi', rfl⟩ := hi
        obtain ⟨hlt, he⟩ := List.getElem?_eq_some_iff.1 hi'
        rw [List.getElem_range] at he
        subst he
        have := (cells_at (hC i (by simpa using hlt)).1).2 j u hu
        rw [Go.Deep.add_add] at this
        rw [hadd] at this
        exact this

set_option maxRecDepth 100000 in
theorem head_open {W : World} {n : Nat} {cs : List Value} {x : DataW H × List MemPlace} (h : DataW.trod enc Tryz.prog W 0 (fun _ => true) true n 127 cs = some x) : ∃ hd : Hd, cs = hdC hd ∧ hd.1.length ≤ maxLen ∧ hd.2.length ≤ maxLen := by
  obtain ⟨y0, y1, m, rfl, hl, t0, t1⟩ := trod_struct2 Tryz.underlying127 h
  rw [cellsHead] at hl
  match cs, hl with
  | [c0, c1], _ =>
    simp only [cellsStr, List.drop, List.take] at t0 t1
    obtain ⟨s0, h0, rfl, w0⟩ := DataW.trod_string Tryz.underlying9 t0
    obtain ⟨s1, h1, rfl, w1⟩ := DataW.trod_string Tryz.underlying9 t1
    simp only [List.cons.injEq, and_true] at h0 h1
    subst h0
    subst h1
    obtain ⟨⟨l0⟩⟩ := s0
    obtain ⟨⟨l1⟩⟩ := s1
    exact ⟨(l0, l1), rfl, w0, w1⟩

set_option maxRecDepth 100000 in
set_option maxHeartbeats 1000000 in
theorem mail_open {W : World} (N : Nat) : ∀ (n : Nat), n ≤ N → ∀ (cs : List Value) (x : DataW H × List MemPlace), DataW.trod enc Tryz.prog W 0 (fun _ => true) true n 42 cs = some x → ∃ m, MlC W m cs := by
  induction N with
  | zero =>
    intro n hn cs x h
    obtain rfl : n = 0 := by omega
    simp [DataW.trod] at h
  | succ N ih =>
    intro n hn cs x h
    obtain ⟨y0, y1, y2, y3, y4, y5, y6, y7, y8, n', rfl, hl, t0, t1, t2, t3, t4, t5, t6, t7, t8⟩ := trod_struct9 Tryz.underlying42 h
    rw [cellsMail] at hl
    match cs, hl with
    | [c0, c1, c2, c3, c4, c5, c6, c7, c8], _ =>
      simp only [cellsStr, cellsInt, cellsMails, cellsHeads, List.drop, List.take] at t0 t1 t2 t3 t4 t5 t6 t7 t8
      obtain ⟨k1, h1, _, w1⟩ := DataW.trod_int Tryz.underlying3 t1
      obtain ⟨s2, h2, _, w2⟩ := DataW.trod_string Tryz.underlying9 t2
      obtain ⟨s3, h3, _, w3⟩ := DataW.trod_string Tryz.underlying9 t3
      obtain ⟨s4, h4, _, w4⟩ := DataW.trod_string Tryz.underlying9 t4
      obtain ⟨s5, h5, _, w5⟩ := DataW.trod_string Tryz.underlying9 t5
      obtain ⟨s6, h6, _, w6⟩ := DataW.trod_string Tryz.underlying9 t6
      obtain ⟨s7, h7, _, w7⟩ := DataW.trod_string Tryz.underlying9 t7
      simp only [List.cons.injEq, and_true] at h1 h2 h3 h4 h5 h6 h7
      subst h1 h2 h3 h4 h5 h6 h7
      obtain ⟨⟨l2⟩⟩ := s2
      obtain ⟨⟨l3⟩⟩ := s3
      obtain ⟨⟨l4⟩⟩ := s4
      obtain ⟨⟨l5⟩⟩ := s5
      obtain ⟨⟨l6⟩⟩ := s6
      obtain ⟨⟨l7⟩⟩ := s7
      clear t1 t2 t3 t4 t5 t6 t7
      obtain ⟨len0, C0, r0, b0, e0⟩ := rows_open Tryz.underlying39 cellsHead (by decide) t0
      obtain ⟨len8, C8, r8, b8, e8⟩ := rows_open Tryz.underlying40 cellsMail (by decide) t8
      obtain ⟨F0, hF0⟩ := Go.Deep.choose_lt (n := len0) (p := fun i (hd : Hd) => C0 i = hdC hd ∧ hd.1.length ≤ maxLen ∧ hd.2.length ≤ maxLen) (fun i hi => by
        obtain ⟨m, y, _, hy⟩ := e0 i hi
        exact head_open hy)
      obtain ⟨F8, hF8⟩ := Go.Deep.choose_lt (n := len8) (p := fun i (m : Ml) => MlC W m (C8 i)) (fun i hi => by
        obtain ⟨m, y, hm, hy⟩ := e8 i hi
        exact ih m (by omega) _ _ hy)
      refine ⟨.mk ((List.range len0).map F0) k1 l2 l3 l4 l5 l6 l7 ((List.range len8).map F8), ?_⟩
      rw [MlC_eq]
      refine ⟨⟨fun h hh => ?_, by simpa using b0, w1, w2, w3, w4, w5, w6, w7⟩, c0, c8, rfl, ?_, (List.range len8).map C8, ?_, r8⟩
      · obtain ⟨i, hi, rfl⟩ := List.mem_map.1 hh
        exact (hF0 i (by simpa using hi)).2
      · have e : ((List.range len0).map F0).map hdC = (List.range len0).map C0 := by
          rw [List.map_map]
          refine List.map_congr_left fun i hi => ?_
          exact (hF0 i (by simpa using hi)).1.symm
        rw [e]
        exact r0
      · refine mlsC_of _ _ (by simp) fun i m c h1 h2 => ?_
        rw [List.getElem?_map, Option.map_eq_some_iff] at h1 h2
        obtain ⟨i1, g1, rfl⟩ := h1
        obtain ⟨i2, g2, rfl⟩ := h2
        rw [g1] at g2
        injection g2 with g2
        subst g2
        have := List.mem_of_getElem? g1
        exact hF8 i1 (by simpa using this)

set_option maxRecDepth 100000 in
/-- The argument, opened. -/
theorem mail_in {W : World} {v : Value} {d : DataW H} {ps : List MemPlace} (hval : Value.okWide Tryz.prog W .any 0 42 v) (h : DataW.Trod enc Tryz.prog W 0 (fun _ => true) true 42 v d ps) : ∃ m cs, v = .agg cs ∧ MlC W m cs.toList := by
  obtain ⟨cs, rfl, hsz⟩ := okWide_struct Tryz.underlying42 hval
  obtain ⟨fuel, hf⟩ := h
  have hf' : DataW.trod enc Tryz.prog W 0 (fun _ => true) true fuel 42 cs.toList = some (d, ps) := hf
  obtain ⟨m, hm⟩ := mail_open fuel fuel (Nat.le_refl _) _ _ hf'
  exact ⟨m, cs, rfl, hm⟩
end
end Go.Proofs.YtjbbapodcngnaaaGreatDoor
