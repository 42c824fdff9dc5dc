import Derived.Test.YtjbbapodcngnaaaDoorBufC
import Derived.Lib.BytesEntry
import Derived.Test.YtjbbapodcngnaaaDoorHdr
namespace Go.Proofs.YtjbbapodcngnaaaDoor
open Go.RowKit Hdr

/-! ### bytes.IndexByte -/
theorem ixb_none {l : List UInt8} {c : UInt8} (h : c ∉ l) : Lib.indexByte l c = -1 := by
  induction l with
  | nil => rfl
  | cons x l ih =>
    simp only [List.mem_cons, not_or] at h
    have hx : (x == c) = false := by simpa using (fun e => h.1 e.symm)
    simp [Lib.indexByte, hx, ih h.2]
theorem ixb_some {l m : List UInt8} {c : UInt8} (h : c ∉ l) : Lib.indexByte (l ++ c :: m) c = l.length := by
  induction l with
  | nil => simp [Lib.indexByte]
  | cons x l ih =>
    simp only [List.mem_cons, not_or] at h
    have hx : (x == c) = false := by simpa using (fun e => h.1 e.symm)
    have h1 : ((l.length : Int) == -1) = false := by simp
    simp [Lib.indexByte, hx, ih h.2, h1]

theorem bytesOf_u8 (l : List UInt8) : Lib.bytesOf (l.map fun c => (c.toNat : Int)) = l := by
  simp only [Lib.bytesOf, List.map_map]
  rw [List.map_congr_left (g := id)]
  · simp
  · intro c _; simp

theorem getD_u8 (l : List UInt8) (i : Nat) (h : i < l.length) : (l.map fun c => (c.toNat : Int)).getD i 0 = (l[i].toNat : Int) := by
  simp [List.getD_eq_getElem?_getD, h]

set_option maxRecDepth 100000 in
theorem indexByte_any (b o cap : Nat) (l : List UInt8) (c : UInt8) (w : World) (h : BytesAt w b o l) :
    Calls Tryd.prog 48 #[.slice (some ⟨b, o, none⟩) l.length cap, .int .u8 c.toNat] w fun e w' => e = .returned (.int .i64 (Lib.indexByte l c)) ∧ w' = w := by
  have hr := Lib.run_indexByteSlice (P := Tryd.prog) w b o l.length cap (l.map fun c => (c.toNat : Int)) (by simp) (fun i hi => by rw [getD_u8 l i hi]; exact h.cell hi) c.toNat
  rw [bytesOf_u8] at hr
  simp only [Int.toNat_natCast, Nat.toUInt8_eq, UInt8.ofNat_toNat] at hr
  go_enter Tryd.func48, Tryd.ntmps48
  go_wp2
  rw [run_callFunc_extern Tryd.func60 (by kernel_rfl) (by kernel_rfl) (by kernel_rfl) (e := Extern.BytealgIndexByte.indexByte) (by kernel_rfl), hr]
  simp only [Result.andThen]
  rw [Oper.upon_value]
  go_wp2
  go_ret
  exact ⟨rfl, rfl⟩

/-! ### blanks -/
theorem isSpace_any (c : UInt8) (w : World) :
    Calls Tryd.prog 44 #[.int .u8 c.toNat] w fun e w' => e = .returned (.bool (sp c)) ∧ w' = w := by
  by_cases h1 : c = 32
  · subst h1
    have e : ((32 : UInt8).toNat : Int) = 32 := rfl
    rw [e]
    go_enter Tryd.func44, Tryd.ntmps44
    go_wp2
    go_ret
    exact ⟨rfl, rfl⟩
  · by_cases h2 : c = 9
    · subst h2
      have e : ((9 : UInt8).toNat : Int) = 9 := rfl
      rw [e]
      go_enter Tryd.func44, Tryd.ntmps44
      go_wp2
      go_ret
      exact ⟨rfl, rfl⟩
    · have g : sp c = false := by simp [sp, h1, h2]
      have h1' : c.toNat ≠ 32 := fun e => h1 (UInt8.toNat.inj e)
      have h2' : c.toNat ≠ 9 := fun e => h2 (UInt8.toNat.inj e)
      have e1 : ((c.toNat : Int) == 32) = false := by simp; omega
      have e2 : ((c.toNat : Int) == 9) = false := by simp; omega
      have G := Lib.hid g
      clear g
      go_enter Tryd.func44, Tryd.ntmps44
      go_wp2
      go_ret
      exact ⟨by rw [G.out]; rfl, rfl⟩

/-! ### UnreadByte, hasContinuationLine -/
set_option maxRecDepth 100000 in
theorem unreadByte_any (b g s r q i : Nat) (src : ByteArray) (lr p : Int) (data : List UInt8) (c : UInt8) (w : World) (h : RdD w b g s src (r + 1) q i .nilIface c.toNat lr p data) (hc : data[r]? = some c) :
    Calls Tryd.prog 67 #[.pointer (some ⟨b, 0, none⟩)] w fun e w' => e = .returned .nilIface ∧ RdD w' b g s src r q i .nilIface (-1) (-1) p data ∧ Keeps (In [b, g, s]) w w' := by
  obtain ⟨h0, h2, h3, h4, h5, h6⟩ := h.cells
  have fz := h.B.frozen
  have fg := h.G.frozen
  have hq := h.hq
  have hrq := h.hrq
  have hbg := h.bg
  have hr4 : r < 4096 := by omega
  have hx := h.at_ r hr4
  have hcc : data[r]'(by rw [h.hd]; exact hr4) = c := by
    rw [List.getElem?_eq_getElem (by rw [h.hd]; exact hr4)] at hc; exact Option.some.inj hc
  rw [hcc] at hx
  unfold byt at hx
  have H := Lib.hid h
  have HC := Lib.hid hc
  have b1 : (r : Int) < 4096 := by omega
  have b0 : (0 : Int) ≤ (c.toNat : Int) := by omega
  have e0 : decide ((c.toNat : Int) < 0) = false := by simp
  have e1 : (((r : Int) + 1) == 0) = false := by simp; omega
  have e2 : decide ((0 : Int) < (r : Int) + 1) = true := decide_eq_true (by omega)
  have e4 : (c.toNat : Int) < 256 := by have := c.toNat_lt; omega
  have e3 : ((r + 1 : Nat) : Int) = (r : Int) + 1 := by omega
  rw [e3] at h2
  clear h hcc hc e3
  go_enter Tryd.func67, Tryd.ntmps67
  go_wp2
  refine region_mid 14 (by kernel_rfl) (by kernel_rfl) ?_
  simp only [List.take_succ_cons, List.take_zero, List.drop_succ_cons, List.drop_zero]
  repeat (quiet_step (fail))
  refine wpQuiet_nil ?_
  intro wq hwq
  obtain ⟨nq, rfl⟩ := hwq
  go_wp2
  go_ret
  have hH := H.out
  refine ⟨rfl, ⟨hH.hd, by omega, hq, hH.hi, ?_, ?_, ?_⟩, (by repeat (first | assumption | exact Keeps.refl _ _ | apply Keeps.drewN | apply Keeps.drew | apply Keeps.alloc | (refine Keeps.setCell ?_ (.inl (by simp [In])) _)))⟩
  · exact ((((hH.B.set 2 _).drewN _).set_other (Ne.symm hbg) _).set 5 _).set 6 _
  · exact (((((hH.G.set_other hbg _).drewN nq).set_same (by rw [u8s_get, HC.out]; rfl)).set_other hbg _).set_other hbg _)
  · have h1 := hH.bs
    have h2 := hH.sg
    exact (((((hH.S.set_other h1 _).drewN _).set_other (Ne.symm h2) _).set_other h1 _).set_other h1 _)

/-- A bufio.Reader at block b; c is still to be read. -/
def Rd (w : World) (b g s : Nat) (src : ByteArray) (c : List UInt8) : Prop :=
  ∃ (r q i : Nat) (lb lr p : Int) (data : List UInt8), RdD w b g s src r q i .nilIface lb lr p data ∧ rest src r q i data = c

theorem Rd.drewN {w : World} {b g s : Nat} {src : ByteArray} {c : List UInt8} (h : Rd w b g s src c) (n : Nat) : Rd (w.drewN n) b g s src c := by
  obtain ⟨r, q, i, lb, lr, p, data, h, hr⟩ := h
  exact ⟨r, q, i, lb, lr, p, data, h.drewN n, hr⟩
theorem Rd.keep {w w' : World} {b g s : Nat} {src : ByteArray} {c : List UInt8} {S : Nat → Prop} (h : Rd w b g s src c) (k : Keeps S w w') (hb : ¬ S b) (hg : ¬ S g) (hs : ¬ S s) : Rd w' b g s src c := by
  obtain ⟨r, q, i, lb, lr, p, data, h, hr⟩ := h
  exact ⟨r, q, i, lb, lr, p, data, ⟨h.hd, h.hrq, h.hq, h.hi, h.B.keep k hb, h.G.keep k hg, h.S.keep k hs⟩, hr⟩

set_option maxRecDepth 100000 in
theorem hasCont_none (b g s : Nat) (src : ByteArray) (ea : Addr) (w : World) (h : Rd w b g s src []) {N : Nat} (E : Env N b g s src ea w) :
    Calls Tryd.prog 59 #[.pointer (some ⟨b, 0, none⟩)] w fun e w' => e = .returned (.bool false) ∧ Rd w' b g s src [] ∧ Keeps (In [b, g, s]) w w' := by
  obtain ⟨r, q, i, lb, lr, p, data, h, hr⟩ := h
  have H := readByte_none b g s r q i src ea lb lr p data w h E hr
  clear h hr E
  go_enter Tryd.func59, Tryd.ntmps59
  go_wp2_with (fail)
  refine H.mono ?_
  rintro e w1 ⟨rfl, r', q', i', p', data', R, hr, K⟩
  have HR := Lib.hid hr
  clear hr
  go_wp2
  go_ret
  exact ⟨rfl, ⟨r', q', i', lb, -1, p', data', R, HR.out⟩, K⟩

set_option maxRecDepth 100000 in
theorem hasCont_some (b g s : Nat) (src : ByteArray) (ea : Addr) (w : World) (x : UInt8) (c : List UInt8) (h : Rd w b g s src (x :: c)) {N : Nat} (E : Env N b g s src ea w) :
    Calls Tryd.prog 59 #[.pointer (some ⟨b, 0, none⟩)] w fun e w' => e = .returned (.bool (sp x)) ∧ Rd w' b g s src (x :: c) ∧ Keeps (In [b, g, s]) w w' := by
  obtain ⟨r, q, i, lb, lr, p, data, h, hr⟩ := h
  have H := readByte_some b g s r q i src ea lb lr p data w h E x c hr
  clear h hr E
  go_enter Tryd.func59, Tryd.ntmps59
  go_wp2_with (fail)
  refine H.mono ?_
  rintro e w1 ⟨rfl, r', q', i', p', data', R, hr, hx, K⟩
  have HR := Lib.hid hr
  have HX := Lib.hid hx
  clear hr hx
  go_wp2_with (fail)
  refine (unreadByte_any b g s r' q' i' src (-1) p' data' x w1 R HX.out).mono ?_
  rintro e w2 ⟨rfl, R2, K2⟩
  go_wp2_with (fail)
  refine (isSpace_any x _).mono ?_
  rintro e w3 ⟨rfl, rfl⟩
  go_wp2
  go_ret
  refine ⟨rfl, ⟨r', q', i', -1, -1, p', data', R2, ?_⟩, K.trans' K2⟩
  rw [rest_cons R2.hd (by have := R.hrq; omega) R2.hq, HR.out]
  congr 1
  have := HX.out
  rw [List.getElem?_eq_getElem (by rw [R2.hd]; have := R.hrq; have := R.hq; omega)] at this
  exact Option.some.inj this

/-- hasContinuationLine: does the next line begin with a blank? Nothing is taken. -/
theorem hasCont (b g s : Nat) (src : ByteArray) (ea : Addr) (w : World) (c : List UInt8) (h : Rd w b g s src c) {N : Nat} (E : Env N b g s src ea w) :
    Calls Tryd.prog 59 #[.pointer (some ⟨b, 0, none⟩)] w fun e w' => e = .returned (.bool (spHead c)) ∧ Rd w' b g s src c ∧ Keeps (In [b, g, s]) w w' := by
  cases c with
  | nil => exact hasCont_none b g s src ea w h E
  | cons x c => exact hasCont_some b g s src ea w x c h E
end Go.Proofs.YtjbbapodcngnaaaDoor
