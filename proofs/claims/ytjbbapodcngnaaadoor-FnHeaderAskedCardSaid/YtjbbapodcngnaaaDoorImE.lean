/- impl.HeaderOf. -/
import Derived.Test.YtjbbapodcngnaaaDoorImD
namespace Go.Proofs.YtjbbapodcngnaaaDoor
open Go.RowKit Hdr

theorem HMap.up {S : Nat → Prop} {w w' : World} {lo : Nat} {m : Option Nat} {fs : List Fd} (h : HMap w lo m fs) (k : Keeps S w w') (hS : ∀ x, S x → w.heap.size ≤ x) : HMap w' lo m fs := by
  rcases h with ⟨h1, h2⟩ | ⟨mb, gs, h1, h2, h3, h4⟩
  · exact .inl ⟨h1, h2⟩
  · refine .inr ⟨mb, gs, h1, h2, h3.keep k (fun h => by have := hS _ h; have := h3.lt; omega), ?_⟩
    exact h4.keep k (fun x hx b hb h => by
      have := ((h4.own x hx).lt b hb).2
      have := hS _ h
      omega)
theorem HdrAt.up {S : Nat → Prop} {w w' : World} {lo : Nat} {hv : Value} {fs : List Fd} (h : HdrAt w lo hv fs) (k : Keeps S w w') (hS : ∀ x, S x → w.heap.size ≤ x) : HdrAt w' lo hv fs := by
  obtain ⟨lb, cap, m, h1, h2, h3, h4, h5, h6⟩ := h
  exact ⟨lb, cap, m, h1, h2, h3, h4.keep k (fun h => by have := hS _ h; have := h4.ptrs.lt; omega), h5.up k hS, (h6.keep k (fun x h => .inr (hS x h))).mono k.size⟩

theorem ownsRow_mono {w : World} {base base' : Nat} {e : TypeId} {size : Nat} {v : Value} {n : Nat} {xs : List Value} (h : w.ownsRow base' e size v n xs) (hb : base ≤ base') : w.ownsRow base e size v n xs := by
  obtain ⟨h3, h4⟩ := h
  refine ⟨h3, ?_⟩
  rcases h4 with h4 | ⟨g, c, cur, h5, h6, h7⟩
  · exact .inl h4
  · exact .inr ⟨g, c, cur, h5, by omega, h7⟩

/-- What HeaderOf leaves. -/
def HoPost (l : List UInt8) (r : Option (List PF × List UInt8)) (w : World) (e : Ending) (w' : World) : Prop :=
  Keeps No w w' ∧
  match r with
  | none => e = .returned (.tuple #[.slice none 0 0, .int .i64 0, .bool false])
  | some (ps, c) => ∃ v, e = .returned (.tuple #[v, .int .i64 ((l.length : Int) - c.length), .bool true]) ∧ w'.ownsRow w.heap.size 28 3 v ps.length (hfs ps)

set_option maxRecDepth 100000 in
set_option maxHeartbeats 1000000 in
theorem headerOf_any (l : List UInt8) (ea : Addr) (w : World) (hs : Short l) (hlen : l.length ≤ 100000) {N : Nat} (L : Laid N ea w) (hN : N ≤ w.heap.size) (hr : ∀ ps c, rhd l = some (ps, c) → ps.length ≤ 100000 ∧ c.length ≤ l.length) :
    Calls Tryd.prog 9 #[str l] w (HoPost l (rhd l) w) := by
  have H := headed_any l ea w hs (by omega) L hN
  generalize rhd l = r at *
  have HR := Lib.hid hr
  clear hr hs L
  have hls : (⟨l.toArray⟩ : ByteArray).size = l.length := by show l.toArray.size = _; simp
  unfold str at *
  go_enter Tryd.func9, Tryd.ntmps9
  go_wp2_with (fail)
  refine H.mono ?_
  rintro e w1 ⟨K, hpost⟩
  cases r with
  | none =>
    obtain ⟨xa, xn, xc, ym, k, rfl⟩ := hpost
    clear H
    go_wp2
    go_ret3
    exact ⟨K.alloc _, rfl⟩
  | some pc =>
    obtain ⟨ps, c⟩ := pc
    obtain ⟨hv, fs, rfl, hh, ht⟩ := hpost
    obtain ⟨hpl, hcl⟩ := HR.out ps c rfl
    clear H HR
    have HH := Lib.hid hh
    obtain ⟨lb, cap, m, rfl, hh2⟩ := hh
    clear hh2
    go_wp2_with (fail)
    have kA : Keeps No w1 (w1.alloc (.cells #[.slice (some ⟨lb, 0, none⟩) fs.length cap, .map m] 45)) := (Keeps.refl No w1).alloc _
    refine (fieldsOf_any w.heap.size _ fs ps _ (HH.out.up kA (fun x h => h.elim)) ht (by rw [ht.length]; exact hpl)).mono ?_
    rintro e w2 ⟨v, rfl, hrow, K2⟩
    have hsum : IntKind.i64.wrap ((l.length : Int) - (c.length : Int)) = (l.length : Int) - c.length := by rw [IntKind.wrap_i64]; omega
    have HROW := Lib.hid hrow
    clear hrow
    go_wp2
    go_ret3
    refine ⟨K.trans' (kA.trans' K2), v, rfl, ownsRow_mono HROW.out ?_⟩
    have := K.size
    simp
    omega
end Go.Proofs.YtjbbapodcngnaaaDoor
