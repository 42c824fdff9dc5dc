/- The law FnHeaderOf answers true. -/
import Derived.Test.YtjbbapodcngnaaaDoorSpI
namespace Go.Proofs.YtjbbapodcngnaaaDoor
open Go.RowKit Hdr

/-- What a law leaves. -/
def TruePost (w : World) (e : Ending) (w' : World) : Prop := e = .returned (.bool true) ∧ Keeps No w w'

set_option maxRecDepth 100000 in
set_option maxHeartbeats 2000000 in
theorem fnHeaderOf_true (l : List UInt8) (ea : Addr) (w : World) {N : Nat} (L : Laid N ea w) (hN : N ≤ w.heap.size) :
    Calls Tryd.prog 4 #[str l] w (TruePost w) := by
  have hls := str_len l
  by_cases h1 : 2147483647 < l.length
  · have e1 : decide (2147483647 < l.length) = true := decide_eq_true h1
    have e2 : decide ((2147483647 : Int) < (l.length : Int)) = true := decide_eq_true (by omega)
    clear L
    go_enter Tryd.func4, Tryd.ntmps4
    go_wp2
    go_ret
    exact ⟨rfl, Keeps.refl _ _⟩
  by_cases h2 : 2000 < l.length
  · have e2 : decide ((2000 : Int) < (l.length : Int)) = true := decide_eq_true (by omega)
    clear L
    go_enter Tryd.func4, Tryd.ntmps4
    go_wp2
    go_ret
    exact ⟨rfl, Keeps.refl _ _⟩
  have hl2 : l.length ≤ 2000 := by omega
  clear h1 h2
  have hlaw := h9_rhd l
  have HS := specHeaderOf_any l w (by omega)
  have HL := Lib.hid L
  clear L
  have hshort := short_of_len (c := l) (by omega)
  have hIm : ∀ w1, Keeps No w w1 → Calls Tryd.prog 9 #[str l] w1 (HoPost l (rhd l) w1) := fun w1 k =>
    headerOf_any l ea w1 hshort (by omega) (HL.out.keep_no k) (Nat.le_trans hN k.size) (fun ps c h => by have := rhd_len h; omega)
  have hAB : ∀ w1, Keeps No w w1 → Calls Tryd.prog 9 #[.string ⟨#[65, 58, 32, 98, 13, 10, 13, 10]⟩] w1 (fun e w2 => ∃ v k, e = .returned (.tuple #[v, .int .i64 k, .bool true]) ∧ Keeps No w1 w2) := fun w1 k => by
    obtain ⟨ps, hps⟩ := rhd_ab
    refine (headerOf_any [65, 58, 32, 98, 13, 10, 13, 10] ea w1 (short_of_len (by decide)) (by decide) (HL.out.keep_no k) (Nat.le_trans hN k.size) (fun ps c h => by have := rhd_len h; simp only [List.length_cons, List.length_nil] at this ⊢; omega)).mono ?_
    rintro e w2 ⟨K, h⟩
    rw [hps] at h
    obtain ⟨v, rfl, _⟩ := h
    exact ⟨v, _, rfl, K⟩
  have HIM := Lib.hid hIm
  have HAB := Lib.hid hAB
  have hlen : ∀ ps c, rhd l = some (ps, c) → ps.length + c.length ≤ l.length := fun ps c h => rhd_len h
  generalize h9 l = r at *
  generalize rhd l = p at *
  obtain ⟨fs, taken, ok, sure⟩ := r
  have HSS := Lib.hid HS
  have HLAW := Lib.hid hlaw
  have HLEN := Lib.hid hlen
  clear HS hlaw hIm hAB hlen hshort
  go_enter Tryd.func4, Tryd.ntmps4
  go_wp2_with (fail)
  refine HSS.out.mono ?_
  rintro e w1 ⟨v, rfl, hrow, K, hn⟩
  simp only at hrow hn
  have HROW := Lib.hid hrow
  obtain ⟨va, vc, rfl⟩ := ownsRow_shape hrow
  clear hrow
  cases sure with
  | false =>
    go_wp2
    go_ret
    exact ⟨rfl, K⟩
  | true =>
    go_wp2_with (fail)
    refine (HIM.out _ K).mono ?_
    rintro e w2 ⟨K2, hpost⟩
    have hlw := HLAW.out (by trivial)
    cases p with
    | none =>
      have hok : ok = false := hlw.1 rfl
      subst hok
      subst hpost
      go_wp2_with (fail)
      refine (HAB.out _ (K.trans' K2)).mono ?_
      rintro e w3 ⟨v3, k3, rfl, K3⟩
      go_wp2
      go_ret
      exact ⟨rfl, (K.trans' K2).trans' K3⟩
    | some pc =>
      obtain ⟨ps, c⟩ := pc
      obtain ⟨hok, hfs, htk⟩ := hlw.2 ps c rfl
      try simp only at hok hfs htk
      subst hok
      subst hfs
      subst htk
      obtain ⟨v2, rfl, hrow2⟩ := hpost
      have hc := HLEN.out _ _ rfl
      have hR1 := Row3.of_row HROW.out
      have hR1' := hR1.keep K2 (fun b hb h => h)
      have hR2 := Row3.of_row hrow2
      have HSAME := Lib.hid (sameHFields_any fs fs _ _ w2 hR2 hR1' hn hn)
      obtain ⟨va2, vc2, rfl⟩ := ownsRow_shape hrow2
      have e1 : (l.length : Int) - (c.length : Int) = ((l.length - c.length : Nat) : Int) := by omega
      have HE := Lib.hid e1
      clear hrow2 hR1 hR1' hR2 hlw e1
      rw [HE.out]
      go_wp2_with (fail)
      refine HSAME.out.mono ?_
      rintro e w3 ⟨t, rfl, ht, m, rfl⟩
      have : t = true := ht.2 (by trivial)
      subst this
      go_wp2
      go_ret
      exact ⟨rfl, (K.trans' K2).drewN _⟩
end Go.Proofs.YtjbbapodcngnaaaDoor
