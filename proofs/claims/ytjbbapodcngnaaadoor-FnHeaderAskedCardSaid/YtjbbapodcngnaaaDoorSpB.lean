/- spec: trim9. -/
import Derived.Test.YtjbbapodcngnaaaDoorSpA
namespace Go.Proofs.YtjbbapodcngnaaaDoor
open Go.RowKit Hdr

theorem str_cut (l : List UInt8) (i j : Nat) : (⟨l.toArray⟩ : ByteArray).extract i j = ⟨((l.drop i).take (j - i)).toArray⟩ := by
  apply ByteArray.ext
  apply Array.toList_inj.1
  rw [extract_mid]
theorem str_len (l : List UInt8) : (⟨l.toArray⟩ : ByteArray).size = l.length := by show l.toArray.size = _; simp

/-- What trim9 leaves. -/
def T9Post (l : List UInt8) (w : World) (e : Ending) (w' : World) : Prop := e = .returned (str (trim l)) ∧ w' = w

set_option maxRecDepth 100000 in
set_option maxHeartbeats 1000000 in
theorem trim9_any (l : List UInt8) (w : World) (hlen : l.length ≤ 1000000000) :
    Calls Tryd.prog 30 #[str l] w (T9Post l w) := by
  go_enter Tryd.func30, Tryd.ntmps30
  go_upto_block 0 with (fail)
  go_cut [0] (fun s0 wx => s0 = str (trimL l) ∧ w = wx)
  case first =>
    go_wp2
    go_loopg [0] l.length (fun n s0 wr => ∃ c, s0 = str c ∧ n = c.length ∧ c.length ≤ l.length ∧ trimL c = trimL l ∧ w = wr)
    case atStart => exact ⟨l, rfl, rfl, Nat.le_refl _, rfl, rfl⟩
    case round =>
      obtain ⟨c, rfl, hn, hcl, ht, rfl⟩ := hrel
      have HN := Lib.hid hn
      have HT := Lib.hid ht
      clear hn ht
      cases c with
      | nil =>
        go_wp2
        go_meet
        exact ⟨by rw [← HT.out]; rfl, rfl⟩
      | cons x r =>
        have hx := str_get (x :: r) 0 (by simp)
        have hr := str_cut (x :: r) 1 (r.length + 1)
        have hl := str_len (x :: r)
        simp only [List.getElem_cons_zero, List.drop_succ_cons, List.drop_zero, Nat.add_sub_cancel, List.take_length, List.length_cons] at hx hr hl
        have HR := Lib.hid hr
        clear hr
        go_wp2_with (fail)
        refine (isBlank9_any x w).mono ?_
        rintro e w1 ⟨rfl, rfl⟩
        have hr := HR.out
        cases hsp : sp x with
        | true =>
          have HSP := Lib.hid hsp
          clear hsp
          go_wp2
          go_roundg r.length
          case measure => have := HN.out; simp at this; omega
          case rel =>
            refine ⟨r, rfl, rfl, by simp at hcl; omega, ?_, rfl⟩
            have h1 := HT.out
            unfold trimL at h1
            rw [List.dropWhile_cons, if_pos HSP.out] at h1
            exact h1
        | false =>
          have HSP := Lib.hid hsp
          clear hsp
          go_wp2
          go_meet
          refine ⟨?_, rfl⟩
          have h1 := HT.out
          unfold trimL at h1
          rw [List.dropWhile_cons, if_neg (by rw [HSP.out]; decide)] at h1
          unfold trimL
          rw [← h1]
  case rest =>
    obtain ⟨rfl, rfl⟩ := hcut
    have hll := trimL_len l
    have htr : trim l = trimR (trimL l) := rfl
    generalize htt : trimL l = t at *
    have HTR := Lib.hid htr
    clear htt htr
    go_upto_block 2 with (fail)
    go_cut [0] (fun s0 wx => s0 = str (trimR t) ∧ w = wx)
    case first =>
      go_wp2
      go_loopg [0] t.length (fun n s0 wr => ∃ c, s0 = str c ∧ n = c.length ∧ c.length ≤ t.length ∧ trimR c = trimR t ∧ w = wr)
      case atStart => exact ⟨t, rfl, rfl, Nat.le_refl _, rfl, rfl⟩
      case round =>
        obtain ⟨c, rfl, hn, hcl, ht, rfl⟩ := hrel
        have HN := Lib.hid hn
        have HT := Lib.hid ht
        clear hn ht
        rcases nil_or_snoc c with rfl | ⟨r, x, hc⟩
        · go_wp2
          go_meet
          exact ⟨by rw [← HT.out]; rfl, rfl⟩
        · have hlc : c.length = r.length + 1 := by rw [hc]; simp
          have hx : (⟨c.toArray⟩ : ByteArray)[r.length]'(by show r.length < c.toArray.size; simp; omega) = x := by
            subst hc
            rw [str_get _ _ (by simp)]
            simp
          have hr : (⟨c.toArray⟩ : ByteArray).extract 0 r.length = ⟨r.toArray⟩ := by
            rw [str_cut, hc]
            simp [List.take_left']
          have hl : (⟨c.toArray⟩ : ByteArray).size = r.length + 1 := by rw [str_len, hlc]
          have hemp : c.isEmpty = false := by rw [hc]; cases r <;> rfl
          have hcl2 : r.length ≤ 1000000000 := by omega
          have e1 : IntKind.i64.wrap (((r.length + 1 : Nat) : Int) - 1) = (r.length : Int) := by rw [IntKind.wrap_i64]; omega
          have e2 : (((r.length + 1 : Nat) : Int) - 1) = (r.length : Int) := by omega
          have HR := Lib.hid hr
          have HCC := Lib.hid hc
          have HLC := Lib.hid hlc
          have hlt : r.length < c.length := by omega
          have hx2 : (⟨c.toArray⟩ : ByteArray)[r.length]'(by show r.length < c.toArray.size; simpa using hlt) = x := hx
          clear hx hr hc
          clear hlc
          go_wp2_with (fail)
          refine (isBlank9_any x w).mono ?_
          rintro e w1 ⟨rfl, rfl⟩
          have hr := HR.out
          cases hsp : sp x with
          | true =>
            have HSP := Lib.hid hsp
            clear hsp
            go_wp2
            go_roundg r.length
            case measure => have := HN.out; have := HLC.out; omega
            case rel =>
              refine ⟨r, rfl, rfl, by have := HLC.out; omega, ?_, rfl⟩
              have h1 := HT.out
              rw [HCC.out, trimR_snoc, if_pos HSP.out] at h1
              exact h1
          | false =>
            have HSP := Lib.hid hsp
            clear hsp
            go_wp2
            go_meet
            refine ⟨?_, rfl⟩
            have h1 := HT.out
            rw [HCC.out, trimR_snoc, if_neg (by rw [HSP.out]; decide), ← HCC.out] at h1
            rw [← h1]
    case rest =>
      obtain ⟨rfl, rfl⟩ := hcut
      go_wp2
      go_ret
      exact ⟨by rw [HTR.out]; rfl, rfl⟩
end Go.Proofs.YtjbbapodcngnaaaDoor
