/- writeContinued, trimAroundNewlines. -/
import Derived.Test.YtjbbapodcngnaaaDoorTpD
namespace Go.Proofs.YtjbbapodcngnaaaDoor
open Go.RowKit Hdr

theorem BytesAt.below {B : Nat} {w w' : World} {b o : Nat} {l : List UInt8} (h : BytesAt w b o l) (k : Below B w w') (hb : b < B) : BytesAt w' b o l := by
  obtain ⟨cs, t, f, h, h2⟩ := h
  exact ⟨cs, t, f, (k.block b hb).trans h, h2⟩
theorem BytesAt.below_back {B : Nat} {w w' : World} {b o : Nat} {l : List UInt8} (h : BytesAt w' b o l) (k : Below B w w') (hb : b < B) : BytesAt w b o l := by
  obtain ⟨cs, t, f, h, h2⟩ := h
  exact ⟨cs, t, f, (k.block b hb).symm.trans h, h2⟩
theorem BytesAt.take {w : World} {b o : Nat} {l : List UInt8} (h : BytesAt w b o l) (n : Nat) : BytesAt w b o (l.take n) := by
  have := h.sub 0 n
  rwa [List.drop_zero, Nat.add_zero] at this

theorem bd_len (B b : Nat) (l : List UInt8) (w : World) (h : Bd B b l w) :
    Calls Tryd.prog 70 #[.pointer (some ⟨b, 0, none⟩)] w fun e w' => e = .returned (.int .i64 l.length) ∧ w' = w := by
  refine (Tryd.Builder_Len B b (u8s l) w h).mono ?_
  rintro e w' ⟨rfl, rfl⟩
  exact ⟨by rw [u8s_length], rfl⟩

/-- The value of some lines. -/
def WcPost (B b : Nat) (l : List UInt8) (w : World) (e : Ending) (w' : World) : Prop := e = .returned (.tuple #[]) ∧ Bd B b l w' ∧ Below B w w'

set_option maxRecDepth 100000 in
set_option maxHeartbeats 1000000 in
theorem writeContinued_any (B b : Nat) (a : List UInt8) (s o cap : Nat) (l : List UInt8) (len : Nat) (hn : len = l.length) (w : World) (hb : Bd B b a w) (h : BytesAt w s o l) (hcap : l.length ≤ cap) (hlen : l.length ≤ 1000000000000) (ha : a.length ≤ 1000000000000)
    (hs : s < B) (hBw : B ≤ w.heap.size) :
    Calls Tryd.prog 62 #[.pointer (some ⟨b, 0, none⟩), .slice (some ⟨s, o, none⟩) len cap] w (WcPost B b (join a l) w) := by
  have H := Lib.hid h
  have HN := Lib.hid hn
  have HB := Lib.hid hb
  have hlen2 : len ≤ 1000000000000 := by omega
  have hcap2 : len ≤ cap := by omega
  clear h hn hb
  go_enter Tryd.func62, Tryd.ntmps62
  go_upto_region 0 with (fail)
  go_cut [15] (fun s15 wx => ∃ t : Bool, s15 = .bool t ∧ (t = true ↔ l.getLast? = some 13) ∧ w = wx)
  case first =>
    rcases nil_or_snoc l with rfl | ⟨m, x, rfl⟩
    · have h0 : len = 0 := HN.out
      subst h0
      go_wp2
      go_meet
      exact ⟨false, rfl, by simp, rfl⟩
    · have hlm : len = m.length + 1 := by rw [HN.out]; simp
      have hx := H.out.cell (i := m.length) (by simp)
      simp only [List.getElem_concat_length] at hx
      unfold byt at hx
      have e1 : decide ((0 : Int) < (len : Int)) = true := decide_eq_true (by omega)
      have e2 : (len : Int) - 1 = (m.length : Int) := by omega
      have e3 : IntKind.i64.wrap ((len : Int) - 1) = (m.length : Int) := by rw [IntKind.wrap_i64]; omega
      have e4 : (m.length : Int) < (len : Int) := by omega
      have e5 : 0 < len := by omega
      have hd : ((x.toNat : Int) == 13) = decide ((m ++ [x]).getLast? = some 13) := by
        have h1 : ((x.toNat : Int) == 13) = decide (x = 13) := by
          rw [Bool.eq_iff_iff]
          simp only [beq_iff_eq, decide_eq_true_eq]
          constructor
          · intro h; apply UInt8.toNat.inj; show x.toNat = 13; omega
          · rintro rfl; rfl
        rw [h1]
        simp
      have HD := Lib.hid hd
      clear hd hlm
      go_wp2
      go_meet
      exact ⟨_, rfl, by rw [HD.out]; simp, rfl⟩
  case rest =>
    obtain ⟨t, rfl, ht, rfl⟩ := hcut
    go_upto_if 15 with (fail)
    go_cut [1] (fun s1 wx => s1 = .slice (some ⟨s, o, none⟩) (chomp l).length cap ∧ w = wx)
    case first =>
      have hcl := chomp_last l
      cases t with
      | true =>
        have hd := ht.1 rfl
        rw [if_pos hd] at hcl
        have e5 : 0 < len := by
          have := HN.out
          rcases Nat.eq_zero_or_pos len with h | h
          · have : l = [] := List.length_eq_zero_iff.1 (by omega)
            subst this
            cases hd
          · exact h
        have HL := Lib.hid hcl
        have e2 : (len : Int) - 1 = ((len - 1 : Nat) : Int) := by omega
        have e3 : IntKind.i64.wrap ((len : Int) - 1) = ((len - 1 : Nat) : Int) := by rw [IntKind.wrap_i64]; omega
        have e4 : ((len - 1 : Nat) : Int) ≤ (cap : Int) := by omega
        have e6 : (0 : Int) ≤ ((len - 1 : Nat) : Int) := by omega
        clear hd hcl ht
        go_wp2
        go_meet
        exact ⟨by rw [HL.out, ← HN.out], rfl⟩
      | false =>
        have hd : ¬ l.getLast? = some 13 := fun h => by cases ht.2 h
        rw [if_neg hd] at hcl
        have HL := Lib.hid hcl
        clear hd hcl ht
        go_wp2
        go_meet
        exact ⟨by rw [HL.out, ← HN.out], rfl⟩
    case rest =>
      obtain ⟨rfl, rfl⟩ := hcut
      have hcl := chomp_len l
      have hB : BytesAt w s o (chomp l) := by rw [chomp_take]; exact H.out.take _
      have hbl := bare_len l
      have hj := @join_nil a l
      have hj1 := @join_first l
      have hj2 := @join_more a l
      generalize hJ : join a l = J at *
      have HJ := Lib.hid hj
      have HJ1 := Lib.hid hj1
      have HJ2 := Lib.hid hj2
      clear hj hj1 hj2
      go_wp2_with (fail)
      refine (trim_any s o cap (chomp l) (chomp l).length rfl w hB (by omega) (by omega)).mono ?_
      rintro e w1 ⟨o', cap', rfl, hc', hB', rfl⟩
      change BytesAt w1 s o' (bare l) at hB'
      have hl' : (trim (chomp l)).length = (bare l).length := rfl
      rw [hl'] at hc' ⊢
      by_cases hb0 : bare l = []
      · have e1 : ((((bare l).length : Nat) : Int) == 0) = true := by rw [hb0]; rfl
        have e2 : (bare l).length = 0 := by rw [hb0]; rfl
        have HB0 := Lib.hid hb0
        clear hb0
        go_wp2
        refine bodyPost_ret (results_none rfl _ _ _) rfl ?_
        exact ⟨rfl, by rw [HJ.out HB0.out]; exact HB.out, Below.refl _ _⟩
      · have hlp : 0 < (bare l).length := List.length_pos_iff.2 hb0
        have e1 : ((((bare l).length : Nat) : Int) == 0) = false := by simp; omega
        have e1' : ((bare l).length == 0) = false := by simp; omega
        have HB0 := Lib.hid hb0
        clear hb0
        go_wp2_with (fail)
        refine (bd_len B b a _ HB.out).mono ?_
        rintro e w2 ⟨rfl, rfl⟩
        by_cases ha0 : a = []
        · subst ha0
          go_wp2_with (fail)
          refine (write_any B b [] ⟨s, o', none⟩ cap' (bare l) (bare l).length rfl _ HB.out (fun W k => (hB'.below k hs).cells) (by simp; omega) hBw).mono ?_
          rintro e w3 ⟨⟨v, rfl⟩, hb3, k3⟩
          rw [List.nil_append] at hb3
          have HB3 := Lib.hid hb3
          clear hb3
          go_wp2
          go_end0
          exact ⟨rfl, by rw [← hJ, HJ1.out HB0.out]; exact HB3.out, k3⟩
        · have hap : 0 < a.length := List.length_pos_iff.2 ha0
          have e4 : decide ((0 : Int) < ((a.length : Nat) : Int)) = true := decide_eq_true (by omega)
          have HA0 := Lib.hid ha0
          clear ha0
          go_wp2_with (fail)
          refine (writeByte_any B b a 32 _ HB.out (by omega) hBw).mono ?_
          rintro e w3 ⟨rfl, hb3, k3⟩
          have HB3 := Lib.hid hb3
          clear hb3
          go_wp2_with (fail)
          refine (write_any B b (a ++ [32]) ⟨s, o', none⟩ cap' (bare l) (bare l).length rfl _ HB3.out (fun W k => ((hB'.below k3 hs).below k hs).cells) (by simp; omega) (by have := k3.size; omega)).mono ?_
          rintro e w4 ⟨⟨v, rfl⟩, hb4, k4⟩
          have HB4 := Lib.hid hb4
          clear hb4
          go_wp2
          go_end0
          refine ⟨rfl, ?_, k3.trans k4⟩
          rw [HJ2.out HB0.out HA0.out]
          have := HB4.out
          rwa [List.append_assoc, List.singleton_append] at this
/-- What trimAroundNewlines leaves. -/
def TanPost (v : List UInt8) (w : World) (e : Ending) (w' : World) : Prop := e = .returned (.string ⟨v.toArray⟩) ∧ Keeps No w w'

theorem joins_len (a v : List UInt8) : (joins a v).length ≤ a.length + v.length + 1 := by
  induction hn : v.length using Nat.strongRecOn generalizing a v with
  | _ n ih =>
    subst hn
    cases hb : behind v with
    | nil => rw [joins_end hb]; exact join_len a v
    | cons x r =>
      have := congrArg List.length (split v)
      rw [hb] at this
      simp at this
      rw [joins_nl hb]
      have h1 := ih r.length (by omega) (join a (upto v)) r rfl
      have h2 := join_len a (upto v)
      omega

set_option maxRecDepth 100000 in
set_option maxHeartbeats 1000000 in
theorem tan_any (s o cap : Nat) (v : List UInt8) (len : Nat) (hn : len = v.length) (w : World) (h : BytesAt w s o v) (hcap : v.length ≤ cap) (hlen : v.length ≤ 1000000000) :
    Calls Tryd.prog 51 #[.slice (some ⟨s, o, none⟩) len cap] w (TanPost (joins [] v) w) := by
  have hs := h.lt
  have H := Lib.hid h
  have HN := Lib.hid hn
  have hlen2 : len ≤ 1000000000 := by omega
  clear h hn
  go_enter Tryd.func51, Tryd.ntmps51
  go_wp2_with (fail)
  refine (Tryd.Builder_Grow_fresh w.heap.size w.heap.size len _ (Nat.le_refl _) (heap_alloc_new w _) (by simp) (by omega)).mono ?_
  rintro e w1 ⟨rfl, hb1, k1⟩
  have K1 : Below w.heap.size w w1 := ((Below.refl _ w).alloc (Nat.le_refl _) _).trans k1
  have HB1 : Bd w.heap.size w.heap.size [] w1 := .inr hb1
  clear hb1 k1
  go_wp2
  go_loopg [0] len (fun n s0 wr => ∃ (o' cap' : Nat) (a c : List UInt8), s0 = .slice (some ⟨s, o', none⟩) c.length cap' ∧ c.length ≤ cap' ∧ BytesAt w s o' c ∧ joins a c = joins [] v ∧ Bd w.heap.size w.heap.size a wr ∧ Below w.heap.size w wr ∧ a.length + c.length ≤ v.length ∧ n = c.length)
  case atStart => exact ⟨o, cap, [], v, by rw [HN.out], hcap, H.out, rfl, HB1, K1, by simp, HN.out⟩
  case round =>
    obtain ⟨o', cap', a, c, rfl, hc1, hby, hj, hbd, kb, hac, hnn⟩ := hrel
    have HJ := Lib.hid hj
    have HBD := Lib.hid hbd
    have HBY := Lib.hid (hby.below kb hs)
    have HNN := Lib.hid hnn
    clear hj hbd hby hnn
    go_wp2_with (fail)
    refine (indexByte_any s o' cap' c 10 wr HBY.out).mono ?_
    rintro e w2 ⟨rfl, rfl⟩
    cases hb : behind c with
    | nil =>
      have hno := upto_no c
      have hcu := split c
      rw [hb, List.append_nil] at hcu
      rw [← hcu] at hno
      have hx := ixb_none hno
      rw [hx]
      have HX := Lib.hid hb
      clear hb hx hno hcu
      go_wp2_with (fail)
      refine (writeContinued_any w.heap.size w.heap.size a s o' cap' c c.length rfl _ HBD.out HBY.out hc1 (by omega) (by omega) hs kb.size).mono ?_
      rintro e w3 ⟨rfl, hb3, k3⟩
      have HB3 := Lib.hid hb3
      clear hb3
      go_wp2_with (fail)
      refine (Tryd.Builder_String_any w.heap.size w.heap.size (join a c) w3 HB3.out (by have := kb.size; have := k3.size; omega)).mono ?_
      rintro e w4 ⟨rfl, k4⟩
      go_wp2
      go_ret
      refine ⟨?_, Keeps.of_below ((kb.trans k3).trans k4)⟩
      rw [← HJ.out, joins_end HX.out]
      rfl
    | cons x r =>
      have hno := upto_no c
      have hcu := split c
      have hx10 := behind_head hb
      subst hx10
      have hix : Lib.indexByte c 10 = (upto c).length := by
        conv => lhs; rw [hcu, hb]
        exact ixb_some hno
      rw [hix]
      have hcl : c.length = (upto c).length + 1 + r.length := by
        have := congrArg List.length hcu
        rw [hb] at this
        simp at this
        omega
      have htk : c.take (upto c).length = upto c := by
        have := congrArg (List.take (upto c).length) hcu
        rwa [List.take_left] at this
      have hdr : c.drop ((upto c).length + 1) = r := by
        have := congrArg (List.drop ((upto c).length + 1)) hcu
        rw [hb, List.drop_append, List.drop_eq_nil_of_le (Nat.le_succ _)] at this
        simpa using this
      have hjj := joins_nl (a := a) hb
      have HBU : BytesAt w2 s o' (upto c) := by
        have := HBY.out.take (upto c).length
        rwa [htk] at this
      have HJJ := Lib.hid (hjj.symm.trans HJ.out)
      have HDR := Lib.hid hdr
      have HCL := Lib.hid hcl
      have hjl := join_len a (upto c)
      have h1 : decide (((upto c).length : Int) < 0) = false := decide_eq_false (by omega)
      have h2 : ((upto c).length : Int) ≤ (cap' : Int) := by omega
      have h3 : IntKind.i64.wrap (((upto c).length : Int) + 1) = ((upto c).length : Int) + 1 := by rw [IntKind.wrap_i64]; omega
      have h4 : ((upto c).length : Int) + 1 ≤ (c.length : Int) := by omega
      have h0 : (0 : Int) ≤ ((upto c).length : Int) := by omega
      have h5 : (0 : Int) ≤ ((upto c).length : Int) + 1 := by omega
      clear hb hno hcu hix htk hdr hjj hcl
      generalize hu : upto c = u at *
      clear hu
      go_wp2_with (fail)
      refine (writeContinued_any w.heap.size w.heap.size a s o' cap' u u.length rfl _ HBD.out HBU (by omega) (by omega) (by omega) hs kb.size).mono ?_
      rintro e w3 ⟨rfl, hb3, k3⟩
      have HB3 := Lib.hid hb3
      clear hb3
      go_wp2
      go_roundg r.length
      case measure => have := HCL.out; have := HNN.out; omega
      case rel =>
        have e1 : ((u.length : Int) + 1).toNat = u.length + 1 := by omega
        have hcl := HCL.out
        refine ⟨cutAt o' (u.length + 1) cap' 1, cap' - (u.length + 1), join a u, r, ?_, by omega, ?_, HJJ.out, HB3.out, kb.trans k3, by omega, rfl⟩
        · rw [show c.length - (u.length + 1) = r.length by omega]
        · have := HBY.out.cut_l (u.length + 1) hc1
          rw [HDR.out] at this
          exact this.below_back kb hs
end Go.Proofs.YtjbbapodcngnaaaDoor
