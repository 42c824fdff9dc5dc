/- writeContinued, trimAroundNewlines. tokenByte, validHeaderKeyByte, CanonicalKey. CanonicalKey. Regions that draw their order: operations that look, in every world of a class; some effects in a row that keep the class; one last effect that waits for all of them, and moves behind it. One walk serves every order. A map from strings to slices of pointers, as a list of groups. Fields in memory; makeHeaderMap. makeHeaderMap. newHeader, newHeaderField. newHeaderField, errors.New, slices of pointers that are appended to. ReadHeader. ReadHeader: the loop. strings.NewReader, bufio.NewReader, ReadHeaderOf, headed. Regions that draw their order: looks and effects by turns. ReadHeaderOf, headed. impl.headed; the fields of a header, one by one. The fields of a header, one by one. Key, Value, Raw of the field at hand; Fields. -/
import Derived.Test.YtjbbapodcngnaaaGreatDoorZqaa
import Derived.Lib.ConvBytes
import Derived.Laws.IdiomStrings
import Derived.OrdersHeld
import Derived.Maps.Own
import Derived.Deep.OwnRows
namespace Go.Proofs.YtjbbapodcngnaaaGreatDoor
open Go.RowKit Hdr

theorem BytesAt.below {B : Nat} {w w' : World} {b o : Nat} {l : List UInt8} (h : BytesAt w b o l) (k : Below B w w') (hb : b < B) : BytesAt w' b o l := by
  obtain ⟨cs, t, f, h, h2⟩ := h
  exact ⟨cs, t, f, (k.block b hb).trans h, h2⟩
theorem BytesAt.below_back {B : Nat} {w w' : World} {b o : Nat} {l : List UInt8} (h : BytesAt w' b o l) (k : Below B w w') (hb : b < B) : BytesAt w b o l := by
  obtain ⟨cs, t, f, h, h2⟩ := h
  exact ⟨cs, t, f, (k.block b hb).symm.trans h, h2⟩
theorem BytesAt.take {w : World} {b o : Nat} {l : List UInt8} (h : BytesAt w b o l) (n : Nat) : BytesAt w b o (l.take n) := by
  have := h.sub 0 n
  rwa [List.drop_zero, Nat.add_zero] at this

theorem bd_len (B b : Nat) (l : List UInt8) (w : World) (h : Bd B b l w) :
    Calls Tryz.prog 184 #[.pointer (some ⟨b, 0, none⟩)] w fun e w' => e = .returned (.int .i64 l.length) ∧ w' = w := by
  refine (Tryz.Builder_Len B b (u8s l) w h).mono ?_
  rintro e w' ⟨rfl, rfl⟩
  exact ⟨by rw [u8s_length], rfl⟩

/-- The value of some lines. -/
def WcPost (B b : Nat) (l : List UInt8) (w : World) (e : Ending) (w' : World) : Prop := e = .returned (.tuple #[]) ∧ Bd B b l w' ∧ Below B w w'

set_option maxRecDepth 100000 in
set_option maxHeartbeats 1000000 in
theorem writeContinued_any (B b : Nat) (a : List UInt8) (s o cap : Nat) (l : List UInt8) (len : Nat) (hn : len = l.length) (w : World) (hb : Bd B b a w) (h : BytesAt w s o l) (hcap : l.length ≤ cap) (hlen : l.length ≤ 1000000000000) (ha : a.length ≤ 1000000000000)
    (hs : s < B) (hBw : B ≤ w.heap.size) :
    Calls Tryz.prog 136 #[.pointer (some ⟨b, 0, none⟩), .slice (some ⟨s, o, none⟩) len cap] w (WcPost B b (join a l) w) := by
  have H := Lib.hid h
  have HN := Lib.hid hn
  have HB := Lib.hid hb
  have hlen2 : len ≤ 1000000000000 := by omega
  have hcap2 : len ≤ cap := by omega
  clear h hn hb
  go_enter Tryz.func136, Tryz.ntmps136
  go_upto_region 0 with (fail)
  go_cut [15] (fun s15 wx => ∃ t : Bool, s15 = .bool t ∧ (t = true ↔ l.getLast? = some 13) ∧ w = wx)
  case first =>
    rcases nil_or_snoc l with rfl | ⟨m, x, rfl⟩
    · have h0 : len = 0 := HN.out
      subst h0
      go_wp2
      go_meet
      exact ⟨false, rfl, by simp, rfl⟩
    · have hlm : len = m.length + 1 := by rw [HN.out]; simp
      have hx := H.out.cell (i := m.length) (by simp)
      simp only [List.getElem_concat_length] at hx
      unfold byt at hx
      have e1 : decide ((0 : Int) < (len : Int)) = true := decide_eq_true (by omega)
      have e2 : (len : Int) - 1 = (m.length : Int) := by omega
      have e3 : IntKind.i64.wrap ((len : Int) - 1) = (m.length : Int) := by rw [IntKind.wrap_i64]; omega
      have e4 : (m.length : Int) < (len : Int) := by omega
      have e5 : 0 < len := by omega
      have hd : ((x.toNat : Int) == 13) = decide ((m ++ [x]).getLast? = some 13) := by
        have h1 : ((x.toNat : Int) == 13) = decide (x = 13) := by
          rw [Bool.eq_iff_iff]
          simp only [beq_iff_eq, decide_eq_true_eq]
          constructor
          · intro h; apply UInt8.toNat.inj; show x.toNat = 13; omega
          · rintro rfl; rfl
        rw [h1]
        simp
      have HD := Lib.hid hd
      clear hd hlm
      go_wp2
      go_meet
      exact ⟨_, rfl, by rw [HD.out]; simp, rfl⟩
  case rest =>
    obtain ⟨t, rfl, ht, rfl⟩ := hcut
    go_upto_if 15 with (fail)
    go_cut [1] (fun s1 wx => s1 = .slice (some ⟨s, o, none⟩) (chomp l).length cap ∧ w = wx)
    case first =>
      have hcl := chomp_last l
      cases t with
      | true =>
        have hd := ht.1 rfl
        rw [if_pos hd] at hcl
        have e5 : 0 < len := by
          have := HN.out
          rcases Nat.eq_zero_or_pos len with h | h
          · have : l = [] := List.length_eq_zero_iff.1 (by omega)
            subst this
            cases hd
          · exact h
        have HL := Lib.hid hcl
        have e2 : (len : Int) - 1 = ((len - 1 : Nat) : Int) := by omega
        have e3 : IntKind.i64.wrap ((len : Int) - 1) = ((len - 1 : Nat) : Int) := by rw [IntKind.wrap_i64]; omega
        have e4 : ((len - 1 : Nat) : Int) ≤ (cap : Int) := by omega
        have e6 : (0 : Int) ≤ ((len - 1 : Nat) : Int) := by omega
        clear hd hcl ht
        go_wp2
        go_meet
        exact ⟨by rw [HL.out, ← HN.out], rfl⟩
      | false =>
        have hd : ¬ l.getLast? = some 13 := fun h => by cases ht.2 h
        rw [if_neg hd] at hcl
        have HL := Lib.hid hcl
        clear hd hcl ht
        go_wp2
        go_meet
        exact ⟨by rw [HL.out, ← HN.out], rfl⟩
    case rest =>
      obtain ⟨rfl, rfl⟩ := hcut
      have hcl := chomp_len l
      have hB : BytesAt w s o (chomp l) := by rw [chomp_take]; exact H.out.take _
      have hbl := bare_len l
      have hj := @join_nil a l
      have hj1 := @join_first l
      have hj2 := @join_more a l
      generalize hJ : join a l = J at *
      have HJ := Lib.hid hj
      have HJ1 := Lib.hid hj1
      have HJ2 := Lib.hid hj2
      clear hj hj1 hj2
      go_wp2_with (fail)
      refine (trim_any s o cap (chomp l) (chomp l).length rfl w hB (by omega) (by omega)).mono ?_
      rintro e w1 ⟨o', cap', rfl, hc', hB', rfl⟩
      change BytesAt w1 s o' (bare l) at hB'
      have hl' : (trim (chomp l)).length = (bare l).length := rfl
      rw [hl'] at hc' ⊢
      by_cases hb0 : bare l = []
      · have e1 : ((((bare l).length : Nat) : Int) == 0) = true := by rw [hb0]; rfl
        have e2 : (bare l).length = 0 := by rw [hb0]; rfl
        have HB0 := Lib.hid hb0
        clear hb0
        go_wp2
        refine bodyPost_ret (results_none rfl _ _ _) rfl ?_
        exact ⟨rfl, by rw [HJ.out HB0.out]; exact HB.out, Below.refl _ _⟩
      · have hlp : 0 < (bare l).length := List.length_pos_iff.2 hb0
        have e1 : ((((bare l).length : Nat) : Int) == 0) = false := by simp; omega
        have e1' : ((bare l).length == 0) = false := by simp; omega
        have HB0 := Lib.hid hb0
        clear hb0
        go_wp2_with (fail)
        refine (bd_len B b a _ HB.out).mono ?_
        rintro e w2 ⟨rfl, rfl⟩
        by_cases ha0 : a = []
        · subst ha0
          go_wp2_with (fail)
          refine (write_any B b [] ⟨s, o', none⟩ cap' (bare l) (bare l).length rfl _ HB.out (fun W k => (hB'.below k hs).cells) (by simp; omega) hBw).mono ?_
          rintro e w3 ⟨⟨v, rfl⟩, hb3, k3⟩
          rw [List.nil_append] at hb3
          have HB3 := Lib.hid hb3
          clear hb3
          go_wp2
          go_end0
          exact ⟨rfl, by rw [← hJ, HJ1.out HB0.out]; exact HB3.out, k3⟩
        · have hap : 0 < a.length := List.length_pos_iff.2 ha0
          have e4 : decide ((0 : Int) < ((a.length : Nat) : Int)) = true := decide_eq_true (by omega)
          have HA0 := Lib.hid ha0
          clear ha0
          go_wp2_with (fail)
          refine (writeByte_any B b a 32 _ HB.out (by omega) hBw).mono ?_
          rintro e w3 ⟨rfl, hb3, k3⟩
          have HB3 := Lib.hid hb3
          clear hb3
          go_wp2_with (fail)
          refine (write_any B b (a ++ [32]) ⟨s, o', none⟩ cap' (bare l) (bare l).length rfl _ HB3.out (fun W k => ((hB'.below k3 hs).below k hs).cells) (by simp; omega) (by have := k3.size; omega)).mono ?_
          rintro e w4 ⟨⟨v, rfl⟩, hb4, k4⟩
          have HB4 := Lib.hid hb4
          clear hb4
          go_wp2
          go_end0
          refine ⟨rfl, ?_, k3.trans k4⟩
          rw [HJ2.out HB0.out HA0.out]
          have := HB4.out
          rwa [List.append_assoc, List.singleton_append] at this
/-- What trimAroundNewlines leaves. -/
def TanPost (v : List UInt8) (w : World) (e : Ending) (w' : World) : Prop := e = .returned (.string ⟨v.toArray⟩) ∧ Keeps No w w'

theorem joins_len (a v : List UInt8) : (joins a v).length ≤ a.length + v.length + 1 := by
  induction hn : v.length using Nat.strongRecOn generalizing a v with
  | _ n ih =>
    subst hn
    cases hb : behind v with
    | nil => rw [joins_end hb]; exact join_len a v
    | cons x r =>
      have := congrArg List.length (split v)
      rw [hb] at this
      simp at this
      rw [joins_nl hb]
      have h1 := ih r.length (by omega) (join a (upto v)) r rfl
      have h2 := join_len a (upto v)
      omega

set_option maxRecDepth 100000 in
set_option maxHeartbeats 1000000 in
theorem tan_any (s o cap : Nat) (v : List UInt8) (len : Nat) (hn : len = v.length) (w : World) (h : BytesAt w s o v) (hcap : v.length ≤ cap) (hlen : v.length ≤ 1000000000) :
    Calls Tryz.prog 100 #[.slice (some ⟨s, o, none⟩) len cap] w (TanPost (joins [] v) w) := by
  have hs := h.lt
  have H := Lib.hid h
  have HN := Lib.hid hn
  have hlen2 : len ≤ 1000000000 := by omega
  clear h hn
  go_enter Tryz.func100, Tryz.ntmps100
  go_wp2_with (fail)
  refine (Tryz.Builder_Grow_fresh w.heap.size w.heap.size len _ (Nat.le_refl _) (heap_alloc_new w _) (by simp) (by omega)).mono ?_
  rintro e w1 ⟨rfl, hb1, k1⟩
  have K1 : Below w.heap.size w w1 := ((Below.refl _ w).alloc (Nat.le_refl _) _).trans k1
  have HB1 : Bd w.heap.size w.heap.size [] w1 := .inr hb1
  clear hb1 k1
  go_wp2
  go_loopg [0] len (fun n s0 wr => ∃ (o' cap' : Nat) (a c : List UInt8), s0 = .slice (some ⟨s, o', none⟩) c.length cap' ∧ c.length ≤ cap' ∧ BytesAt w s o' c ∧ joins a c = joins [] v ∧ Bd w.heap.size w.heap.size a wr ∧ Below w.heap.size w wr ∧ a.length + c.length ≤ v.length ∧ n = c.length)
  case atStart => exact ⟨o, cap, [], v, by rw [HN.out], hcap, H.out, rfl, HB1, K1, by simp, HN.out⟩
  case round =>
    obtain ⟨o', cap', a, c, rfl, hc1, hby, hj, hbd, kb, hac, hnn⟩ := hrel
    have HJ := Lib.hid hj
    have HBD := Lib.hid hbd
    have HBY := Lib.hid (hby.below kb hs)
    have HNN := Lib.hid hnn
    clear hj hbd hby hnn
    go_wp2_with (fail)
    refine (indexByte_any s o' cap' c 10 wr HBY.out).mono ?_
    rintro e w2 ⟨rfl, rfl⟩
    cases hb : behind c with
    | nil =>
      have hno := upto_no c
      have hcu := split c
      rw [hb, List.append_nil] at hcu
      rw [← hcu] at hno
      have hx := ixb_none hno
      rw [hx]
      have HX := Lib.hid hb
      clear hb hx hno hcu
      go_wp2_with (fail)
      refine (writeContinued_any w.heap.size w.heap.size a s o' cap' c c.length rfl _ HBD.out HBY.out hc1 (by omega) (by omega) hs kb.size).mono ?_
      rintro e w3 ⟨rfl, hb3, k3⟩
      have HB3 := Lib.hid hb3
      clear hb3
      go_wp2_with (fail)
      refine (Tryz.Builder_String_any w.heap.size w.heap.size (join a c) w3 HB3.out (by have := kb.size; have := k3.size; omega)).mono ?_
      rintro e w4 ⟨rfl, k4⟩
      go_wp2
      go_ret
      refine ⟨?_, Keeps.of_below ((kb.trans k3).trans k4)⟩
      rw [← HJ.out, joins_end HX.out]
      rfl
    | cons x r =>
      have hno := upto_no c
      have hcu := split c
      have hx10 := behind_head hb
      subst hx10
      have hix : Lib.indexByte c 10 = (upto c).length := by
        conv => lhs; rw [hcu, hb]
        exact ixb_some hno
      rw [hix]
      have hcl : c.length = (upto c).length + 1 + r.length := by
        have := congrArg List.length hcu
        rw [hb] at this
        simp at this
        omega
      have htk : c.take (upto c).length = upto c := by
        have := congrArg (List.take (upto c).length) hcu
        rwa [List.take_left] at this
      have hdr : c.drop ((upto c).length + 1) = r := by
        have := congrArg (List.drop ((upto c).length + 1)) hcu
        rw [hb, List.drop_append, List.drop_eq_nil_of_le (Nat.le_succ _)] at this
        simpa using this
      have hjj := joins_nl (a := a) hb
      have HBU : BytesAt w2 s o' (upto c) := by
        have := HBY.out.take (upto c).length
        rwa [htk] at this
      have HJJ := Lib.hid (hjj.symm.trans HJ.out)
      have HDR := Lib.hid hdr
      have HCL := Lib.hid hcl
      have hjl := join_len a (upto c)
      have h1 : decide (((upto c).length : Int) < 0) = false := decide_eq_false (by omega)
      have h2 : ((upto c).length : Int) ≤ (cap' : Int) := by omega
      have h3 : IntKind.i64.wrap (((upto c).length : Int) + 1) = ((upto c).length : Int) + 1 := by rw [IntKind.wrap_i64]; omega
      have h4 : ((upto c).length : Int) + 1 ≤ (c.length : Int) := by omega
      have h0 : (0 : Int) ≤ ((upto c).length : Int) := by omega
      have h5 : (0 : Int) ≤ ((upto c).length : Int) + 1 := by omega
      clear hb hno hcu hix htk hdr hjj hcl
      generalize hu : upto c = u at *
      clear hu
      go_wp2_with (fail)
      refine (writeContinued_any w.heap.size w.heap.size a s o' cap' u u.length rfl _ HBD.out HBU (by omega) (by omega) (by omega) hs kb.size).mono ?_
      rintro e w3 ⟨rfl, hb3, k3⟩
      have HB3 := Lib.hid hb3
      clear hb3
      go_wp2
      go_roundg r.length
      case measure => have := HCL.out; have := HNN.out; omega
      case rel =>
        have e1 : ((u.length : Int) + 1).toNat = u.length + 1 := by omega
        have hcl := HCL.out
        refine ⟨cutAt o' (u.length + 1) cap' 1, cap' - (u.length + 1), join a u, r, ?_, by omega, ?_, HJJ.out, HB3.out, kb.trans k3, by omega, rfl⟩
        · rw [show c.length - (u.length + 1) = r.length by omega]
        · have := HBY.out.cut_l (u.length + 1) hc1
          rw [HDR.out] at this
          exact this.below_back kb hs
end Go.Proofs.YtjbbapodcngnaaaGreatDoor
namespace Go.Proofs.YtjbbapodcngnaaaGreatDoor
open Go.RowKit Hdr

set_option maxRecDepth 100000 in
set_option maxHeartbeats 2000000 in
theorem tokenByte_any (c : UInt8) (w : World) :
    Calls Tryz.prog 133 #[.int .u8 c.toNat] w fun e w' => e = .returned (.bool (tok c)) ∧ w' = w := by
  unfold tok
  generalize hm : c.toNat = m
  clear hm
  go_enter Tryz.func133, Tryz.ntmps133
  go_wp2
  all_goals go_ret
  all_goals refine ⟨congrArg (fun b => Ending.returned (Value.bool b)) (?_ : (_ : Bool) = _), rfl⟩
  all_goals (rw [Bool.eq_iff_iff]; simp only [beq_iff_eq, beq_eq_false_iff_ne, ne_eq, Bool.or_eq_true, decide_eq_true_eq, eq_self, true_iff, Bool.false_eq_true, false_iff] at *; simp only [tokN, signN]; omega)

set_option maxRecDepth 100000 in
set_option maxHeartbeats 1000000 in
theorem validKey_any (c : UInt8) (w : World) :
    Calls Tryz.prog 107 #[.int .u8 c.toNat] w fun e w' => e = .returned (.bool (keyb c)) ∧ w' = w := by
  have hc : c.toNat < 256 := c.toNat_lt
  unfold keyb
  generalize hm : c.toNat = m at *
  clear hm
  go_enter Tryz.func107, Tryz.ntmps107
  go_wp2
  all_goals go_ret
  all_goals refine ⟨congrArg (fun b => Ending.returned (Value.bool b)) (?_ : (_ : Bool) = _), rfl⟩
  all_goals (rw [Bool.eq_iff_iff]; simp only [bne_iff_ne, ne_eq, decide_eq_true_eq, Bool.false_eq_true, false_iff] at *; simp only [keyN]; omega)
end Go.Proofs.YtjbbapodcngnaaaGreatDoor
namespace Go.Proofs.YtjbbapodcngnaaaGreatDoor
open Go.RowKit Hdr

/-- A string of bytes. -/
abbrev str (l : List UInt8) : Value := .string ⟨l.toArray⟩

/-- Block b begins with these bytes; no cell of it is frozen. -/
def Row (w : World) (b : Nat) (l : List UInt8) : Prop :=
  ∃ cs f, w.heap[b]? = some (.cells cs 5 f) ∧ cs.toList.take l.length = u8s l ∧ cs.size ≤ f.1 ∧ l.length ≤ cs.size

theorem Row.bytes {w : World} {b : Nat} {l : List UInt8} (h : Row w b l) : BytesAt w b 0 l := by
  obtain ⟨cs, f, h1, h2, _⟩ := h
  exact ⟨cs, 5, f, h1, by rw [List.drop_zero]; exact h2⟩
theorem Row.frozen {w : World} {b : Nat} {l : List UInt8} (h : Row w b l) {i : Nat} (hi : i < l.length) : w.frozen? ⟨b, i, none⟩ = false := by
  obtain ⟨cs, f, h1, h2, h3, h4⟩ := h
  obtain ⟨lo, hi'⟩ := f
  simp only [World.frozen?, h1]
  simp only at h3
  simp only [Bool.and_eq_false_iff, decide_eq_false_iff_not]
  omega
theorem Row.keep {S : Nat → Prop} {w w' : World} {b : Nat} {l : List UInt8} (h : Row w b l) (k : Keeps S w w') (hS : ¬ S b) : Row w' b l := by
  obtain ⟨cs, f, h1, h2⟩ := h
  exact ⟨cs, f, (k.block b (Array.getElem?_eq_some_iff.1 h1).1 hS).trans h1, h2⟩
theorem Row.set {w : World} {b : Nat} {l : List UInt8} (h : Row w b l) (i : Nat) (x : UInt8) : Row (w.setCell ⟨b, i, none⟩ (byt x)) b (l.set i x) := by
  obtain ⟨cs, f, h1, h2, h3, h4⟩ := h
  refine ⟨cs.setIfInBounds i (byt x), f, ?_, ?_, by simpa using h3, by simpa using h4⟩
  · simp only [World.setCell, Array.getElem?_modify, if_true, h1, Option.map_some]
    rfl
  · rw [Array.toList_setIfInBounds, List.length_set, List.take_set, h2]
    simp [u8s, List.map_set]
theorem Row.new (w : World) (s : ByteArray) : Row (Lib.bytesWorld w 5 s) w.heap.size s.data.toList := by
  refine ⟨_, _, Lib.bytesWorld_at_new w 5 s, ?_, Nat.le_refl _, ?_⟩
  · unfold Lib.bytesCells
    rw [Array.toList_append, List.take_append_of_le_length (by simp), List.take_of_length_le (by simp)]
    simp [u8s]
    intro a _
    rfl
  · simp [Lib.bytesCells]

theorem bytesWorld_keeps (w : World) (e : TypeId) (s : ByteArray) (S : Nat → Prop) : Keeps S w (Lib.bytesWorld w e s) :=
  ⟨rfl, rfl, rfl, by rw [Lib.bytesWorld_size]; omega, fun k hk _ => Lib.bytesWorld_at_old w e s k hk⟩

/-- '[]byte(s)'. -/
theorem run_bytes_of (w : World) (l : List UInt8) : ∃ cap W, (convert 9 85 (str l)).run Tryz.prog w = .ok (.slice (some ⟨w.heap.size, 0, none⟩) l.length cap) W ∧ Row W w.heap.size l ∧ Keeps No w W ∧ W.heap.size = w.heap.size + 1 :=
  ⟨_, _, Lib.run_convert_string_bytes w 9 85 5 ⟨l.toArray⟩ (u := .string) Tryz.underlying9 Tryz.underlying85 Tryz.underlying5, Row.new w ⟨l.toArray⟩, bytesWorld_keeps w _ _ _, Lib.bytesWorld_size w _ _⟩
/-- 'string(b)'. -/
theorem run_string_of (w : World) (b o cap : Nat) (l : List UInt8) (n : Nat) (hn : n = l.length) (h : BytesAt w b o l) : (convert 85 9 (.slice (some ⟨b, o, none⟩) n cap)).run Tryz.prog w = .ok (str l) w := by
  subst hn
  exact run_convert_bytes_back (P := Tryz.prog) w 85 9 5 ⟨b, o, none⟩ cap l Tryz.underlying85 Tryz.underlying5 Tryz.underlying9 (fun j hj => h.cells j _ (by rw [u8s_get]; simp [hj, byt]))

/-- What CanonicalKey leaves. -/
def CanPost (l : List UInt8) (w : World) (e : Ending) (w' : World) : Prop := e = .returned (str (canon l)) ∧ Keeps No w w'

set_option maxRecDepth 100000 in
set_option maxHeartbeats 1000000 in
theorem canonicalKey_any (l : List UInt8) (w : World) (hlen : l.length ≤ 1000000000) :
    Calls Tryz.prog 96 #[str l] w (CanPost l w) := by
  obtain ⟨cap, W, hcv, hrow, K, hsz⟩ := run_bytes_of w l
  unfold str at hcv ⊢
  go_enter Tryz.func96, Tryz.ntmps96
  go_wp2
  clear hcv
  go_loopg [3, 11] l.length (fun n s3 s11 wr => ∃ (pre post : List UInt8) (up : Bool), s3 = .bool up ∧ s11 = .int .i64 pre.length ∧ pre.length + post.length = l.length ∧ n = post.length ∧ post = l.drop pre.length ∧ (l.take pre.length).all tok = true ∧ canonGo true l = pre ++ canonGo up post ∧
    Row wr w.heap.size (pre ++ post) ∧ Keeps (Up w.heap.size []) w wr)
  case atStart => exact ⟨[], l, true, rfl, rfl, by simp, rfl, rfl, rfl, rfl, hrow, K.of_no⟩
  case round =>
    obtain ⟨pre, post, up, rfl, rfl, hl, hn, hpo, hal, hc, hr, kr⟩ := hrel
    have HC := Lib.hid hc
    have HA := Lib.hid hal
    have HN := Lib.hid hn
    have HP := Lib.hid hpo
    have HL := Lib.hid hl
    have HR := Lib.hid hr
    have hp1 : pre.length ≤ l.length := by omega
    clear hc hal hn hpo hl hr
    cases post with
    | nil =>
      have hpl : pre.length = l.length := by have := HL.out; simpa using this
      have e1 : decide (pre.length < l.length) = false := decide_eq_false (by omega)
      have hcan : pre = canon l := by
        have h1 := HA.out
        have h2 := HC.out
        rw [hpl, List.take_length] at h1
        rw [show canonGo up [] = [] from rfl, List.append_nil] at h2
        unfold canon
        rw [if_pos h1, h2]
      have hb := HR.out.bytes
      rw [List.append_nil] at hb
      have hst := run_string_of wr w.heap.size 0 cap pre l.length hpl.symm hb
      unfold str at hst
      have HPL := Lib.hid hcan
      clear hpl hcan hb
      go_wp2
      go_ret
      exact ⟨by rw [← HPL.out]; rfl, (kr.down (Nat.le_refl _)).mono (fun _ _ h => by cases h)⟩
    | cons c r =>
      have hpl : pre.length < l.length := by have := HL.out; simp at this; omega
      have e1 : decide ((pre.length : Int) < (l.length : Int)) = true := decide_eq_true (by omega)
      have hi2 : (pre.length : Int) < (l.length : Int) := by omega
      have hx := HR.out.bytes.cell (i := pre.length) (by simp)
      rw [List.getElem_append_right (Nat.le_refl _)] at hx
      simp only [Nat.sub_self, List.getElem_cons_zero, Nat.zero_add] at hx
      unfold byt at hx
      have hfz : wr.frozen? ⟨w.heap.size, pre.length, none⟩ = false := HR.out.frozen (by simp)
      have hset := fun x : UInt8 => HR.out.set pre.length x
      have htk : l.take (pre.length + 1) = l.take pre.length ++ [c] := by
        have h1 := HP.out
        rw [List.take_succ_eq_append_getElem hpl]
        congr 2
        rw [List.drop_eq_getElem_cons hpl] at h1
        injection h1 with h1 _
        exact h1.symm
      have HTK := Lib.hid htk
      clear htk
      go_wp2_with (fail)
      refine (tokenByte_any c _).mono ?_
      rintro e w1 ⟨rfl, rfl⟩
      cases htok : tok c with
      | false =>
        have hcan : canon l = l := by
          unfold canon
          rw [if_neg]
          intro h
          rw [List.all_eq_true] at h
          have h2 := h c (by rw [← List.take_append_drop pre.length l, ← HP.out]; simp)
          rw [htok] at h2
          cases h2
        have HT := Lib.hid htok
        have HCN := Lib.hid hcan
        clear htok hcan
        go_wp2
        go_ret
        exact ⟨by rw [HCN.out]; rfl, (kr.down (Nat.le_refl _)).mono (fun _ _ h => by cases h)⟩
      | true =>
        have HT := Lib.hid htok
        clear htok
        have hm : c.toNat < 256 := c.toNat_lt
        have hlen2 : pre.length ≤ 1000000000 := by omega
        have hnext : ∀ w2, Row w2 w.heap.size (pre ++ cased up c :: r) → Keeps (Up w.heap.size []) w w2 → ∃ (pre' post : List UInt8) (up' : Bool), Value.bool ((c.toNat : Int) == 45) = .bool up' ∧ Value.int .i64 ((pre.length : Int) + 1) = .int .i64 pre'.length ∧ pre'.length + post.length = l.length ∧ gk - 1 = post.length ∧ post = l.drop pre'.length ∧
            (l.take pre'.length).all tok = true ∧ canonGo true l = pre' ++ canonGo up' post ∧ Row w2 w.heap.size (pre' ++ post) ∧ Keeps (Up w.heap.size []) w w2 := by
          intro w2 h1 h2
          have hcc : ((c.toNat : Int) == 45) = (c == 45) := by
            rw [Bool.eq_iff_iff]
            simp only [beq_iff_eq]
            constructor
            · intro h; apply UInt8.toNat.inj; show c.toNat = 45; omega
            · rintro rfl; rfl
          refine ⟨pre ++ [cased up c], r, c == 45, by rw [hcc], by simp, by have := HL.out; simp at this ⊢; omega, by have := HN.out; simp at this; omega, ?_, ?_, ?_, by simpa using h1, h2⟩
          · have h3 := HP.out
            rw [List.drop_eq_getElem_cons hpl] at h3
            injection h3 with _ h3
            simpa using h3
          · have h3 := HA.out
            simp only [List.length_append, List.length_cons, List.length_nil, Nat.zero_add]
            rw [HTK.out, List.all_append, h3]
            simp [HT.out]
          · rw [HC.out]
            simp [canonGo]
        have hmeas : gk - 1 < gk := by have := HN.out; simp at this; omega
        have hnoop : cased up c = c → Row w1 w.heap.size (pre ++ cased up c :: r) := fun h => by rw [h]; exact HR.out
        have hput : ∀ x, cased up c = x → Row (w1.setCell ⟨w.heap.size, pre.length, none⟩ (byt x)) w.heap.size (pre ++ cased up c :: r) := fun x h => by
          have := hset x
          rw [List.set_append_right _ _ (Nat.le_refl _), Nat.sub_self, List.set_cons_zero] at this
          rw [h]
          exact this
        have hkeep : ∀ v, Keeps (Up w.heap.size []) w (w1.setCell ⟨w.heap.size, pre.length, none⟩ v) := fun v => kr.setCell (.inr (Nat.le_refl _)) v
        clear hp1 HA HC HP HL hset HTK HT HR
        by_cases hA : up = true ∧ 97 ≤ c.toNat ∧ c.toNat ≤ 122
        · obtain ⟨rfl, h1, h2⟩ := hA
          have hcs : cased true c = c - 97 + 65 := by unfold cased; rw [if_pos ⟨rfl, h1, h2⟩]
          have hv : byt (c - 97 + 65) = .int .u8 ((c.toNat : Int) - 97 + 65) := by
            unfold byt
            have : (c - 97 + 65).toNat = c.toNat - 97 + 65 := by
              rw [UInt8.toNat_add, UInt8.toNat_sub_of_le _ _ (by rw [UInt8.le_iff_toNat_le]; exact h1)]
              show (c.toNat - 97 + 65) % 256 = _
              omega
            rw [this]
            congr 1
            omega
          have hp := hput _ hcs
          rw [hv] at hp
          have HP := Lib.hid hp
          clear hp hput hnoop hcs hv
          have e1 : decide ((97 : Int) ≤ (c.toNat : Int)) = true := decide_eq_true (by omega)
          have e2 : decide ((c.toNat : Int) ≤ 122) = true := decide_eq_true (by omega)
          have e3 : IntKind.u8.wrap ((c.toNat : Int) - 97) = (c.toNat : Int) - 97 := by simp only [IntKind.wrap_u8]; omega
          have e4 : IntKind.u8.wrap ((c.toNat : Int) - 97 + 65) = (c.toNat : Int) - 97 + 65 := by simp only [IntKind.wrap_u8]; omega
          go_wp2
          go_roundg (gk - 1)
          case measure => exact hmeas
          case rel => exact hnext _ HP.out (hkeep _)
        · by_cases hB : up = false ∧ 65 ≤ c.toNat ∧ c.toNat ≤ 90
          · obtain ⟨rfl, h1, h2⟩ := hB
            have hcs : cased false c = c - 65 + 97 := by unfold cased; rw [if_neg (by simp), if_pos ⟨rfl, h1, h2⟩]
            have hv : byt (c - 65 + 97) = .int .u8 ((c.toNat : Int) - 65 + 97) := by
              unfold byt
              have : (c - 65 + 97).toNat = c.toNat - 65 + 97 := by
                rw [UInt8.toNat_add, UInt8.toNat_sub_of_le _ _ (by rw [UInt8.le_iff_toNat_le]; exact h1)]
                show (c.toNat - 65 + 97) % 256 = _
                omega
              rw [this]
              congr 1
              omega
            have hp := hput _ hcs
            rw [hv] at hp
            have HP := Lib.hid hp
            clear hp hput hnoop hcs hv
            have e1 : decide ((65 : Int) ≤ (c.toNat : Int)) = true := decide_eq_true (by omega)
            have e2 : decide ((c.toNat : Int) ≤ 90) = true := decide_eq_true (by omega)
            have e3 : IntKind.u8.wrap ((c.toNat : Int) - 65) = (c.toNat : Int) - 65 := by simp only [IntKind.wrap_u8]; omega
            have e4 : IntKind.u8.wrap ((c.toNat : Int) - 65 + 97) = (c.toNat : Int) - 65 + 97 := by simp only [IntKind.wrap_u8]; omega
            go_wp2
            go_roundg (gk - 1)
            case measure => exact hmeas
            case rel => exact hnext _ HP.out (hkeep _)
          · have hcs : cased up c = c := by unfold cased; rw [if_neg hA, if_neg hB]
            have HP := Lib.hid (hnoop hcs)
            clear hput hnoop hcs hkeep
            cases up with
            | true =>
              by_cases h1 : 97 ≤ c.toNat
              · have h2 : ¬ c.toNat ≤ 122 := fun h => hA ⟨rfl, h1, h⟩
                have e1 : decide ((97 : Int) ≤ (c.toNat : Int)) = true := decide_eq_true (by omega)
                have e2 : decide ((c.toNat : Int) ≤ 122) = false := decide_eq_false (by omega)
                clear hA hB
                go_wp2
                go_roundg (gk - 1)
                case measure => exact hmeas
                case rel => exact hnext _ HP.out kr
              · have e1 : decide ((97 : Int) ≤ (c.toNat : Int)) = false := decide_eq_false (by omega)
                clear hA hB
                go_wp2
                go_roundg (gk - 1)
                case measure => exact hmeas
                case rel => exact hnext _ HP.out kr
            | false =>
              by_cases h1 : 65 ≤ c.toNat
              · have h2 : ¬ c.toNat ≤ 90 := fun h => hB ⟨rfl, h1, h⟩
                have e1 : decide ((65 : Int) ≤ (c.toNat : Int)) = true := decide_eq_true (by omega)
                have e2 : decide ((c.toNat : Int) ≤ 90) = false := decide_eq_false (by omega)
                clear hA hB
                go_wp2
                go_roundg (gk - 1)
                case measure => exact hmeas
                case rel => exact hnext _ HP.out kr
              · have e1 : decide ((65 : Int) ≤ (c.toNat : Int)) = false := decide_eq_false (by omega)
                clear hA hB
                go_wp2
                go_roundg (gk - 1)
                case measure => exact hmeas
                case rel => exact hnext _ HP.out kr
end Go.Proofs.YtjbbapodcngnaaaGreatDoor
namespace Go.Proofs.YtjbbapodcngnaaaGreatDoor
open Go.RowKit

section
variable {P : Program} {ops : Array Oper} {md : Region.Mode} {C : World → Prop} {w : World}

theorem upon_post {o : Oper} {a : Act} {K : Act → World → Prop} {Q Q' : Exit → Act → World → Prop} (h : ∀ e a w, e ≠ .normal → Q e a w → Q' e a w) {r : Result Next} (hu : o.upon P a K Q r) : o.upon P a K Q' r := by
  cases r with
  | ok n w' =>
    cases n <;> simp only [Oper.upon] at hu ⊢ <;> try exact hu
    case enter f args =>
      refine Calls.mono hu fun e w'' he => ?_
      cases e with
      | returned u => exact he
      | panicked c => exact h _ _ _ (by intro h; cases h) he
      | outgrown => obtain ⟨a, w, he⟩ := he; exact ⟨a, w, h _ _ _ (by intro h; cases h) he⟩
  | halt x w' =>
    cases x <;> simp only [Oper.upon] at hu ⊢ <;> try exact hu
    case panic u => exact h _ _ _ (by intro h; cases h) hu
theorem wpOp_post {i : Nat} {a : Act} {K : Act → World → Prop} {Q Q' : Exit → Act → World → Prop} (h : ∀ e a w, e ≠ .normal → Q e a w → Q' e a w) (hu : wpOp P ops Q i K a w) : wpOp P ops Q' i K a w := by
  unfold wpOp at *
  split
  · rename_i h1; simpa only [h1] using hu
  · rename_i o h1
    simp only [h1] at hu
    split
    · rename_i h2
      rw [if_pos h2] at hu
      rcases hu with hu | ⟨h3, a', w', h4⟩
      · exact .inl (upon_post h hu)
      · exact .inr ⟨h3, a', w', h _ _ _ (by intro h; cases h) h4⟩
    · rename_i h2
      rw [if_neg h2] at hu
      exact hu

/-- An operation that looks: it calls no Go function. -/
def lookOp (o : Oper) : Bool :=
  match o.op with
  | .move _ | .assign _ | .load _ _ | .nilCheck _ | .binOp _ _ _ _ _ | .unOp _ _ _ | .slice _ _ _ _ _ | .fieldAddr _ _ _ | .indexAddr _ _ _ | .lookup _ _ _ _ | .extract _ _ | .convert _ _ _ | .build _ _ | .makeInterface _ _ | .pick _ _ _ => true
  | .call c => match c.callee with
    | .builtin .len => true
    | .builtin .cap => true
    | _ => false
  | _ => false

theorem value_then {r : Result Value} {n : Next} {w' : World} (h : (r.andThen fun a w' => Result.ok (Next.value a) w') = .ok n w') : ∃ v, n = .value v := by
  cases r with
  | ok v w1 => simp [Result.andThen] at h; exact ⟨v, h.1.symm⟩
  | halt x w1 => simp [Result.andThen] at h

theorem value_map {α : Type} {r : Result α} {f : α → Value} {n : Next} {w' : World} (h : (r.andThen fun a w' => Result.ok (Next.value (f a)) w') = .ok n w') : ∃ v, n = .value v := by
  cases r with
  | ok v w1 => simp [Result.andThen] at h; exact ⟨_, h.1.symm⟩
  | halt x w1 => simp [Result.andThen] at h

theorem look_value {o : Oper} {ρ : Operand → Value} (h : lookOp o = true) {n : Next} {w' : World} (hr : (execOp ρ o).run P w = .ok n w') : ∃ v, n = .value v := by
  unfold lookOp at h
  unfold execOp at hr
  split at h
  all_goals (first | (rename_i hx; simp only [hx] at hr) | skip)
  all_goals (try simp only [Sem.run_bind, Sem.run_pure] at hr)
  all_goals first
    | exact value_then hr
    | exact value_map hr
    | (simp at hr; exact ⟨_, hr.1.symm⟩)
    | skip
  · revert hr
    split
    · simp [runtimePanic]
    · simp [runtimePanic]
    · simp [runtimePanic]
    · split
      · simp [runtimePanic]
      · intro h
        simp only [Sem.run_bind] at h
        cases h1 : (Sem.run P program w) with
        | halt x w1 => rw [h1] at h; simp [Result.andThen] at h
        | ok p w1 =>
          rw [h1] at h
          simp only [Result.andThen] at h
          generalize hn : Sem.run P (nilAhead (p.types.size + Made.depth) _ _ _) w1 = r at h
          cases r with
          | halt x w2 => simp at h
          | ok b w2 =>
            simp only at h
            split at h
            · simp [unsupported] at h
            · simp at h; exact ⟨_, h.1.symm⟩
      · intro h; simp at h; exact ⟨_, h.1.symm⟩
    · intro h; simp at h; exact ⟨_, h.1.symm⟩
  · rename_i c _
    split at h
    · rename_i hc
      simp only [resolve, hc, invoke, builtin, Sem.run_bind, Sem.run_pure, Result.andThen_ok] at hr
      exact value_then hr
    · rename_i hc
      simp only [resolve, hc, invoke, builtin, Sem.run_bind, Sem.run_pure, Result.andThen_ok] at hr
      exact value_then hr
    · cases h
  · cases h

/-- What looks yields: in every world of the class the same, and the world stays. -/
theorem YieldsIn.looks {o : Oper} {v : Value} {a : Act} (h : YieldsIn P ops C o v a) (hl : lookOp o = true) : YieldsIf P ops C o v a := by
  rcases h with ⟨h1, h2⟩ | h
  · refine .inl ⟨h1, fun w hw => ?_⟩
    have h3 := h2 w hw
    unfold Oper.quietAt at h3
    have h4 := @look_value P w o a.eval hl
    generalize (execOp a.eval o).run P w = r at h3 h4
    cases r with
    | halt x w' => exact h3.elim
    | ok n w' =>
      cases n <;> simp only [Oper.quietUpon] at h3
      case value u => obtain ⟨rfl, rfl⟩ := h3; rfl
      case skip => obtain ⟨v, hv⟩ := h4 rfl; cases hv
      case enter f args => obtain ⟨v, hv⟩ := h4 rfl; cases hv
  · exact .inr h

/-- Whatever order is picked among the operations below n; C is kept; then L. -/
def wpAnyE (P : Program) (md : Region.Mode) (ops : Array Oper) (Q : Exit → Act → World → Prop) (C : World → Prop) (n : Nat) (L : Array Bool → Act → World → Prop) : Nat → Array Bool → Act → World → Prop
  | 0, listed, a, w => L listed a w
  | f + 1, listed, a, w =>
    Region.ready md ops listed ≠ [] ∧ ∀ i ∈ Region.ready md ops listed, i < n ∧ wpOp P ops Q i (fun a' w' => C w' ∧ wpAnyE P md ops Q C n L f (listed.setIfInBounds i true) a' w') a w

/-- No way out by a panic. -/
def NoP (Q : Exit → Act → World → Prop) : Exit → Act → World → Prop
  | .panic _, _, _ => False
  | e, a, w => Q e a w
theorem NoP.to {Q : Exit → Act → World → Prop} (e : Exit) (a : Act) (w : World) (h : NoP Q e a w) : Q e a w := by
  cases e <;> first | exact h | exact h.elim

theorem wpAny_of_E {n g : Nat} {L : Array Bool → Act → World → Prop} {Q : Exit → Act → World → Prop} (hL : ∀ listed a w, L listed a w → wpAny P md ops Q g listed a w) :
    ∀ (f : Nat) (listed : Array Bool) (a : Act) (w : World), wpAnyE P md ops (NoP Q) C n L f listed a w → wpAny P md ops Q (f + g) listed a w
  | 0, listed, a, w, h => by rw [Nat.zero_add]; exact hL _ _ _ h
  | f + 1, listed, a, w, h => by
    rw [show f + 1 + g = (f + g) + 1 by omega]
    exact ⟨fun h0 => absurd h0 h.1, fun i hi => wpOp_mono (fun a' w' h' => wpAny_of_E hL f _ a' w' h'.2) (wpOp_post (fun e a w _ h => NoP.to e a w h) (h.2 i hi).2)⟩

theorem wpAnyE_first {n i : Nat} {oi : Oper} {v : Value} {L : Array Bool → Act → World → Prop} {Q : Exit → Act → World → Prop} (hi : ops[i]? = some oi) (hsel : ∀ (j : Nat) (o : Oper) cs b, ops[j]? = some o → o.op ≠ .select cs b)
    (hs : Region.sinkB md ops n = true) (hc : afterB md ops n = true) (hn : n < ops.size) (hin : i < n)
    (hdone : ∀ listed a w, L listed a w → ∀ j ∈ Region.ready md ops listed, n ≤ j) :
    ∀ (f : Nat) (listed : Array Bool) (a : Act) (w : World), HeadInv md ops n listed →
      (∀ j oj, ops[j]? = some oj → j ≠ i → listed.getD j true = false → (∀ e ∈ oj.after, Region.binds md e = true → e.on ≠ i) → oi.apart ops oj = true) →
      i ∈ Region.ready md ops listed → YieldsIf P ops C oi v a → C w →
      wpAnyE P md ops (NoP Q) C n L f (listed.setIfInBounds i true) (a.put oi.dst v) w → wpAnyE P md ops (NoP Q) C n L (f + 1) listed a w := by
  intro f
  induction f with
  | zero =>
    intro listed a w inv _ hr hy hw H
    have hun := (mem_ready.1 hr).1
    refine ⟨fun h => (by rw [h] at hr; cases hr), fun j hj => ?_⟩
    have hjn : j < n := by
      rcases Nat.lt_or_ge j n with h | h
      · exact h
      · exact absurd hj (tail_waits' hs hc hn inv _ i rfl hin hun j h)
    refine ⟨hjn, ?_⟩
    by_cases hji : j = i
    · subst hji; exact hy.wpOp hi hw ⟨hw, H⟩
    · have := hdone _ _ _ H j (ready_mono hj hji)
      omega
  | succ f ih =>
    intro listed a w inv hfree hr hy hw H
    have hun := (mem_ready.1 hr).1
    refine ⟨fun h => (by rw [h] at hr; cases hr), fun j hj => ?_⟩
    have hjn : j < n := by
      rcases Nat.lt_or_ge j n with h | h
      · exact h
      · exact absurd hj (tail_waits' hs hc hn inv _ i rfl hin hun j h)
    refine ⟨hjn, ?_⟩
    by_cases hji : j = i
    · subst hji; exact hy.wpOp hi hw ⟨hw, H⟩
    · have h1 := (H.2 j (ready_mono hj hji)).2
      obtain ⟨hjun, oj, hoj, hall⟩ := mem_ready.1 hj
      have hnot : ∀ e ∈ oj.after, Region.binds md e = true → e.on ≠ i := fun e he hb heq => by
        have h1 := hall e he hb
        rw [heq, getD_both hun] at h1
        cases h1
      have h2 := wpOp_putIf hoj (hfree j oj hoj hji hjun hnot) (fun cs b => hsel i oi cs b hi) (fun cs b => hsel j oj cs b hoj) (fun _ _ _ h => h) hy h1
      have hfree' : ∀ k ok, ops[k]? = some ok → k ≠ i → (listed.setIfInBounds j true).getD k true = false →
          (∀ e ∈ ok.after, Region.binds md e = true → e.on ≠ i) → oi.apart ops ok = true := fun k ok hk hki hun hno => by
        refine hfree k ok hk hki ?_ hno
        by_cases hjk : j = k
        · subst hjk; exact hjun
        · rw [getD_set_ne true hjk] at hun; exact hun
      refine wpOp_mono (fun a' w' h3 => ⟨h3.2.1, ih (listed.setIfInBounds j true) a' w' (inv.set hj hjn) hfree' (ready_mono hr (Ne.symm hji)) h3.1 h3.2.1 ?_⟩) h2
      rw [Array.setIfInBounds_comm _ _ hji]
      exact h3.2.2

/-- The looks in the text's order, then the effects, each alone; then n alone, then the rest in the text's order. -/
def lexEffE (md : Region.Mode) (ops : Array Oper) (n g : Nat) : List Nat → Array Bool → Bool
  | [], listed => decide (Region.ready md ops listed = [n]) && Region.lexFrom md ops g (n + 1) (listed.setIfInBounds n true)
  | k :: ef, listed => decide (k < n) && decide (Region.ready md ops listed = [k]) && lexEffE md ops n g ef (listed.setIfInBounds k true)
def lexEffM (md : Region.Mode) (ops : Array Oper) (n g : Nat) (ef : List Nat) : List Nat → Array Bool → Bool
  | [], listed => lexEffE md ops n g ef listed
  | k :: rd, listed => decide (k < n) && ((ops[k]?).map lookOp == some true) && (Region.ready md ops listed).contains k && Region.free md ops listed k && lexEffM md ops n g ef rd (listed.setIfInBounds k true)

def lexEffB (md : Region.Mode) (ops : Array Oper) (rd ef : List Nat) (n : Nat) : Bool :=
  Region.noSelect ops && decide (n < ops.size) && decide (rd.length + ef.length = n) && Region.sinkB md ops n && afterB md ops n && (ops.toList.drop (n + 1)).all pureOp && lexEffM md ops n (ops.size - n - 1) ef rd (Array.replicate ops.size false)

/-- What stands behind an effect. -/
def EffPost (C : World → Prop) (K : Act → World → Prop) (e : Exit) (a : Act) (w : World) : Prop := e = .normal ∧ C w ∧ K a w
theorem EffPost.intro {C : World → Prop} {K : Act → World → Prop} {a : Act} {w : World} (h1 : C w) (h2 : K a w) : EffPost C K .normal a w := ⟨rfl, h1, h2⟩

/-- Effects, each keeping C; then the rest. -/
def wpEffs (P : Program) (ops : Array Oper) (C : World → Prop) (Q : Exit → Act → World → Prop) : List Oper → List Oper → Act → World → Prop
  | [], tl, a, w => wpList P ops Q tl a w
  | o :: ef, tl, a, w => wpList P ops (EffPost C (wpEffs P ops C Q ef tl)) [o] a w

def pick (l : List Oper) (is : List Nat) : List Oper := is.filterMap fun i => l[i]?

theorem wpAnyE_effs {n g : Nat} {Q : Exit → Act → World → Prop} :
    ∀ (ef : List Nat) (listed : Array Bool) (a : Act) (w : World), (∀ k ∈ ef, k < ops.size) → lexEffE md ops n g ef listed = true → wpEffs P ops C Q (pick ops.toList ef) (ops.toList.drop n) a w →
      wpAnyE P md ops (NoP Q) C n (fun listed' a' w' => MidAt md ops n g listed' ∧ wpList P ops Q (ops.toList.drop n) a' w') ef.length listed a w
  | [], listed, a, w, _, hB, h => by
    simp only [lexEffE, Bool.and_eq_true, decide_eq_true_eq] at hB
    exact ⟨hB, h⟩
  | k :: ef, listed, a, w, hk, hB, h => by
    simp only [lexEffE, Bool.and_eq_true, decide_eq_true_eq] at hB
    obtain ⟨⟨hkn, hr⟩, hB⟩ := hB
    have hks := hk k (List.mem_cons_self ..)
    have h0 : ops[k]? = some ops[k] := Array.getElem?_eq_getElem hks
    have hp : pick ops.toList (k :: ef) = ops[k] :: pick ops.toList ef := by
      unfold pick
      rw [List.filterMap_cons]
      simp [h0]
    rw [hp] at h
    refine ⟨fun h0 => (by rw [hr] at h0; cases h0), fun i hi => ?_⟩
    rw [hr] at hi
    obtain rfl : i = k := by simpa using hi
    refine ⟨hkn, ?_⟩
    have hw : wpOp P ops (EffPost C (wpEffs P ops C Q (pick ops.toList ef) (ops.toList.drop n))) i (wpList P ops (EffPost C (wpEffs P ops C Q (pick ops.toList ef) (ops.toList.drop n))) []) a w := by
      unfold wpOp; simp only [h0]; exact h
    refine wpOp_mono (fun a' w' h' => ?_) (wpOp_post (fun e a w hne h => absurd h.1 hne) hw)
    obtain ⟨_, hC, h'⟩ := h'
    exact ⟨hC, wpAnyE_effs ef _ a' w' (fun k hk' => hk k (List.mem_cons_of_mem _ hk')) hB h'⟩

theorem wpAnyE_looks {n g : Nat} {Q : Exit → Act → World → Prop} (hsel : Region.noSelect ops = true) (hs : Region.sinkB md ops n = true) (hc : afterB md ops n = true) (hn : n < ops.size) (ef : List Nat) (hef : ∀ k ∈ ef, k < ops.size) :
    ∀ (rd : List Nat) (listed : Array Bool) (a : Act) (w : World), HeadInv md ops n listed → lexEffM md ops n g ef rd listed = true → C w →
      wpQuiet P ops C (fun a' => wpEffs P ops C Q (pick ops.toList ef) (ops.toList.drop n) a' w) (pick ops.toList rd) a →
      wpAnyE P md ops (NoP Q) C n (fun listed' a' w' => MidAt md ops n g listed' ∧ wpList P ops Q (ops.toList.drop n) a' w') (rd.length + ef.length) listed a w
  | [], listed, a, w, _, hB, _, h => by
    rw [List.length_nil, Nat.zero_add]
    exact wpAnyE_effs ef listed a w hef hB h
  | k :: rd, listed, a, w, inv, hB, hw, h => by
    simp only [lexEffM, Bool.and_eq_true, decide_eq_true_eq, beq_iff_eq] at hB
    obtain ⟨⟨⟨⟨hkn, hl⟩, hr⟩, hf⟩, hB⟩ := hB
    have hks : k < ops.size := by omega
    have h0 : ops[k]? = some ops[k] := Array.getElem?_eq_getElem hks
    have hp : pick ops.toList (k :: rd) = ops[k] :: pick ops.toList rd := by
      unfold pick
      rw [List.filterMap_cons]
      simp [h0]
    rw [hp] at h
    rw [h0] at hl
    have hl' : lookOp ops[k] = true := by simpa using hl
    have hr' : k ∈ Region.ready md ops listed := by simpa using hr
    have hst : qOp P ops C k (wpQuiet P ops C (fun a' => wpEffs P ops C Q (pick ops.toList ef) (ops.toList.drop n) a' w) (pick ops.toList rd)) a := by unfold qOp; simp only [h0]; exact h
    obtain ⟨v, hy, hK⟩ := yieldsIn_of_qOp h0 hst
    rw [List.length_cons, show rd.length + 1 + ef.length = (rd.length + ef.length) + 1 by omega]
    exact wpAnyE_first h0 (Region.noSelect_spec hsel) hs hc hn hkn (fun listed' a' w' hL j hj => by rw [hL.1.1] at hj; simp at hj; omega) _ listed a w inv (Region.free_spec h0 hf) hr' (YieldsIn.looks hy hl') hw
      (wpAnyE_looks hsel hs hc hn ef hef rd _ _ w (inv.set hr' hkn) hB hw hK)

theorem lexEffE_lt {n g : Nat} (hn : n < ops.size) : ∀ (ef : List Nat) (listed : Array Bool), lexEffE md ops n g ef listed = true → ∀ k ∈ ef, k < ops.size
  | [], _, _ => fun k hk => by cases hk
  | e :: ef, listed, hB => fun k hk => by
    simp only [lexEffE, Bool.and_eq_true, decide_eq_true_eq] at hB
    rcases List.mem_cons.1 hk with rfl | hk
    · omega
    · exact lexEffE_lt hn ef _ hB.2 k hk
theorem lexEff_lt {n g : Nat} (hn : n < ops.size) (ef : List Nat) : ∀ (rd : List Nat) (listed : Array Bool), lexEffM md ops n g ef rd listed = true → ∀ k ∈ ef, k < ops.size
  | [], listed, hB => lexEffE_lt hn ef listed hB
  | r :: rd, listed, hB => fun k hk => by
    simp only [lexEffM, Bool.and_eq_true, decide_eq_true_eq] at hB
    exact lexEff_lt hn ef rd _ hB.2 k hk

theorem region_eff {id : Nat} {Q : Exit → Act → World → Prop} {a : Act} {l : List Oper} (rd ef : List Nat) (n : Nat) (C : World → Prop) (hm : P.follows .mixedOrders = true) (hB : lexEffB .any l.toArray rd ef n = true) (hC : C w.drew)
    (h : ∀ (ι : Type) (F : ι → World), Nonempty ι → (∀ i, C (F i)) → wpQuiet P l.toArray (fun w' => ∃ i, w' = F i) (fun a' => wpEffs P l.toArray C Q (pick l ef) (l.drop n) a' w.drew) (pick l rd) a) : (Code.region id l.toArray true).wp P Q a w := by
  have h' := h {w' // C w'} Subtype.val ⟨⟨_, hC⟩⟩ (fun i => i.2)
  have hcc : (fun w' => ∃ i : {w' // C w'}, w' = i.val) = C := by
    funext w'
    exact propext ⟨fun ⟨i, h⟩ => h ▸ i.2, fun h => ⟨⟨w', h⟩, rfl⟩⟩
  rw [hcc] at h'
  simp only [lexEffB, Bool.and_eq_true, decide_eq_true_eq] at hB
  obtain ⟨⟨⟨⟨⟨⟨hsel, hn⟩, hlen⟩, hs⟩, hc⟩, hp⟩, hlex⟩ := hB
  have hn' : n < l.length := by simpa using hn
  have inv0 : HeadInv .any l.toArray n (Array.replicate l.toArray.size false) :=
    ⟨by simp, fun j oj _ hl => (by rw [getD_replicate_false] at hl; cases hl), fun t _ ht => getD_in (by simpa using ht) (getD_replicate_false _ _)⟩
  have H := wpAnyE_looks (P := P) (md := .any) (C := C) (g := l.toArray.size - n - 1) (Q := Q) hsel hs hc hn ef (lexEff_lt hn ef rd _ hlex) rd _ a w.drew inv0 hlex hC (by simpa using h')
  refine wp_region_any hm ?_
  have hdrop : l.drop n = l[n] :: l.drop (n + 1) := List.drop_eq_getElem_cons hn'
  have := wpAny_of_E (P := P) (md := .any) (Q := Q) (g := l.toArray.size - n - 1 + 1) (fun listed a' w' hL => by
    have hw := hL.2
    rw [hdrop] at hw
    exact wpAny_mid (md := .any) hsel (l.drop (n + 1)) (by simp; omega) (fun j => by simp [List.getElem?_drop]) (by simp [hn']) hp listed a' hL.1 hw) _ _ _ _ H
  rw [hlen, show n + (l.toArray.size - n - 1 + 1) = l.toArray.size by simp; omega] at this
  exact this
end
end Go.Proofs.YtjbbapodcngnaaaGreatDoor
namespace Go.Proofs.YtjbbapodcngnaaaGreatDoor
open Go.RowKit Hdr

/-- Pointers to blocks. -/
def ptrs (l : List Nat) : List Value := l.map fun b => .pointer (some ⟨b, 0, none⟩)
@[simp] theorem ptrs_length (l : List Nat) : (ptrs l).length = l.length := by simp [ptrs]
@[simp] theorem ptrs_append (l m : List Nat) : ptrs (l ++ m) = ptrs l ++ ptrs m := by simp [ptrs]
theorem ptrs_one (l : List Nat) : ∀ v ∈ ptrs l, v.oneCell' = true := by
  intro v hv
  simp only [ptrs, List.mem_map] at hv
  obtain ⟨c, _, rfl⟩ := hv
  rfl
/-- A slice of pointers of ours. -/
abbrev PS (w : World) (base : Nat) (v : Value) (l : List Nat) : Prop := w.ownsRow base 160 1 v l.length (ptrs l)

structure Grp where
  key : List UInt8
  v : Value
  ps : List Nat

theorem str_beq (a b : List UInt8) : ((⟨a.toArray⟩ : ByteArray) == ⟨b.toArray⟩) = decide (a = b) := by
  have e : ((⟨a.toArray⟩ : ByteArray) == ⟨b.toArray⟩) = (a.toArray == b.toArray) := rfl
  rw [e, Bool.eq_iff_iff]
  simp

open Instr in
theorem findNow_none (k : List UInt8) : ∀ (es : List MapEntry) (gs : List Grp) (i : Nat), es.map (fun e => (e.key, e.val)) = gs.map (fun x => (str x.key, x.v)) → (∀ x ∈ gs, x.key ≠ k) → findNow .string (str k) es i = some none
  | [], [], _, _, _ => rfl
  | e :: es, x :: gs, i, h, hn => by
    simp only [List.map_cons, List.cons.injEq, Prod.mk.injEq] at h
    have h1 : x.key ≠ k := hn x (List.mem_cons_self ..)
    have h2 : sameNow .string (str k) e.key = some false := by
      rw [h.1.1]
      show some (((⟨k.toArray⟩ : ByteArray) == ⟨x.key.toArray⟩)) = _
      rw [str_beq, decide_eq_false (fun h => h1 h.symm)]
    rw [findNow, h2]
    exact findNow_none k es gs (i + 1) h.2 (fun y hy => hn y (List.mem_cons_of_mem _ hy))
  | [], _ :: _, _, h, _ => by simp at h
  | _ :: _, [], _, h, _ => by simp at h

open Instr in
theorem findNow_some (k : List UInt8) (x : Grp) (hx : x.key = k) (b : List Grp) : ∀ (es : List MapEntry) (a : List Grp) (i : Nat), es.map (fun e => (e.key, e.val)) = (a ++ x :: b).map (fun x => (str x.key, x.v)) → (∀ x ∈ a, x.key ≠ k) → findNow .string (str k) es i = some (some (i + a.length, x.v))
  | e :: es, [], i, h, _ => by
    simp only [List.nil_append, List.map_cons, List.cons.injEq, Prod.mk.injEq] at h
    have h2 : sameNow .string (str k) e.key = some true := by
      rw [h.1.1, hx]
      show some (((⟨k.toArray⟩ : ByteArray) == ⟨k.toArray⟩)) = _
      rw [str_beq, decide_eq_true rfl]
    rw [findNow, h2]
    simp only [h.1.2, List.length_nil, Nat.add_zero]
  | e :: es, y :: a, i, h, hn => by
    simp only [List.cons_append, List.map_cons, List.cons.injEq, Prod.mk.injEq] at h
    have h1 : y.key ≠ k := hn y (List.mem_cons_self ..)
    have h2 : sameNow .string (str k) e.key = some false := by
      rw [h.1.1]
      show some (((⟨k.toArray⟩ : ByteArray) == ⟨y.key.toArray⟩)) = _
      rw [str_beq, decide_eq_false (fun h => h1 h.symm)]
    rw [findNow, h2]
    simp only
    rw [findNow_some k x hx b es a (i + 1) h.2 (fun y hy => hn y (List.mem_cons_of_mem _ hy))]
    simp; omega
  | [], [], _, h, _ => by simp at h
  | [], _ :: _, _, h, _ => by simp at h

/-- Block mb is a map whose entries are these groups. -/
def MapE (w : World) (mb : Nat) (gs : List Grp) : Prop :=
  ∃ es clock, w.heap[mb]? = some (.map es clock) ∧ es.toList.map (fun e => (e.key, e.val)) = gs.map (fun x => (str x.key, x.v))
theorem MapE.lt {w : World} {mb : Nat} {gs : List Grp} (h : MapE w mb gs) : mb < w.heap.size := by
  obtain ⟨es, c, h, _⟩ := h
  exact (Array.getElem?_eq_some_iff.1 h).1
theorem MapE.keep {S : Nat → Prop} {w w' : World} {mb : Nat} {gs : List Grp} (h : MapE w mb gs) (k : Keeps S w w') (hS : ¬ S mb) : MapE w' mb gs := by
  have hl := h.lt
  obtain ⟨es, c, h, h2⟩ := h
  exact ⟨es, c, (k.block mb hl hS).trans h, h2⟩
theorem MapE.ne {w : World} {mb b : Nat} {gs : List Grp} {cs : Array Value} {t : TypeId} {f : Nat × Nat} (h : MapE w mb gs) (hb : w.heap[b]? = some (.cells cs t f)) : mb ≠ b := by
  obtain ⟨es, c, h, _⟩ := h
  rintro rfl
  rw [h] at hb
  cases hb

theorem zero_hfs (w : World) : (zeroValue 71).run Tryz.prog w = .ok (.slice none 0 0) w := by kernel_rfl
theorem und_map : Tryz.prog.underlying 72 = some (.map 9 71) := Tryz.underlying72
theorem check_str (w : World) (e : Bool) (k : List UInt8) : (Instr.checkKey e 10000 9 (str k)).run Tryz.prog w = .ok () w := by
  rw [Instr.checkKey]
  simp [run_underlying Tryz.underlying9]

/-- 'm[k]' where no group has the key. -/
theorem run_lookup_none (w : World) (mb : Nat) (gs : List Grp) (k : List UInt8) (h : MapE w mb gs) (hn : ∀ x ∈ gs, x.key ≠ k) :
    (Instr.lookup 72 (.map (some mb)) (str k) false).run Tryz.prog w = .ok (.slice none 0 0) w := by
  obtain ⟨es, c, hb, he⟩ := h
  have hf := findNow_none k es.toList gs 0 he hn
  simp [Instr.lookup, run_underlying und_map, MapKept.run_getObj_map hb, check_str, Instr.findKey, run_underlying Tryz.underlying9, hf, Result.andThen]
theorem run_lookup_none_ok (w : World) (mb : Nat) (gs : List Grp) (k : List UInt8) (h : MapE w mb gs) (hn : ∀ x ∈ gs, x.key ≠ k) :
    (Instr.lookup 72 (.map (some mb)) (str k) true).run Tryz.prog w = .ok (.tuple #[.slice none 0 0, .bool false]) w := by
  obtain ⟨es, c, hb, he⟩ := h
  have hf := findNow_none k es.toList gs 0 he hn
  simp [Instr.lookup, run_underlying und_map, MapKept.run_getObj_map hb, check_str, Instr.findKey, run_underlying Tryz.underlying9, hf, Result.andThen]
/-- .. where one has it. -/
theorem run_lookup_some (w : World) (mb : Nat) (a b : List Grp) (x : Grp) (h : MapE w mb (a ++ x :: b)) (hn : ∀ y ∈ a, y.key ≠ x.key) :
    (Instr.lookup 72 (.map (some mb)) (str x.key) false).run Tryz.prog w = .ok x.v w := by
  obtain ⟨es, c, hb, he⟩ := h
  have hf := findNow_some x.key x rfl b es.toList a 0 he hn
  simp [Instr.lookup, run_underlying und_map, MapKept.run_getObj_map hb, check_str, Instr.findKey, run_underlying Tryz.underlying9, hf, Result.andThen]
theorem run_lookup_some_ok (w : World) (mb : Nat) (a b : List Grp) (x : Grp) (h : MapE w mb (a ++ x :: b)) (hn : ∀ y ∈ a, y.key ≠ x.key) :
    (Instr.lookup 72 (.map (some mb)) (str x.key) true).run Tryz.prog w = .ok (.tuple #[x.v, .bool true]) w := by
  obtain ⟨es, c, hb, he⟩ := h
  have hf := findNow_some x.key x rfl b es.toList a 0 he hn
  simp [Instr.lookup, run_underlying und_map, MapKept.run_getObj_map hb, check_str, Instr.findKey, run_underlying Tryz.underlying9, hf, Result.andThen]

/-- The map with other entries. -/
def setM (w : World) (mb : Nat) (o : Obj) : World := { w with heap := w.heap.setIfInBounds mb o }
theorem setM_keeps (w : World) (mb : Nat) (o : Obj) : Keeps (In [mb]) w (setM w mb o) :=
  ⟨rfl, rfl, rfl, by simp [setM], fun k _ hS => by
    have : mb ≠ k := fun e => hS (by simp [In, e])
    simp only [setM, Array.getElem?_setIfInBounds]
    rw [if_neg this]⟩
theorem setM_same {w : World} {mb : Nat} (o : Obj) (h : mb < w.heap.size) : (setM w mb o).heap[mb]? = some o := by
  simp only [setM, Array.getElem?_setIfInBounds]
  rw [if_pos trivial, if_pos h]

theorem stays_str (w : World) (k : List UInt8) : (Instr.keyThatStays (str k) (str k)).run Tryz.prog w = .ok (str k) w := by
  have h : Instr.sameBits 10000 (str k) (str k) = true := by
    show (((⟨k.toArray⟩ : ByteArray) == ⟨k.toArray⟩)) = true
    rw [str_beq, decide_eq_true rfl]
  simp [Instr.keyThatStays, h]

/-- 'm[k] = v' where no group has the key. -/
theorem run_update_none (w : World) (mb : Nat) (gs : List Grp) (x : Grp) (h : MapE w mb gs) (hn : ∀ y ∈ gs, y.key ≠ x.key) :
    ∃ W, (Instr.mapUpdate 72 (.map (some mb)) (str x.key) x.v).run Tryz.prog w = .ok () W ∧ MapE W mb (gs ++ [x]) ∧ Keeps (In [mb]) w W := by
  have hlt := h.lt
  obtain ⟨es, c, hb, he⟩ := h
  have hf := findNow_none x.key es.toList gs 0 he hn
  refine ⟨setM w mb (.map (es.push { key := str x.key, val := x.v, born := c }) (c + 1)), ?_, ⟨_, _, setM_same _ hlt, ?_⟩, setM_keeps _ _ _⟩
  · simp [Instr.mapUpdate, run_underlying und_map, MapKept.run_getObj_map hb, check_str, Instr.findKey, run_underlying Tryz.underlying9, hf, MapKept.run_setObj_map _ hb, Result.andThen, setM]
  · simp [he]

/-- .. where one has it. -/
theorem run_update_some (w : World) (mb : Nat) (a b : List Grp) (y x : Grp) (h : MapE w mb (a ++ y :: b)) (hy : y.key = x.key) (hn : ∀ y ∈ a, y.key ≠ x.key) :
    ∃ W, (Instr.mapUpdate 72 (.map (some mb)) (str x.key) x.v).run Tryz.prog w = .ok () W ∧ MapE W mb (a ++ x :: b) ∧ Keeps (In [mb]) w W := by
  have hlt := h.lt
  obtain ⟨es, c, hb, he⟩ := h
  have hf := findNow_some x.key y hy b es.toList a 0 he hn
  rw [Nat.zero_add] at hf
  have hlen : es.size = a.length + 1 + b.length := by
    have := congrArg List.length he
    simp at this
    omega
  have hkey : (es[a.length]?).map (·.key) = some (str x.key) := by
    have h1 := congrArg (fun l => l[a.length]?) he
    simp only [List.getElem?_map, Array.getElem?_toList] at h1
    rw [List.getElem?_append_right (Nat.le_refl _), Nat.sub_self, List.getElem?_cons_zero] at h1
    cases hq : es[a.length]? with
    | none => rw [hq] at h1; simp at h1
    | some e => rw [hq] at h1; simp at h1; simp [h1.1, hy]
  refine ⟨setM w mb (.map (es.modify a.length fun e => { e with key := str x.key, val := x.v }) c), ?_, ⟨_, _, setM_same _ hlt, ?_⟩, setM_keeps _ _ _⟩
  · simp [Instr.mapUpdate, run_underlying und_map, MapKept.run_getObj_map hb, check_str, Instr.findKey, run_underlying Tryz.underlying9, hf, hkey, stays_str, MapKept.run_setObj_map _ hb, Result.andThen, setM]
  · apply List.ext_getElem?
    intro j
    have h1 := congrArg (fun l => l[j]?) he
    simp only [List.getElem?_map, Array.getElem?_toList, Array.getElem?_modify] at h1 ⊢
    by_cases hj : a.length = j
    · subst hj
      rw [if_pos rfl, List.getElem?_append_right (Nat.le_refl _), Nat.sub_self, List.getElem?_cons_zero]
      have hj2 : a.length < es.size := by omega
      simp [hj2]
    · rw [if_neg hj, h1]
      rcases Nat.lt_or_ge j a.length with h2 | h2
      · rw [List.getElem?_append_left h2, List.getElem?_append_left h2]
      · obtain ⟨d, rfl⟩ : ∃ d, j = a.length + (d + 1) := ⟨j - a.length - 1, by omega⟩
        rw [List.getElem?_append_right (by omega), List.getElem?_append_right (by omega)]
        simp
/-- The store into the map, at the operation. -/
theorem wpList_update {w : World} {ops : Array Oper} {rest : List Oper} {o : Oper} {a : Act} {Q : Exit → Act → World → Prop} {R : World → Prop} (hg : o.guard = none) (m x v : Operand) (ho : o.op = Op.mapUpdate 72 m x v)
    (mb : Nat) (key : List UInt8) (val : Value) (hm : a.eval m = .map (some mb)) (hx : a.eval x = str key) (hv : a.eval v = val)
    (hrun : ∃ W, (Instr.mapUpdate 72 (.map (some mb)) (str key) val).run Tryz.prog w = .ok () W ∧ R W) (hK : ∀ W, R W → wpList Tryz.prog ops Q rest (a.put o.dst undef) W) : wpList Tryz.prog ops Q (o :: rest) a w := by
  refine wpList_plain hg fun K' hK' => ?_
  obtain ⟨W, hrun, hR⟩ := hrun
  unfold Oper.wp
  simp [execOp, ho, hm, hx, hv, hrun, Result.andThen]
  exact hK' _ _ (hK W hR)
end Go.Proofs.YtjbbapodcngnaaaGreatDoor
namespace Go.Proofs.YtjbbapodcngnaaaGreatDoor
open Go.RowKit Hdr

/-- A field: its block, its key, its value, its bytes (none: it has none), and the slice that it holds them by. -/
structure Fd where
  blk : Nat
  k : List UInt8
  v : List UInt8
  raw : Option (List UInt8)
  rv : Value

/-- Block b holds cells of this type. -/
def Typed (w : World) (b : Nat) (t : TypeId) : Prop := ∃ cs f, w.heap[b]? = some (.cells cs t f)
theorem Typed.keep {S : Nat → Prop} {w w' : World} {b : Nat} {t : TypeId} (h : Typed w b t) (k : Keeps S w w') (hS : ¬ S b) : Typed w' b t := by
  obtain ⟨cs, f, h⟩ := h
  exact ⟨cs, f, (k.block b (Array.getElem?_eq_some_iff.1 h).1 hS).trans h⟩
theorem Typed.ne {w : World} {b b' : Nat} {t t' : TypeId} (h : Typed w b t) (h' : Typed w b' t') (hne : t ≠ t') : b ≠ b' := by
  rintro rfl
  obtain ⟨cs, f, h⟩ := h
  obtain ⟨cs', f', h'⟩ := h'
  rw [h] at h'
  injection h' with h'
  injection h' with h1 h2
  exact hne h2
theorem Blk.typed {w : World} {b : Nat} {cs : List Value} {t : TypeId} (h : Blk w b cs t) : Typed w b t := ⟨_, _, h⟩

/-- The slice of a field's bytes. -/
def RawAt (w : World) (lo hi : Nat) (rv : Value) : Option (List UInt8) → Prop
  | none => rv = .slice none 0 0
  | some l => ∃ rb ro cap : Nat, rv = .slice (some ⟨rb, ro, none⟩) l.length cap ∧ l.length ≤ cap ∧ lo ≤ rb ∧ rb < hi ∧ BytesAt w rb ro l ∧ Typed w rb 5

/-- The field lies in memory, in blocks from lo up to hi. -/
structure FdAt (w : World) (lo hi : Nat) (f : Fd) : Prop where
  ge : lo ≤ f.blk
  lt : f.blk < hi
  B : Blk w f.blk [f.rv, str f.k, str f.v] 185
  R : RawAt w lo hi f.rv f.raw

theorem RawAt.keep {S : Nat → Prop} {w w' : World} {lo hi : Nat} {rv : Value} {r : Option (List UInt8)} (h : RawAt w lo hi rv r) (k : Keeps S w w') (hS : ∀ x, S x → x < lo ∨ hi ≤ x) : RawAt w' lo hi rv r := by
  cases r with
  | none => exact h
  | some l =>
    obtain ⟨rb, ro, cap, h1, h2, h3, h4, h5, h6⟩ := h
    exact ⟨rb, ro, cap, h1, h2, h3, h4, h5.keep k (fun h => by have := hS _ h; omega), h6.keep k (fun h => by have := hS _ h; omega)⟩
/-- Where a block of pointers is written too. -/
theorem RawAt.keep_lb {w w' : World} {lo hi lb base : Nat} {rv : Value} {r : Option (List UInt8)} (h : RawAt w lo hi rv r) (hl : Typed w lb 160) (k : Keeps (fun x => x = lb ∨ x < lo ∨ base ≤ x) w w') (hS : hi ≤ base) : RawAt w' lo hi rv r := by
  cases r with
  | none => exact h
  | some l =>
    obtain ⟨rb, ro, cap, h1, h2, h3, h4, h5, h6⟩ := h
    have hne := h6.ne hl (by decide)
    exact ⟨rb, ro, cap, h1, h2, h3, h4, h5.keep k (fun h => by omega), h6.keep k (fun h => by omega)⟩
theorem FdAt.keep {S : Nat → Prop} {w w' : World} {lo hi : Nat} {f : Fd} (h : FdAt w lo hi f) (k : Keeps S w w') (hS : ∀ x, S x → x < lo ∨ hi ≤ x) : FdAt w' lo hi f :=
  ⟨h.ge, h.lt, h.B.keep k (fun hs => by have := hS _ hs; have := h.ge; have := h.lt; omega), h.R.keep k hS⟩
theorem RawAt.mono {w : World} {lo hi hi' : Nat} {rv : Value} {r : Option (List UInt8)} (h : RawAt w lo hi rv r) (hh : hi ≤ hi') : RawAt w lo hi' rv r := by
  cases r with
  | none => exact h
  | some l =>
    obtain ⟨rb, ro, cap, h1, h2, h3, h4, h5, h6⟩ := h
    exact ⟨rb, ro, cap, h1, h2, h3, by omega, h5, h6⟩
theorem FdAt.mono {w : World} {lo hi hi' : Nat} {f : Fd} (h : FdAt w lo hi f) (hh : hi ≤ hi') : FdAt w lo hi' f := ⟨h.ge, Nat.lt_of_lt_of_le h.lt hh, h.B, h.R.mono hh⟩

theorem FdAt.keep_lb {w w' : World} {lo hi lb base : Nat} {f : Fd} (h : FdAt w lo hi f) (hl : Typed w lb 160) (k : Keeps (fun x => x = lb ∨ x < lo ∨ base ≤ x) w w') (hS : hi ≤ base) : FdAt w' lo hi f :=
  have hne := h.B.typed.ne hl (by decide)
  ⟨h.ge, h.lt, h.B.keep k (fun hs => by have := h.ge; have := h.lt; omega), h.R.keep_lb hl k hS⟩

/-- All of them. -/
def Fds (w : World) (lo hi : Nat) (fs : List Fd) : Prop := ∀ f ∈ fs, FdAt w lo hi f
theorem Fds.keep {S : Nat → Prop} {w w' : World} {lo hi : Nat} {fs : List Fd} (h : Fds w lo hi fs) (k : Keeps S w w') (hS : ∀ x, S x → x < lo ∨ hi ≤ x) : Fds w' lo hi fs := fun f hf => (h f hf).keep k hS
theorem Fds.keep_lb {w w' : World} {lo hi lb base : Nat} {fs : List Fd} (h : Fds w lo hi fs) (hl : Typed w lb 160) (k : Keeps (fun x => x = lb ∨ x < lo ∨ base ≤ x) w w') (hS : hi ≤ base) : Fds w' lo hi fs := fun f hf => (h f hf).keep_lb hl k hS
theorem Fds.mono {w : World} {lo hi hi' : Nat} {fs : List Fd} (h : Fds w lo hi fs) (hh : hi ≤ hi') : Fds w lo hi' fs := fun f hf => (h f hf).mono hh

/-- The pointers of some fields begin block lb. -/
def PtrsAt (w : World) (lb : Nat) (l : List Nat) : Prop := ∃ cs f, w.heap[lb]? = some (.cells cs 160 f) ∧ cs.toList.take l.length = ptrs l
theorem PtrsAt.typed {w : World} {lb : Nat} {l : List Nat} (h : PtrsAt w lb l) : Typed w lb 160 := by
  obtain ⟨cs, f, h, _⟩ := h
  exact ⟨cs, f, h⟩
theorem PtrsAt.lt {w : World} {lb : Nat} {l : List Nat} (h : PtrsAt w lb l) : lb < w.heap.size := by
  obtain ⟨cs, f, h, _⟩ := h
  exact (Array.getElem?_eq_some_iff.1 h).1
theorem PtrsAt.keep {S : Nat → Prop} {w w' : World} {lb : Nat} {l : List Nat} (h : PtrsAt w lb l) (k : Keeps S w w') (hS : ¬ S lb) : PtrsAt w' lb l := by
  have hl := h.lt
  obtain ⟨cs, f, h, h2⟩ := h
  exact ⟨cs, f, (k.block lb hl hS).trans h, h2⟩
theorem PtrsAt.cell {w : World} {lb : Nat} {l : List Nat} (h : PtrsAt w lb l) {i : Nat} (hi : i < l.length) : w.cell? ⟨lb, i, none⟩ = some (.pointer (some ⟨l[i], 0, none⟩)) := by
  obtain ⟨cs, f, h, h2⟩ := h
  have h3 : (cs.toList.take l.length)[i]? = some (.pointer (some ⟨l[i], 0, none⟩)) := by rw [h2]; simp [ptrs, hi]
  rw [List.getElem?_take, if_pos hi] at h3
  simp only [World.cell?, h]
  simpa using h3

/-- The groups of some fields. -/
structure Grouped (w : World) (base : Nat) (gs : List Grp) (fs : List Fd) : Prop where
  keys : gs.Pairwise (fun x y => x.key ≠ y.key)
  apart : gs.Pairwise (fun x y => x.v.ownBlock ≠ y.v.ownBlock)
  own : ∀ x ∈ gs, PS w base x.v x.ps
  some_ : ∀ x ∈ gs, x.ps ≠ []
  of : ∀ x ∈ gs, x.ps = (fs.filter (fun f => decide (f.k = x.key))).map (·.blk)
  all : ∀ f ∈ fs, ∃ x ∈ gs, x.key = f.k

theorem PS.keep {S : Nat → Prop} {w w' : World} {base : Nat} {v : Value} {l : List Nat} (h : PS w base v l) (k : Keeps S w w') (hS : ∀ b, v.ownBlock = some b → ¬ S b) : PS w' base v l := by
  obtain ⟨h1, h2⟩ := h
  refine ⟨h1, ?_⟩
  rcases h2 with h2 | ⟨g, cap, cur, rfl, hb, hg, h3⟩
  · exact .inl h2
  · exact .inr ⟨g, cap, cur, rfl, hb, (k.block g (Array.getElem?_eq_some_iff.1 hg).1 (hS g rfl)).trans hg, h3⟩
theorem Grouped.keep {S : Nat → Prop} {w w' : World} {base : Nat} {gs : List Grp} {fs : List Fd} (h : Grouped w base gs fs) (k : Keeps S w w') (hS : ∀ x ∈ gs, ∀ b, x.v.ownBlock = some b → ¬ S b) : Grouped w' base gs fs :=
  ⟨h.keys, h.apart, fun x hx => PS.keep (h.own x hx) k (hS x hx), h.some_, h.of, h.all⟩
theorem PS.block {w : World} {base : Nat} {v : Value} {l : List Nat} (h : PS w base v l) (hl : l ≠ []) : ∃ g cap, v = .slice (some ⟨g, 0, none⟩) l.length cap ∧ base ≤ g ∧ g < w.heap.size ∧ PtrsAt w g l ∧ l.length ≤ cap ∧ cap ≤ maxLen := by
  obtain ⟨h1, h2⟩ := h
  rcases h2 with ⟨_, h2⟩ | ⟨g, cap, cur, rfl, hb, hg, h3, h4, h5, h6⟩
  · exact absurd (List.length_eq_zero_iff.1 h2) hl
  · exact ⟨g, cap, rfl, hb, (Array.getElem?_eq_some_iff.1 hg).1, ⟨cur, (0, 0), hg, by simpa using h6⟩, h3, h4⟩

/-- A header's map: nil where there is no field. -/
def HMap (w : World) (base : Nat) (m : Option Nat) (fs : List Fd) : Prop :=
  (m = none ∧ fs = []) ∨ ∃ mb gs, m = some mb ∧ base ≤ mb ∧ MapE w mb gs ∧ Grouped w base gs fs

/-- What makeHeaderMap leaves. -/
def MhmPost (fs : List Fd) (w : World) (e : Ending) (w' : World) : Prop := ∃ m, e = .returned (.map m) ∧ HMap w' w.heap.size m fs ∧ Keeps No w w'

theorem filter_take_succ (fs : List Fd) (i : Nat) (hi : i < fs.length) (k : List UInt8) : ((fs.take (i + 1)).filter (fun f => decide (f.k = k))).map (·.blk) = ((fs.take i).filter (fun f => decide (f.k = k))).map (·.blk) ++ (if fs[i].k = k then [fs[i].blk] else []) := by
  rw [List.take_succ_eq_append_getElem hi, List.filter_append, List.map_append]
  congr 1
  by_cases h : fs[i].k = k
  · simp [h]
  · simp [h]

/-- One field more, with a new key. -/
theorem Grouped.push_new {w W : World} {base : Nat} {gs : List Grp} {fs : List Fd} {i : Nat} (hi : i < fs.length) (h : Grouped w base gs (fs.take i)) (hn : ∀ x ∈ gs, x.key ≠ fs[i].k) {v : Value} (hv : PS W base v [fs[i].blk])
    (ho : ∀ x ∈ gs, PS W base x.v x.ps) (ha : ∀ x ∈ gs, x.v.ownBlock ≠ v.ownBlock) : Grouped W base (gs ++ [⟨fs[i].k, v, [fs[i].blk]⟩]) (fs.take (i + 1)) := by
  refine ⟨?_, ?_, ?_, ?_, ?_, ?_⟩
  · rw [List.pairwise_append]
    exact ⟨h.keys, List.pairwise_singleton _ _, fun a ha b hb => by simp at hb; subst hb; exact hn a ha⟩
  · rw [List.pairwise_append]
    exact ⟨h.apart, List.pairwise_singleton _ _, fun a h1 b hb => by simp at hb; subst hb; exact ha a h1⟩
  · intro x hx
    rcases List.mem_append.1 hx with hx | hx
    · exact ho x hx
    · simp at hx; subst hx; exact hv
  · intro x hx
    rcases List.mem_append.1 hx with hx | hx
    · exact h.some_ x hx
    · simp at hx; subst hx; simp
  · intro x hx
    rw [filter_take_succ fs i hi]
    rcases List.mem_append.1 hx with hx | hx
    · rw [if_neg (fun e => hn x hx e.symm), List.append_nil]
      exact h.of x hx
    · simp at hx; subst hx
      rw [if_pos rfl]
      have : ((fs.take i).filter (fun f => decide (f.k = fs[i].k))) = [] := by
        rw [List.filter_eq_nil_iff]
        intro f hf hk
        obtain ⟨x, hx, hxk⟩ := h.all f hf
        exact hn x hx (by rw [hxk]; simpa using hk)
      rw [this]
      rfl
  · intro f hf
    rw [List.take_succ_eq_append_getElem hi] at hf
    rcases List.mem_append.1 hf with hf | hf
    · obtain ⟨x, hx, hk⟩ := h.all f hf
      exact ⟨x, List.mem_append_left _ hx, hk⟩
    · simp at hf; subst hf
      exact ⟨⟨fs[i].k, v, [fs[i].blk]⟩, by simp, rfl⟩

/-- .. with a key that is there. -/
theorem Grouped.push_old {w W : World} {base : Nat} {a b : List Grp} {y : Grp} {fs : List Fd} {i : Nat} (hi : i < fs.length) (h : Grouped w base (a ++ y :: b) (fs.take i)) (hy : y.key = fs[i].k) {v : Value} (hv : PS W base v (y.ps ++ [fs[i].blk]))
    (ho : ∀ x ∈ a ++ b, PS W base x.v x.ps) (ha : ∀ x ∈ a ++ b, x.v.ownBlock ≠ v.ownBlock) : Grouped W base (a ++ ⟨fs[i].k, v, y.ps ++ [fs[i].blk]⟩ :: b) (fs.take (i + 1)) := by
  have hk := h.keys
  have hp := h.apart
  rw [List.pairwise_append, List.pairwise_cons] at hk hp
  have hmem : ∀ x ∈ a ++ (⟨fs[i].k, v, y.ps ++ [fs[i].blk]⟩ : Grp) :: b, x = ⟨fs[i].k, v, y.ps ++ [fs[i].blk]⟩ ∨ x ∈ a ++ b := by
    intro x hx
    simp only [List.mem_append, List.mem_cons] at hx ⊢
    rcases hx with hx | hx | hx
    · exact .inr (.inl hx)
    · exact .inl hx
    · exact .inr (.inr hx)
  have hold : ∀ x ∈ a ++ b, x ∈ a ++ y :: b := fun x hx => by
    simp only [List.mem_append, List.mem_cons] at hx ⊢
    rcases hx with hx | hx
    · exact .inl hx
    · exact .inr (.inr hx)
  have hne : ∀ x ∈ a ++ b, x.key ≠ fs[i].k := fun x hx => by
    rw [← hy]
    rcases List.mem_append.1 hx with hx | hx
    · exact hk.2.2 x hx y (List.mem_cons_self ..)
    · exact (hk.2.1.1 x hx).symm
  refine ⟨?_, ?_, ?_, ?_, ?_, ?_⟩
  · rw [List.pairwise_append, List.pairwise_cons]
    refine ⟨hk.1, ⟨fun x hx => (hne x (List.mem_append_right _ hx)).symm, hk.2.1.2⟩, fun x hx z hz => ?_⟩
    rcases List.mem_cons.1 hz with rfl | hz
    · exact hne x (List.mem_append_left _ hx)
    · exact hk.2.2 x hx z (List.mem_cons_of_mem _ hz)
  · rw [List.pairwise_append, List.pairwise_cons]
    refine ⟨hp.1, ⟨fun x hx => (ha x (List.mem_append_right _ hx)).symm, hp.2.1.2⟩, fun x hx z hz => ?_⟩
    rcases List.mem_cons.1 hz with rfl | hz
    · exact ha x (List.mem_append_left _ hx)
    · exact hp.2.2 x hx z (List.mem_cons_of_mem _ hz)
  · intro x hx
    rcases hmem x hx with rfl | hx
    · exact hv
    · exact ho x hx
  · intro x hx
    rcases hmem x hx with rfl | hx
    · simp
    · exact h.some_ x (hold x hx)
  · intro x hx
    rw [filter_take_succ fs i hi]
    rcases hmem x hx with rfl | hx
    · rw [if_pos rfl, ← hy]
      exact congrArg (· ++ [fs[i].blk]) (h.of y (by simp))
    · rw [if_neg (fun e => hne x hx e.symm), List.append_nil]
      exact h.of x (hold x hx)
  · intro f hf
    rw [List.take_succ_eq_append_getElem hi] at hf
    rcases List.mem_append.1 hf with hf | hf
    · obtain ⟨x, hx, hxk⟩ := h.all f hf
      simp only [List.mem_append, List.mem_cons] at hx
      rcases hx with hx | rfl | hx
      · exact ⟨x, List.mem_append_left _ hx, hxk⟩
      · exact ⟨⟨fs[i].k, v, x.ps ++ [fs[i].blk]⟩, by simp, by rw [← hxk]; exact hy.symm⟩
      · exact ⟨x, List.mem_append_right _ (List.mem_cons_of_mem _ hx), hxk⟩
    · simp at hf; subst hf
      exact ⟨⟨fs[i].k, v, y.ps ++ [fs[i].blk]⟩, by simp, rfl⟩
end Go.Proofs.YtjbbapodcngnaaaGreatDoor
namespace Go.Proofs.YtjbbapodcngnaaaGreatDoor
open Go.RowKit Hdr

theorem info_hf : (Tryz.prog.info? 160).map (fun i => (i.zero, i.size, i.bytes)) = some (some (.pointer none), 1, 8) := by kernel_rfl

theorem run_makeMap_n (w : World) (n : Int) : (Instr.makeMap 72 (some (.int .i64 n))).run Tryz.prog w = .ok (.map (some w.heap.size)) (w.alloc (.map #[] 0)) := by
  simp [Instr.makeMap, run_underlying und_map, asInt, asIntOf, Result.andThen]

theorem PS.mono {w : World} {base base' : Nat} {v : Value} {l : List Nat} (h : PS w base' v l) (hb : base ≤ base') : PS w base v l := by
  obtain ⟨h1, h2⟩ := h
  refine ⟨h1, ?_⟩
  rcases h2 with h2 | ⟨g, cap, cur, rfl, h3, h4⟩
  · exact .inl h2
  · exact .inr ⟨g, cap, cur, rfl, by omega, h4⟩

theorem Grouped.nil (w : World) (base : Nat) (fs : List Fd) : Grouped w base [] (fs.take 0) := by
  rw [List.take_zero]
  refine ⟨.nil, .nil, ?_, ?_, ?_, ?_⟩
  · intro x h; cases h
  · intro x h; cases h
  · intro x h; cases h
  · intro x h; cases h

theorem grp_cases (gs : List Grp) (k : List UInt8) : (∀ x ∈ gs, x.key ≠ k) ∨ ∃ a x b, gs = a ++ x :: b ∧ x.key = k ∧ ∀ y ∈ a, y.key ≠ k := by
  induction gs with
  | nil => exact .inl (fun x h => by cases h)
  | cons x gs ih =>
    by_cases h : x.key = k
    · exact .inr ⟨[], x, gs, rfl, h, fun y h => by cases h⟩
    · rcases ih with ih | ⟨a, y, b, rfl, h1, h2⟩
      · refine .inl (fun z hz => ?_)
        rcases List.mem_cons.1 hz with rfl | hz
        · exact h
        · exact ih z hz
      · refine .inr ⟨x :: a, y, b, rfl, h1, fun z hz => ?_⟩
        rcases List.mem_cons.1 hz with rfl | hz
        · exact h
        · exact h2 z hz

theorem PS.own_some {w : World} {base : Nat} {v : Value} {l : List Nat} (h : PS w base v l) (hl : l ≠ []) : ∃ g, v.ownBlock = some g ∧ base ≤ g ∧ g < w.heap.size := by
  obtain ⟨g, cap, rfl, h1, h2, _⟩ := h.block hl
  exact ⟨g, rfl, h1, h2⟩

/-- One field goes into its group. -/
theorem group_step {wr : World} {mb base : Nat} {gs : List Grp} {fs : List Fd} {i : Nat} (hi : i < fs.length) (hM : MapE wr mb gs) (hG : Grouped wr base gs (fs.take i)) (hmb : mb < base) :
    ∃ (v0 : Value) (ps0 : List Nat), (∀ W, MapE W mb gs → (Instr.lookup 72 (.map (some mb)) (str fs[i].k) false).run Tryz.prog W = .ok v0 W) ∧ PS wr base v0 ps0 ∧ ps0.length ≤ i ∧
      ∀ v' w2, PS w2 base v' (ps0 ++ [fs[i].blk]) → Keeps (fun k => v0.ownBlock = some k) wr w2 → (v'.ownBlock = v0.ownBlock ∨ ∃ g, v'.ownBlock = some g ∧ wr.heap.size ≤ g) →
        ∃ W, (Instr.mapUpdate 72 (.map (some mb)) (str fs[i].k) v').run Tryz.prog w2 = .ok () W ∧ ∃ gs', MapE W mb gs' ∧ Grouped W base gs' (fs.take (i + 1)) ∧ Keeps (In [mb]) w2 W := by
  have hother : ∀ (W w2 : World) (v0 : Value) (x : Grp), Keeps (fun k => v0.ownBlock = some k) wr w2 → Keeps (In [mb]) w2 W → x ∈ gs → x.v.ownBlock ≠ v0.ownBlock → PS W base x.v x.ps := fun W w2 v0 x k1 k2 hx hne => by
    obtain ⟨g, hg, hg1, hg2⟩ := (hG.own x hx).own_some (hG.some_ x hx)
    refine PS.keep (PS.keep (hG.own x hx) k1 (fun b hb => ?_)) k2 (fun b hb => ?_)
    · intro h
      exact hne (hb.trans h.symm)
    · rw [hg] at hb
      obtain rfl := Option.some.inj hb
      intro h
      simp [In] at h
      omega
  rcases grp_cases gs fs[i].k with hn | ⟨a, x, b, rfl, hxk, hn⟩
  · refine ⟨.slice none 0 0, [], fun W hW => run_lookup_none W mb gs _ hW hn, World.ownsRow_nil _ _ _ _, Nat.zero_le _, fun v' w2 hv' k hl => ?_⟩
    have hM2 := hM.keep k (fun h => by cases h)
    obtain ⟨W, hr, hMW, kW⟩ := run_update_none w2 mb gs ⟨fs[i].k, v', [fs[i].blk]⟩ hM2 hn
    obtain ⟨gv, hgv, hgv1, hgv2⟩ := PS.own_some hv' (by simp)
    refine ⟨W, hr, _, hMW, Grouped.push_new hi hG hn (PS.keep hv' kW (fun b hb => ?_)) (fun y hy => hother W w2 _ y k kW hy ?_) (fun y hy => ?_), kW⟩
    · rw [hgv] at hb
      obtain rfl := Option.some.inj hb
      intro h
      simp [In] at h
      omega
    · obtain ⟨g, hg, _⟩ := (hG.own y hy).own_some (hG.some_ y hy)
      rw [hg]
      intro h
      cases h
    · obtain ⟨g, hg, _, hg2⟩ := (hG.own y hy).own_some (hG.some_ y hy)
      rw [hg]
      rcases hl with hl | ⟨g', hl, hg'⟩
      · rw [hl]; intro h; cases h
      · rw [hl]; intro h; have := Option.some.inj h; omega
  · have hx : x ∈ a ++ x :: b := by simp
    have hap := hG.apart
    rw [List.pairwise_append, List.pairwise_cons] at hap
    have hne : ∀ y ∈ a ++ b, y ∈ a ++ x :: b ∧ y.v.ownBlock ≠ x.v.ownBlock := fun y hy => by
      rcases List.mem_append.1 hy with hy | hy
      · exact ⟨by simp [hy], hap.2.2 y hy x (List.mem_cons_self ..)⟩
      · exact ⟨by simp [hy], (hap.2.1.1 y hy).symm⟩
    refine ⟨x.v, x.ps, fun W hW => by rw [← hxk]; exact run_lookup_some W mb a b x hW (by rw [hxk]; exact hn), hG.own x hx, ?_, fun v' w2 hv' k hl => ?_⟩
    · rw [hG.of x hx, List.length_map]
      refine Nat.le_trans (List.length_filter_le _ _) ?_
      simp; omega
    · obtain ⟨gx, hgx, hgx1, hgx2⟩ := (hG.own x hx).own_some (hG.some_ x hx)
      have hM2 := hM.keep k (fun h => by rw [hgx] at h; have := Option.some.inj h; omega)
      obtain ⟨W, hr, hMW, kW⟩ := run_update_some w2 mb a b x ⟨fs[i].k, v', x.ps ++ [fs[i].blk]⟩ hM2 hxk hn
      obtain ⟨gv, hgv, hgv1, hgv2⟩ := PS.own_some hv' (by simp)
      refine ⟨W, hr, _, hMW, Grouped.push_old hi hG hxk (PS.keep hv' kW (fun b hb => ?_)) (fun y hy => hother W w2 _ y k kW (hne y hy).1 (hne y hy).2) (fun y hy => ?_), kW⟩
      · rw [hgv] at hb
        obtain rfl := Option.some.inj hb
        intro h
        simp [In] at h
        omega
      · obtain ⟨g, hg, _, hg2⟩ := (hG.own y (hne y hy).1).own_some (hG.some_ y (hne y hy).1)
        rcases hl with hl | ⟨g', hl, hg'⟩
        · rw [hl]; exact (hne y hy).2
        · rw [hl, hg]; intro h; have := Option.some.inj h; omega

set_option maxRecDepth 100000 in
set_option maxHeartbeats 2000000 in
theorem makeHeaderMap_any (lb cap lo hi : Nat) (fs : List Fd) (len : Nat) (hlen : len = fs.length) (w : World) (hp : PtrsAt w lb (fs.map (·.blk))) (hf : Fds w lo hi fs) (hhi : hi ≤ w.heap.size) (hn : fs.length ≤ 1000000) :
    Calls Tryz.prog 72 #[.slice (some ⟨lb, 0, none⟩) len cap] w (MhmPost fs w) := by
  have hlb := hp.lt
  have HP := Lib.hid hp
  have HF := Lib.hid hf
  have HL := Lib.hid hlen
  have hmm := run_makeMap_n
  have hlen2 : len ≤ 1000000 := by omega
  clear hp hf hlen
  go_enter Tryz.func72, Tryz.ntmps72
  by_cases h0 : len = 0
  · subst h0
    go_wp2
    go_ret
    exact ⟨none, rfl, .inl ⟨rfl, List.length_eq_zero_iff.1 HL.out.symm⟩, Keeps.refl _ _⟩
  · have e0 : ((len : Int) == 0) = false := by simp; omega
    go_wp2
    go_loopg [14] len (fun n s14 wr => ∃ (i : Nat) (gs : List Grp), s14 = .int .i64 i ∧ i + n = len ∧ MapE wr w.heap.size gs ∧ Grouped wr (w.heap.size + 1) gs (fs.take i) ∧ Keeps (Up w.heap.size []) w wr ∧ w.heap.size + 1 ≤ wr.heap.size)
    case atStart => exact ⟨0, [], rfl, by omega, ⟨#[], 0, heap_alloc_new w _, rfl⟩, Grouped.nil _ _ _, (Keeps.refl _ w).alloc _, by simp⟩
    case round =>
      obtain ⟨i, gs, rfl, hin, hM, hG, K, hsz⟩ := hrel
      have HIN := Lib.hid hin
      have HM := Lib.hid hM
      have HG := Lib.hid hG
      have hi0 : i ≤ len := by omega
      clear hin hM hG
      by_cases hi : i < len
      · have hil : i < fs.length := by have := HL.out; omega
        have hfi := (HF.out fs[i] (List.getElem_mem _)).keep K (fun x h => by rcases h with h | h; cases h; omega)
        have hx1 : wr.cell? ⟨lb, i, none⟩ = some (.pointer (some ⟨fs[i].blk, 0, none⟩)) := by
          have := (HP.out.keep K (fun h => by rcases h with h | h; cases h; omega)).cell (i := i) (by simpa using hil)
          simpa using this
        have hx2 : wr.cell? ⟨fs[i].blk, 1, none⟩ = some (str fs[i].k) := hfi.B.cell 1
        have hblk : fs[i].blk < w.heap.size := by have := hfi.lt; omega
        obtain ⟨v0, ps0, hlk, hown, hpl, hfin⟩ := group_step hil HM.out HG.out (Nat.lt_succ_self _)
        generalize hfb : fs[i].blk = fb at *
        generalize hfk : fs[i].k = fk at *
        have HFIN := Lib.hid hfin
        have HOWN := Lib.hid hown
        clear hfi hfb hfk hfin hown
        have hii : (i : Int) < (len : Int) := by omega
        have e1 : decide ((i : Int) < (len : Int)) = true := decide_eq_true (by omega)
        go_wp2
        refine region_eff [0, 1, 2, 3, 4, 5, 6, 7, 8, 9, 10, 11, 12, 13, 14] [15, 16] 17 (fun W => W.cell? ⟨lb, i, none⟩ = some (.pointer (some ⟨fb, 0, none⟩)) ∧ W.cell? ⟨fb, 1, none⟩ = some (str fk) ∧ MapE W w.heap.size gs) (by kernel_rfl) (by kernel_rfl) ?_ ?_
        · exact ⟨hx1, hx2, HM.out.keep ((Keeps.refl No _).drew) (fun h => h)⟩
        intro ι F hne hF
        have c1 := fun j => (hF j).1
        have c2 := fun j => (hF j).2.1
        have c3 := fun j => hlk _ (hF j).2.2
        clear hF hlk
        simp only [pick, List.filterMap_cons, List.filterMap_nil, List.getElem?_cons_succ, List.getElem?_cons_zero, List.drop_succ_cons, List.drop_zero]
        repeat (quiet_step (fail))
        refine wpQuiet_nil ?_
        have hM := HM.out
        obtain ⟨i0, hi, hz0, hz1, hz2⟩ := info_parts info_hf
        rw [wpEffs]
        go_wp2
        have kA : Keeps No wr (wr.alloc (.cells #[.pointer (some ⟨fb, 0, none⟩)] 160)).drew := ((Keeps.refl No wr).alloc _).drew
        refine EffPost.intro ⟨?_, ?_, ?_⟩ ?_
        · exact kA.cell hx1 (fun h => h)
        · exact kA.cell hx2 (fun h => h)
        · exact hM.keep kA (fun h => h)
        rw [wpEffs]
        go_wp2_with (at_builtin; refine wpList_append_own_at _ rfl (.tmp 29) (.tmp 34) 71 rfl (w.heap.size + 1) 160 i0 (.pointer none) 1 8 Tryz.underlying71 hi hz0 hz1 hz2 rfl (by decide) v0 ps0.length (ptrs ps0) rfl (PS.keep HOWN.out kA (fun _ _ h => h)) ⟨wr.heap.size, 0, none⟩ 1 1 (ptrs [fb]) rfl rfl ?c1 (ptrs_one _) ?c3 ?c4 ?c5 ?_)
        case c1 =>
          intro j u hj
          match j, hj with
          | 0, hj => simp [ptrs] at hj; subst hj; simp [Addr.add]
          | j + 1, hj => simp [ptrs] at hj
        case c3 => unfold maxLen; omega
        case c4 => omega
        case c5 => simp; omega
        intro v' w2 hown' hgrow _ hloc
        have kG : Keeps (fun k => v0.ownBlock = some k) wr w2 := (kA.of_no).grown hgrow (fun k hk => .inl hk)
        have hloc' : v'.ownBlock = v0.ownBlock ∨ ∃ g, v'.ownBlock = some g ∧ wr.heap.size ≤ g := hloc.imp id (fun h => ⟨_, h, by simp⟩)
        have hP : PS w2 (w.heap.size + 1) v' (ps0 ++ [fb]) := by
          rw [← ptrs_append, show ps0.length + 1 = (ps0 ++ [fb]).length by simp] at hown'
          exact hown'
        have hlb' : v0.ownBlock ≠ some lb := fun h => by
          have := (HOWN.out.lt lb h).1
          omega
        have hfb' : v0.ownBlock ≠ some fb := fun h => by
          have := (HOWN.out.lt fb h).1
          omega
        have hmb' : v0.ownBlock ≠ some w.heap.size := fun h => by
          have := (HOWN.out.lt _ h).1
          omega
        have HUP := Lib.hid (HFIN.out v' w2 hP kG hloc')
        go_wp2
        refine EffPost.intro ⟨kG.cell hx1 hlb', kG.cell hx2 hfb', hM.keep kG hmb'⟩ ?_
        rw [wpEffs]
        go_wp2_with (at_mapUpdate; refine wpList_update rfl (.tmp 19) (.tmp 23) (.tmp 35) rfl w.heap.size fk v' rfl rfl rfl HUP.out ?_; rintro W ⟨gs', hM', hG', kW⟩)
        go_wp2
        go_roundg (gk - 1)
        case measure => have := HIN.out; omega
        case rel =>
          refine ⟨i + 1, gs', by simp, by have := HIN.out; omega, hM', hG', ?_, ?_⟩
          · refine (K.trans' (kG.mono (fun k _ h => ?_))).trans' (kW.mono (fun k _ h => ?_))
            · exact .inr (by have := (HOWN.out.lt k h).1; omega)
            · exact .inr (by simp [In] at h; omega)
          · have := kG.size; have := kW.size; omega
      · have e1 : decide ((i : Int) < (len : Int)) = false := decide_eq_false (by omega)
        have hil : i = len := by omega
        go_wp2
        go_ret
        refine ⟨some w.heap.size, rfl, .inr ⟨w.heap.size, gs, rfl, Nat.le_refl _, HM.out, ?_⟩, (K.down (Nat.le_refl _)).mono (fun _ _ h => by cases h)⟩
        have hG := HG.out
        rw [hil, HL.out, List.take_length] at hG
        exact ⟨hG.keys, hG.apart, fun x hx => PS.mono (hG.own x hx) (Nat.le_succ _), hG.some_, hG.of, hG.all⟩
end Go.Proofs.YtjbbapodcngnaaaGreatDoor
namespace Go.Proofs.YtjbbapodcngnaaaGreatDoor
open Go.RowKit Hdr

/-- Pointers begin block lb; it is ours to write. -/
def POwn (w : World) (lb cap : Nat) (l : List Nat) : Prop := ∃ more, Blk w lb (ptrs l ++ more) 160 ∧ l.length + more.length = cap ∧ cap ≤ maxLen
theorem POwn.ptrs {w : World} {lb cap : Nat} {l : List Nat} (h : POwn w lb cap l) : PtrsAt w lb l := by
  obtain ⟨more, h, _⟩ := h
  exact ⟨_, _, h, by simp [List.take_left']⟩
theorem PtrsAt.cell_of {w : World} {lb : Nat} {l : List Nat} (h : PtrsAt w lb l) {i x : Nat} (hi : l[i]? = some x) : w.cell? ⟨lb, i, none⟩ = some (.pointer (some ⟨x, 0, none⟩)) := by
  have hl := (List.getElem?_eq_some_iff.1 hi).1
  rw [h.cell hl]
  rw [(List.getElem?_eq_some_iff.1 hi).2]
theorem POwn.keep {S : Nat → Prop} {w w' : World} {lb cap : Nat} {l : List Nat} (h : POwn w lb cap l) (k : Keeps S w w') (hS : ¬ S lb) : POwn w' lb cap l := by
  obtain ⟨more, h, h2⟩ := h
  exact ⟨more, h.keep k hS, h2⟩
theorem POwn.frozen {w : World} {lb cap : Nat} {l : List Nat} (h : POwn w lb cap l) (i : Nat) : w.frozen? ⟨lb, i, none⟩ = false := by
  obtain ⟨more, h, _⟩ := h
  exact h.frozen i
theorem POwn.set {w : World} {lb cap : Nat} {l : List Nat} (h : POwn w lb cap l) (i : Nat) (hi : i < l.length) (x : Nat) : POwn (w.setCell ⟨lb, i, none⟩ (.pointer (some ⟨x, 0, none⟩))) lb cap (l.set i x) := by
  obtain ⟨more, h, h2⟩ := h
  refine ⟨more, (h.set i _).to ?_, by simpa using h2⟩
  rw [List.set_append_left _ _ (by simpa using hi)]
  simp [Go.Proofs.YtjbbapodcngnaaaGreatDoor.ptrs, List.map_set]

/-- What newHeader leaves: the same block, turned round, and the map. -/
def NhPost (lb cap : Nat) (fs : List Fd) (w : World) (e : Ending) (w' : World) : Prop :=
  ∃ m, e = .returned (.agg #[.slice (some ⟨lb, 0, none⟩) fs.length cap, .map m]) ∧ POwn w' lb cap (fs.reverse.map (·.blk)) ∧ HMap w' w.heap.size m fs.reverse ∧ Keeps (In [lb]) w w'

theorem wrap_small (n : Nat) (h : n ≤ 1000000000000) : IntKind.i64.wrap (n : Int) = (n : Int) := by rw [IntKind.wrap_i64]; omega
theorem swap_list (a m c : List Nat) (x y : Nat) : ((a ++ [x] ++ m ++ y :: c).set a.length y).set (a.length + 1 + m.length) x = a ++ (y :: m ++ [x]) ++ c := by
  rw [List.append_assoc, List.append_assoc, List.set_append_right _ _ (Nat.le_refl _), Nat.sub_self]
  simp only [List.singleton_append, List.set_cons_zero]
  rw [List.set_append_right _ _ (by omega), show a.length + 1 + m.length - a.length = m.length + 1 by omega]
  simp only [List.set_cons_succ]
  rw [List.set_append_right _ _ (Nat.le_refl _), Nat.sub_self]
  simp

set_option maxRecDepth 100000 in
set_option maxHeartbeats 2000000 in
theorem newHeader_any (lb cap lo hi : Nat) (fs : List Fd) (len : Nat) (hlen : len = fs.length) (w : World) (hp : POwn w lb cap (fs.map (·.blk))) (hf : Fds w lo hi fs) (hhi : hi ≤ w.heap.size) (hn : fs.length ≤ 1000000) :
    Calls Tryz.prog 105 #[.slice (some ⟨lb, 0, none⟩) len cap] w (NhPost lb cap fs w) := by
  have HP := Lib.hid hp
  have HF := Lib.hid hf
  have HL := Lib.hid hlen
  have hlen2 : len ≤ 1000000 := by omega
  have hlbw := hp.ptrs.lt
  clear hp hf hlen
  go_enter Tryz.func105, Tryz.ntmps105
  go_wp2
  go_loopg [3] (len / 2) (fun n s3 wr => ∃ a m c : List Nat, s3 = .int .i64 ((a.length : Int) - 1) ∧ n = a.length ∧ c.length = a.length ∧ fs.map (·.blk) = a ++ m ++ c ∧ POwn wr lb cap (a ++ m.reverse ++ c) ∧ Keeps (Up w.heap.size [lb]) w wr ∧
    Blk wr w.heap.size [.slice none 0 0, .map none] 74)
  case atStart =>
    have h1 := HL.out
    generalize hl : fs.map (·.blk) = l at *
    have h2 : l.length = len := by rw [← hl]; simp [h1]
    have hsplit : l = l.take (len / 2) ++ (l.drop (len / 2)).take (len - 2 * (len / 2)) ++ l.drop (len - len / 2) := by
      rw [List.append_assoc]
      conv => lhs; rw [← List.take_append_drop (len / 2) l]
      congr 1
      conv => lhs; rw [← List.take_append_drop (len - 2 * (len / 2)) (l.drop (len / 2))]
      rw [List.drop_drop]
      congr 2
      omega
    have hmid : ((l.drop (len / 2)).take (len - 2 * (len / 2))).reverse = (l.drop (len / 2)).take (len - 2 * (len / 2)) := by
      generalize hq : (l.drop (len / 2)).take (len - 2 * (len / 2)) = q
      have : q.length ≤ 1 := by rw [← hq]; simp; omega
      match q, this with
      | [], _ => rfl
      | [x], _ => rfl
    refine ⟨l.take (len / 2), (l.drop (len / 2)).take (len - 2 * (len / 2)), l.drop (len - len / 2), ?_, ?_, ?_, ?_, ?_, ((Keeps.refl _ w).alloc _), Blk.new _ _ _⟩
    · rw [List.length_take, h2]; congr 1; omega
    · rw [List.length_take, h2]; omega
    · rw [List.length_take, List.length_drop, h2]; omega
    · exact hsplit
    · rw [hmid]
      rw [← hsplit]
      have := HP.out
      exact this.keep ((Keeps.refl No _).alloc _) (fun h => h)
  case round =>
    obtain ⟨a, m, c, rfl, hna, hca, hfl, hpo, K, hB⟩ := hrel
    have HPO := Lib.hid hpo
    have HFL := Lib.hid hfl
    have HNA := Lib.hid hna
    have HCA := Lib.hid hca
    have HB := Lib.hid hB
    have hll : len = a.length + m.length + c.length := by
      have := congrArg List.length hfl
      have := HL.out
      simp at *
      omega
    have HLL := Lib.hid hll
    clear hpo hfl hna hca hB hll
    rcases nil_or_snoc a with rfl | ⟨a', x, rfl⟩
    · have hc0 : c = [] := List.length_eq_zero_iff.1 HCA.out
      subst hc0
      have hpo := HPO.out
      have hm : fs.map (·.blk) = m := by have := HFL.out; simpa using this
      have hrev : m.reverse = fs.reverse.map (·.blk) := by rw [← hm, List.map_reverse]
      rw [List.nil_append, List.append_nil, hrev] at hpo
      have HPO' := Lib.hid hpo
      clear hm hrev hpo
      have hf := HF.out.keep_lb HP.out.ptrs.typed (K.mono (fun x _ h => by
        rcases h with h | h
        · simp at h; exact .inl h
        · exact .inr (.inr h))) hhi
      go_wp2_with (fail)
      refine (makeHeaderMap_any lb cap lo hi fs.reverse len (by rw [List.length_reverse]; exact HL.out) wr HPO'.out.ptrs (fun f h => hf f (List.mem_reverse.1 h)) (by have := K.size; omega) (by simpa using hn)).mono ?_
      rintro e w2 ⟨mv, rfl, hm2, k2⟩
      have hB2 := HB.out.keep_no k2
      have fz2 := hB2.frozen
      have c0 : w2.cell? ⟨w.heap.size, 0, none⟩ = some (.slice none 0 0) := hB2.cell 0
      have c1 : w2.cell? ⟨w.heap.size, 1, none⟩ = some (.map none) := hB2.cell 1
      have HM2 := Lib.hid hm2
      have HB2 := Lib.hid hB2
      clear hm2 hB2
      go_wp2_with (fail)
      refine bodyPost_ret (results_cell_row rfl _ _ w.heap.size 74 #[.slice (some ⟨lb, 0, none⟩) len cap, .map mv] (0, 0) _ rfl ((HB2.out.set 0 (.slice (some ⟨lb, 0, none⟩) len cap)).set 1 (.map mv)) Tryz.underlying74 rfl (by kernel_rfl)) rfl ?_
      have kk : Keeps (In [w.heap.size]) w2 ((w2.setCell ⟨w.heap.size, 0, none⟩ (.slice (some ⟨lb, 0, none⟩) len cap)).setCell ⟨w.heap.size, 1, none⟩ (.map mv)) := ((Keeps.refl _ w2).setCell (.inl (by simp [In])) _).setCell (.inl (by simp [In])) _
      refine ⟨mv, by rw [HL.out], (HPO'.out.keep k2 (fun h => h)).keep kk (fun h => by simp [In] at h; omega), ?_, ?_⟩
      · rcases HM2.out with ⟨h1, h2⟩ | ⟨mb, gs, h1, h2, h3, h4⟩
        · exact .inl ⟨h1, h2⟩
        · have hws := K.size
          have hlt := HB.out.lt
          refine .inr ⟨mb, gs, h1, by omega, h3.keep kk (fun h => by simp [In] at h; omega), ?_⟩
          have h5 := h4.keep kk (fun x hx b hb h => by
            have := ((h4.own x hx).lt b hb).1
            simp [In] at h
            omega)
          exact ⟨h5.keys, h5.apart, fun x hx => PS.mono (h5.own x hx) hws, h5.some_, h5.of, h5.all⟩
      · have hws := K.size
        refine (((K.trans' (k2.of_no)).trans' (kk.mono (fun x _ h => .inr (by simp [In] at h; omega)))).mono (fun x hx h => ?_))
        rcases h with h | h
        · exact h
        · omega
    · obtain ⟨y, c', rfl⟩ : ∃ y c', c = y :: c' := by
        cases c with
        | nil => have := HCA.out; simp at this
        | cons y c' => exact ⟨y, c', rfl⟩
      have e1 : (((a' ++ [x]).length : Nat) : Int) - 1 = (a'.length : Int) := by simp
      rw [e1]
      have hx := HPO.out.ptrs.cell_of (i := a'.length) (x := x) (by simp)
      have hy := HPO.out.ptrs.cell_of (i := a'.length + 1 + m.length) (x := y) (by
        rw [List.getElem?_append_right (by simp; omega)]
        simp only [List.length_append, List.length_cons, List.length_nil, List.length_reverse, Nat.zero_add, Nat.sub_self, List.getElem?_cons_zero])
      have fz := HPO.out.frozen
      have hlen' : len = a'.length + 1 + m.length + 1 + c'.length := by have := HLL.out; simp at this; omega
      have hset : ∀ w', POwn w' lb cap (a' ++ [x] ++ m.reverse ++ y :: c') → POwn ((w'.setCell ⟨lb, a'.length, none⟩ (.pointer (some ⟨y, 0, none⟩))).setCell ⟨lb, a'.length + 1 + m.length, none⟩ (.pointer (some ⟨x, 0, none⟩))) lb cap (a' ++ (y :: m.reverse ++ [x]) ++ c') := fun w' h => by
        have := (h.set a'.length (by simp) y).set (a'.length + 1 + m.length) (by simp; omega) x
        rw [show a'.length + 1 + m.length = a'.length + 1 + m.reverse.length by simp] at this ⊢
        rwa [swap_list] at this
      have HSET := Lib.hid hset
      clear hset
      generalize hop : a'.length + 1 + m.length = op at *
      have hcc : c'.length = a'.length := by have := HCA.out; simp at this; omega
      have h5 : (len : Int) - 1 - (a'.length : Int) = (op : Int) := by omega
      have h5' : IntKind.i64.wrap ((len : Int) - 1 - (a'.length : Int)) = (op : Int) := by rw [h5]; exact wrap_small op (by omega)
      have h6 : (op : Int) < (len : Int) := by omega
      have h7 : (a'.length : Int) < (len : Int) := by omega
      have h8 : (0 : Int) ≤ (a'.length : Int) := by omega
      have h9 : (0 : Int) ≤ (op : Int) := by omega
      have h10 : op ≠ a'.length := by omega
      have h11 : a'.length ≤ 1000000 := by omega
      clear hlen' hcc
      generalize hii : a'.length = ii at *
      go_wp2
      go_region
      go_wp2
      go_roundg (gk - 1)
      case measure => have := HNA.out; simp at this; omega
      case rel =>
        have hna := HNA.out
        have hca := HCA.out
        simp at hna hca
        refine ⟨a', x :: m ++ [y], c', by rw [hii], by omega, by omega, ?_, ?_, ?_, ?_⟩
        · rw [HFL.out]; simp
        · have := (HSET.out _ HPO.out).keep ((Keeps.refl No _).drew) (fun h => h)
          simpa using this
        · exact ((K.setCell (.inl (.inl (by simp))) _).setCell (.inl (.inl (by simp))) _).drew
        · refine ((HB.out.set_other ?_ _).set_other ?_ _).keep ((Keeps.refl No _).drew) (fun h => h)
          · simp; omega
          · simp; omega
end Go.Proofs.YtjbbapodcngnaaaGreatDoor
namespace Go.Proofs.YtjbbapodcngnaaaGreatDoor
open Go.RowKit Hdr

/-- What newHeaderField leaves. -/
def NfPost (k v : List UInt8) (rv : Value) (w : World) (e : Ending) (w' : World) : Prop :=
  ∃ fb : Nat, e = .returned (.pointer (some ⟨fb, 0, none⟩)) ∧ w.heap.size ≤ fb ∧ fb < w'.heap.size ∧ Blk w' fb [rv, str (canon k), str v] 185 ∧ Keeps No w w'

set_option maxRecDepth 100000 in
set_option maxHeartbeats 1000000 in
theorem newHeaderField_any (k v : List UInt8) (rv : Value) (hrv : ∃ a n c, rv = .slice a n c) (w : World) (hlen : k.length ≤ 1000000000) :
    Calls Tryz.prog 97 #[str k, str v, rv] w (NfPost k v rv w) := by
  obtain ⟨a, n, c, rfl⟩ := hrv
  go_enter Tryz.func97, Tryz.ntmps97
  go_wp2_with (fail)
  refine (canonicalKey_any k w hlen).mono ?_
  rintro e w1 ⟨rfl, K⟩
  go_wp2
  go_ret
  exact ⟨w1.heap.size, rfl, K.size, by simp, Blk.new w1 _ _, K.alloc _⟩

/-- What errors.New leaves: an error that is not nil. -/
def EnPost (w : World) (e : Ending) (w' : World) : Prop := ∃ eb : Nat, e = .returned (.iface 203 (.pointer (some ⟨eb, 0, none⟩))) ∧ Keeps No w w'

set_option maxRecDepth 100000 in
theorem errorsNew_any (l : ByteArray) (w : World) :
    Calls Tryz.prog 85 #[.string l] w (EnPost w) := by
  go_enter Tryz.func85, Tryz.ntmps85
  go_wp2
  go_ret
  exact ⟨w.heap.size, rfl, (Keeps.refl _ _).alloc _⟩

/-- A slice of pointers of ours, with its room. -/
def PO (w : World) (base g cap : Nat) (l : List Nat) : Prop :=
  base ≤ g ∧ l.length ≤ cap ∧ cap ≤ maxLen ∧ ∃ cur, Blk w g cur 160 ∧ cur.length = cap ∧ cur.take l.length = ptrs l
theorem PO.own {w : World} {base g cap : Nat} {l : List Nat} (h : PO w base g cap l) : POwn w g cap l := by
  obtain ⟨_, h1, h2, cur, hb, h3, ht⟩ := h
  exact ⟨cur.drop l.length, hb.to (by rw [← ht, List.take_append_drop]), by rw [List.length_drop]; omega, h2⟩
theorem POwn.po {w : World} {g cap : Nat} {l : List Nat} (h : POwn w g cap l) : PO w 0 g cap l := by
  obtain ⟨more, h1, h2, h3⟩ := h
  exact ⟨Nat.zero_le _, by omega, h3, _, h1, by simpa using h2, by rw [List.take_left' (ptrs_length l)]⟩
theorem PO.keep {S : Nat → Prop} {w w' : World} {base g cap : Nat} {l : List Nat} (h : PO w base g cap l) (k : Keeps S w w') (hS : ¬ S g) : PO w' base g cap l := by
  obtain ⟨h1, h2, h3, cur, hb, h4, h5⟩ := h
  exact ⟨h1, h2, h3, cur, hb.keep k hS, h4, h5⟩
theorem PO.row {w : World} {base g cap : Nat} {l : List Nat} (h : PO w base g cap l) : w.ownsRow base 160 1 (.slice (some ⟨g, 0, none⟩) l.length cap) l.length (ptrs l) := by
  obtain ⟨h1, h2, h3, cur, hb, h4, h5⟩ := h
  exact ⟨by simp, .inr ⟨g, cap, cur.toArray, rfl, h1, hb, h2, h3, by simpa using h4, by simpa using h5⟩⟩
theorem PO.of_row {w : World} {base : Nat} {v : Value} {n : Nat} {l : List Nat} (h : w.ownsRow base 160 1 v n (ptrs l)) (hv : v ≠ .slice none 0 0) : ∃ g cap, v = .slice (some ⟨g, 0, none⟩) n cap ∧ n = l.length ∧ PO w base g cap l := by
  obtain ⟨h1, h2⟩ := h
  have hn : n = l.length := by simpa using h1.symm
  rcases h2 with ⟨rfl, _⟩ | ⟨g, cap, cur, rfl, hb, hg, hc, hm, hs, ht⟩
  · exact absurd rfl hv
  · exact ⟨g, cap, rfl, hn, hb, by omega, hm, cur.toList, hg, by simpa using hs, by rw [← hn]; simpa using ht⟩
theorem PO.lt {w : World} {base g cap : Nat} {l : List Nat} (h : PO w base g cap l) : g < w.heap.size := by
  obtain ⟨_, _, _, cur, hb, _, _⟩ := h
  exact hb.lt

/-- append(s, x): one pointer, laid into a block of its own first. -/
theorem wpList_append_p {w : World} {ops : Array Oper} {rest : List Oper} {o : Oper} {a : Act} {Q : Exit → Act → World → Prop} (hgd : o.guard = none) (s x : Operand)
    (ho : o.op = .call { callee := .builtin .append, args := #[s, x], argTypes := #[71, 71] })
    (base g cap n : Nat) (l : List Nat) (hs : a.eval s = .slice (some ⟨g, 0, none⟩) n cap) (hn : n = l.length) (hown : PO w base g cap l)
    (ad : Addr) (m c : Nat) (new : List Nat) (hx : a.eval x = .slice (some ad) m c) (hm : m = new.length) (hnew : ∀ j u, (ptrs new)[j]? = some u → w.cell? (ad.add j) = some u)
    (hb : n + m ≤ 1000000000000) (hbase : base ≤ w.heap.size)
    (h : ∀ g' cap' W, PO W base g' cap' (l ++ new) → Keeps (In [g]) w W → (g' = g ∨ w.heap.size ≤ g') → wpList Tryz.prog ops Q rest (a.put o.dst (.slice (some ⟨g', 0, none⟩) (n + m) cap')) W) : wpList Tryz.prog ops Q (o :: rest) a w := by
  subst hn; subst hm
  obtain ⟨i, hi, hz0, hz1, hz2⟩ := info_parts info_hf
  refine wpList_append_own_at (P := Tryz.prog) w hgd s x 71 ho base 160 i (.pointer none) 1 8 Tryz.underlying71 hi hz0 hz1 hz2 rfl (by decide) _ l.length (ptrs l) hs hown.row ad new.length c (ptrs new) hx (by simp) hnew (ptrs_one new) (by unfold maxLen; omega) (by omega) hbase ?_
  intro v' W hrow hgr hnil hat
  have hv : v' ≠ .slice none 0 0 := fun e => by have := (hnil.1 e).1; simp at this
  rw [← ptrs_append] at hrow
  obtain ⟨g', cap', rfl, hl, ho⟩ := PO.of_row hrow hv
  refine h g' cap' W ho ?_ ?_
  · exact (Keeps.refl (In [g]) w).grown hgr (fun k hk => .inl (by simp [Value.ownBlock] at hk; simp [In, hk]))
  · simp only [Value.ownBlock, Option.some.injEq] at hat
    omega

/-- make([]*headerField, 0, n). -/
theorem wpList_make_p {w : World} {ops : Array Oper} {rest : List Oper} {o : Oper} {a : Act} {Q : Exit → Act → World → Prop} (hgd : o.guard = none) (l c : Operand) (hop : o.op = Op.makeSlice 71 l c)
    (base n : Nat) (C : Int) (hl : a.eval l = .int .i64 0) (hc : a.eval c = .int .i64 C) (hC : C = (n : Int)) (hn : n ≤ 1000000) (hbase : base ≤ w.heap.size)
    (h : ∀ W, PO W base w.heap.size n [] → Keeps No w W → wpList Tryz.prog ops Q rest (a.put o.dst (.slice (some ⟨w.heap.size, 0, none⟩) 0 n)) W) : wpList Tryz.prog ops Q (o :: rest) a w := by
  obtain ⟨i, hi, hz0, hz1, hz2⟩ := info_parts info_hf
  refine wpList_make_own (P := Tryz.prog) w hgd l c 71 hop base 160 i (.pointer none) 1 Tryz.underlying71 hi hz0 hz1 .i64 .i64 C n hl hc hC (by rw [hz2]; omega) (by unfold maxLen; omega) hbase ?_
  intro W hrow hgr
  obtain ⟨g', cap', he, -, ho⟩ := PO.of_row (l := []) hrow (by simp)
  simp only [Value.slice.injEq, Option.some.injEq, Addr.mk.injEq, and_true, true_and] at he
  obtain ⟨rfl, rfl⟩ := he
  exact h W ho ((Keeps.refl No w).grown hgr (fun k hk => by cases hk))

/-- A header out of its block. -/
theorem load_hdr (w : World) (g : Nat) (x y : Value) (h : Blk w g [x, y] 74) : (loadVar 74 ⟨g, 0, none⟩).run Tryz.prog w = .ok (.agg #[x, y]) w :=
  run_loadVar_row w g 74 74 #[x, y] (0, 0) _ h Tryz.underlying74 rfl (by kernel_rfl)

/-- The results of a function with a struct in a cell and a temporary. -/
theorem results_row_tmp {fn : Func} {p u : Tmp} {ty : TypeId} (h : fn.results = #[.cell p ty, .tmp u]) (tmps : Array Value) {P : Program} (w : World) (g : Nat) (v : Value) (hp : tmps.getD p undef = .pointer (some ⟨g, 0, none⟩)) (hl : (loadVar ty ⟨g, 0, none⟩).run P w = .ok v w) :
    (results fn tmps).run P w = .ok (.tuple #[v, tmps.getD u undef]) w := by
  rw [results_cell_tmp h tmps P w, hp]
  simp [asAddr, hl, Result.andThen]
end Go.Proofs.YtjbbapodcngnaaaGreatDoor
namespace Go.Proofs.YtjbbapodcngnaaaGreatDoor
open Go.RowKit Hdr

/-- What a field says. -/
def Fd.tells (f : Fd) (p : PF) : Prop := f.k = p.k ∧ f.v = p.v ∧ f.raw = some p.raw
/-- Fields that say what is said of them. -/
def Tells : List Fd → List PF → Prop
  | [], [] => True
  | f :: fs, p :: ps => f.tells p ∧ Tells fs ps
  | _, _ => False
theorem Tells.snoc : ∀ {fs : List Fd} {ps : List PF} {f : Fd} {p : PF}, Tells fs ps → f.tells p → Tells (fs ++ [f]) (ps ++ [p])
  | [], [], _, _, _, h => ⟨h, trivial⟩
  | _ :: _, _ :: _, _, _, h, h2 => ⟨h.1, Tells.snoc h.2 h2⟩
  | [], _ :: _, _, _, h, _ => h.elim
  | _ :: _, [], _, _, h, _ => h.elim

/-- The fields fit, and lie in blocks of their own. -/
def NB (fs : List Fd) (cap : Nat) : Prop := fs.length ≤ cap ∧ (fs.map (·.blk)).Nodup

theorem nodup_snoc {l : List Nat} {x : Nat} (h : l.Nodup) (hx : ∀ y ∈ l, y < x) : (l ++ [x]).Nodup := by
  rw [List.nodup_append]
  refine ⟨h, by simp, fun a ha b hb => ?_⟩
  simp only [List.mem_cons, List.not_mem_nil, or_false] at hb
  subst hb
  have := hx a ha
  omega

/-- What ReadHeader leaves. -/
def RhPost (b g s : Nat) (src : ByteArray) (r : Option (List PF × List UInt8)) (w : World) (e : Ending) (w' : World) : Prop :=
  Keeps (In [b, g, s]) w w' ∧
  match r with
  | none => ∃ xa xn xc ym ea c, e = .returned (.tuple #[.agg #[.slice xa xn xc, .map ym], .iface 203 (.pointer (some ea))]) ∧ Rd w' b g s src c
  | some (ps, c) => ∃ (lb cap : Nat) (m : Option Nat) (fs : List Fd), e = .returned (.tuple #[.agg #[.slice (some ⟨lb, 0, none⟩) fs.length cap, .map m], .nilIface]) ∧ w.heap.size ≤ lb ∧ NB fs cap ∧ POwn w' lb cap (fs.reverse.map (·.blk)) ∧ HMap w' (lb + 1) m fs.reverse ∧
      Fds w' w.heap.size w'.heap.size fs ∧ Tells fs ps ∧ Rd w' b g s src c

set_option maxRecDepth 100000 in
set_option maxHeartbeats 1000000 in
/-- readLineSlice, nothing before it. -/
theorem readLineSlice_nil (b g s : Nat) (src : ByteArray) (ea : Addr) (w : World) (c : List UInt8) (h : Rd w b g s src c) (hc : c ≠ []) (hs : Short c) {N : Nat} (E : Env N b g s src ea w) :
    Calls Tryz.prog 104 #[.pointer (some ⟨b, 0, none⟩), .slice none 0 0] w fun e w' => (∃ v, e = .returned (.tuple #[v, .nilIface])) ∧ (∃ c', Rd w' b g s src c') ∧ Keeps (In [b, g, s]) w w' := by
  have H := readLine_some b g s src ea w c h hc hs E
  obtain ⟨hb, hg, hs'⟩ := h.lt
  have hll : (line1 c).1.length < 4096 := by
    have h1 := hs.self
    unfold line1
    cases hb : behind c with
    | nil => simp only []; omega
    | cons x r =>
      simp only [chomp]
      split
      · simp; omega
      · omega
  clear h hs hc E
  go_enter Tryz.func104, Tryz.ntmps104
  go_wp2
  refine wp_loop_rounds 1 ?_
  rw [rounds_succ]
  go_wp2_with (fail)
  refine H.mono ?_
  rintro e w1 ⟨o, cap1, rfl, hcap, hby, R, K⟩
  have HB := Lib.hid hby
  clear hby H
  generalize hL : (line1 c).1 = L at *
  generalize hM : (line1 c).2 = M at *
  clear hL hM
  obtain ⟨i0, hi, hz0, hz1, hz2⟩ := info_parts info_u8
  go_wp2_with (at_builtin; refine wpList_append_own _ rfl (.tmp 15) (.tmp 16) 85 rfl w.heap.size 5 i0 (.int .u8 0) 1 1 Tryz.underlying85 hi hz0 hz1 hz2 rfl (by decide) (.slice none 0 0) 0 [] rfl (World.ownsRow_nil _ _ _ _) ⟨g, o, none⟩ L.length cap1 (u8s L) rfl (by simp) HB.out.cells (u8s_one _) (by unfold maxLen; omega) (by omega) K.size ?_; intro v' W hown hgr _)
  have K2 : Keeps No w1 W := (Keeps.refl No w1).grown hgr (fun k hk => by cases hk)
  have R2 := R.keep K2 (fun h => h) (fun h => h) (fun h => h)
  clear R
  go_wp2
  go_ret2
  exact ⟨⟨_, rfl⟩, ⟨_, R2⟩, K.trans_no K2⟩

/-- readContinuedLineSlice, whatever is left. -/
def KvAny (b g s : Nat) (src : ByteArray) (l c : List UInt8) (w : World) (e : Ending) (w' : World) : Prop :=
  ∃ (a : Option Addr) (cap : Nat), e = .returned (.tuple #[.slice a l.length cap, .nilIface]) ∧ Rd w' b g s src c ∧ Keeps (In [b, g, s]) w w' ∧ (l ≠ [] → ∃ k : Nat, a = some ⟨k, 0, none⟩ ∧ OwnS w' w.heap.size k cap l)
theorem kv_any (b g s : Nat) (src : ByteArray) (ea : Addr) (w : World) (c : List UInt8) (h : Rd w b g s src c) (hsh : Short c) (hlen : c.length ≤ 1000000000) {N : Nat} (E : Env N b g s src ea w) :
    Calls Tryz.prog 106 #[.pointer (some ⟨b, 0, none⟩)] w (KvAny b g s src (kv c).1 (kv c).2 w) := by
  by_cases hc : c = []
  · subst hc
    refine (kv_end b g s src ea w h E).mono ?_
    rintro e w' ⟨rfl, R, K⟩
    rw [kv_nil]
    exact ⟨none, 0, rfl, R, K, fun h => absurd rfl h⟩
  · refine (kv_some b g s src ea w c h hc hsh hlen E).mono ?_
    rintro e w' ⟨k, cap, rfl, O, R, K⟩
    exact ⟨_, cap, rfl, R, K, fun _ => ⟨k, rfl, O⟩⟩

theorem rh_bad_post {b g s : Nat} {src : ByteArray} {w w7 : World} {xa : Option Addr} {xn xc : Nat} {ym : Option Nat} {eb : Addr} {c : List UInt8} (hR : Rd w7 b g s src c) (K : Keeps (Up w.heap.size [b, g, s]) w w7) :
    RhPost b g s src none w (.returned (.tuple #[.agg #[.slice xa xn xc, .map ym], .iface 203 (.pointer (some eb))])) w7 :=
  ⟨K.down (Nat.le_refl _), xa, xn, xc, ym, eb, c, rfl, hR⟩

/-- The end: what is handed back. -/
theorem rh_end_post {b g s : Nat} {src : ByteArray} {w w4 w5 : World} {lb cap : Nat} {m : Option Nat} {fs : List Fd} {ps : List PF} {c : List UInt8} (hb : b < w.heap.size) (hg : g < w.heap.size) (hs : s < w.heap.size)
    (hlb : w.heap.size ≤ lb) (hne : w.heap.size ≠ lb) (hcap : NB fs cap) (K : Keeps (Up w.heap.size [b, g, s]) w w4) (hR : Rd w4 b g s src c) (hF : Fds w4 w.heap.size w4.heap.size fs) (hT : Tells fs ps) (hty : Typed w4 lb 160)
    (hH : Blk w4 w.heap.size [.slice none 0 0, .map none] 74) (hpo : POwn w5 lb cap (fs.reverse.map (·.blk))) (hm : HMap w5 w4.heap.size m fs.reverse) (k5 : Keeps (In [lb]) w4 w5) (x y : Value) :
    RhPost b g s src (some (ps, c)) w (.returned (.tuple #[.agg #[.slice (some ⟨lb, 0, none⟩) fs.length cap, .map m], .nilIface])) ((w5.setCell ⟨w.heap.size, 0, none⟩ x).setCell ⟨w.heap.size, 1, none⟩ y) := by
  have kk : Keeps (In [w.heap.size]) w5 ((w5.setCell ⟨w.heap.size, 0, none⟩ x).setCell ⟨w.heap.size, 1, none⟩ y) := ((Keeps.refl _ w5).setCell (.inl (by simp [In])) _).setCell (.inl (by simp [In])) _
  generalize ((w5.setCell ⟨w.heap.size, 0, none⟩ x).setCell ⟨w.heap.size, 1, none⟩ y) = w6 at *
  have hsz := K.size
  have hsz5 := k5.size
  have hsz6 := kk.size
  have hlt := hH.lt
  have hlb4 : lb < w4.heap.size := by
    obtain ⟨cs, f, h⟩ := hty
    exact (Array.getElem?_eq_some_iff.1 h).1
  have hF6 : Fds w6 w.heap.size w4.heap.size fs := by
    intro f hf
    have h4 := hF f hf
    have h1 := h4.B.typed.ne hty (by decide)
    have h2 := h4.B.typed.ne hH.typed (by decide)
    have h5 : Keeps (fun x => x = lb ∨ x = w.heap.size) w4 w6 := (k5.mono (fun x _ h => by simp [In] at h; exact .inl h)).trans' (kk.mono (fun x _ h => by simp [In] at h; exact .inr h))
    refine ⟨h4.ge, h4.lt, h4.B.keep h5 (fun h => by rcases h with h | h; exact h1 h; exact h2 h), ?_⟩
    have hR := h4.R
    cases hr : f.raw with
    | none => rw [hr] at hR; exact hR
    | some l =>
      rw [hr] at hR
      obtain ⟨rb, ro, cp, e1, e2, e3, e4, e5, e6⟩ := hR
      have n1 := e6.ne hty (by decide)
      have n2 := e6.ne hH.typed (by decide)
      exact ⟨rb, ro, cp, e1, e2, e3, e4, e5.keep h5 (fun h => by rcases h with h | h; exact n1 h; exact n2 h), e6.keep h5 (fun h => by rcases h with h | h; exact n1 h; exact n2 h)⟩
  refine ⟨?_, lb, cap, m, fs, rfl, hlb, hcap, hpo.keep kk (fun h => by simp [In] at h; omega), ?_, hF6.mono (by omega), hT, ?_⟩
  · refine (((K.trans' (k5.mono (fun x _ h => .inr (by simp [In] at h; omega)))).trans' (kk.mono (fun x _ h => .inr (by simp [In] at h; omega))))).down (Nat.le_refl _)
  · rcases hm with ⟨h1, h2⟩ | ⟨mb, gs, h1, h2, h3, h4⟩
    · exact .inl ⟨h1, h2⟩
    · refine .inr ⟨mb, gs, h1, by omega, h3.keep kk (fun h => by simp [In] at h; omega), ?_⟩
      have h5 := h4.keep kk (fun x hx b hb h => by
        have := ((h4.own x hx).lt b hb).1
        simp [In] at h
        omega)
      exact ⟨h5.keys, h5.apart, fun x hx => PS.mono (h5.own x hx) (by omega), h5.some_, h5.of, h5.all⟩
  · exact (hR.keep k5 (fun h => by simp [In] at h; omega) (fun h => by simp [In] at h; omega) (fun h => by simp [In] at h; omega)).keep kk (fun h => by simp [In] at h; omega) (fun h => by simp [In] at h; omega) (fun h => by simp [In] at h; omega)

set_option maxRecDepth 100000 in
set_option maxHeartbeats 2000000 in
theorem readHeader_nil (b g s : Nat) (src : ByteArray) (ea : Addr) (w : World) (h : Rd w b g s src []) {N : Nat} (E : Env N b g s src ea w) :
    Calls Tryz.prog 81 #[.pointer (some ⟨b, 0, none⟩)] w (RhPost b g s src (some ([], [])) w) := by
  have H := Lib.hid h
  have HE := Lib.hid E
  obtain ⟨hb, hg, hs'⟩ := h.lt
  clear h E
  go_enter Tryz.func81, Tryz.ntmps81
  go_wp2_with (at_make; refine wpList_make_p rfl (.const (.int .i64 0)) (.const (.int .i64 32)) rfl w.heap.size 32 32 rfl rfl (by decide) (by decide) (by simp) ?_; intro W0 O0 K0)
  rw [show (w.alloc (.cells #[.slice none 0 0, .map none] 74)).heap.size = w.heap.size + 1 by simp] at O0
  have K00 : Keeps No w W0 := ((Keeps.refl No w).alloc _).trans' K0
  have hB0 : Blk W0 w.heap.size [.slice none 0 0, .map none] 74 := (Blk.new w _ _).keep_no K0
  have R0 := H.out.keep K00 (fun h => h) (fun h => h) (fun h => h)
  have E0 := HE.out.keep_no K00
  refine (peek_none b g s src ea W0 R0 E0).mono ?_
  rintro e w1 ⟨o1, cap1, rfl, R1, K1⟩
  have hq := fun (w : World) (v : Value) => run_eql_iface_nil_left (P := Tryz.prog) w 203 v Tryz.underlying93
  have O1 := O0.keep K1 (fun h => by simp [In] at h; omega)
  have hB1 := hB0.keep K1 (fun h => by simp [In] at h; omega)
  have E1 := E0.keep3 K1
  have HO1 := Lib.hid O1
  have HB1 := Lib.hid hB1
  clear O0 O1 hB0 hB1 E0
  go_wp2
  refine wp_loop_rounds 1 ?_
  rw [rounds_succ]
  go_wp2_with (fail)
  refine (kv_any b g s src ea w1 [] R1 (fun b hb => by have := List.suffix_nil.1 hb; subst this; decide) (by simp) E1).mono ?_
  rintro e w4 ⟨a4, cap4, rfl, R4, K4, -⟩
  rw [kv_nil] at R4 ⊢
  have K14 : Keeps (Up w.heap.size [b, g, s]) w w4 := (K00.of_no.trans' K1.up).trans' K4.up
  have O4 := HO1.out.keep K4 (fun h => by simp [In] at h; omega)
  have HB := Lib.hid (HB1.out.keep K4 (fun h => by simp [In] at h; omega))
  have HO4 := Lib.hid O4
  clear O4 HO1 HB1
  go_wp2_with (fail)
  refine (newHeader_any (w.heap.size + 1) 32 w.heap.size w4.heap.size [] 0 rfl w4 HO4.out.own (fun f hf => by cases hf) (Nat.le_refl _) (by simp)).mono ?_
  rintro e w5 ⟨m5, rfl, hpo5, hm5, k5⟩
  have hB5 := HB.out.keep k5 (fun h => by simp [In] at h)
  have fz5 := hB5.frozen
  have c50 : w5.cell? ⟨w.heap.size, 0, none⟩ = some (.slice none 0 0) := hB5.cell 0
  have c51 : w5.cell? ⟨w.heap.size, 1, none⟩ = some (.map none) := hB5.cell 1
  have HB5 := Lib.hid hB5
  clear hB5
  go_wp2
  refine bodyPost_ret (results_row_tmp rfl _ _ w.heap.size _ rfl (load_hdr _ _ _ _ ((HB5.out.set 0 _).set 1 _))) rfl ?_
  exact rh_end_post (ps := []) (fs := []) hb hg hs' (by omega) (by omega) ⟨by simp, .nil⟩ K14 R4 (fun f hf => by cases hf) trivial HO4.out.own.ptrs.typed HB.out hpo5 hm5 k5 _ _
set_option maxRecDepth 100000 in
set_option maxHeartbeats 2000000 in
theorem readHeader_bad (b g s : Nat) (src : ByteArray) (ea : Addr) (w : World) (x : UInt8) (c : List UInt8) (h : Rd w b g s src (x :: c)) (hx : sp x = true) (hs : Short (x :: c)) {N : Nat} (E : Env N b g s src ea w) :
    Calls Tryz.prog 81 #[.pointer (some ⟨b, 0, none⟩)] w (RhPost b g s src none w) := by
  have H := Lib.hid h
  have HE := Lib.hid E
  have HX := Lib.hid hx
  have HS := Lib.hid hs
  obtain ⟨hb, hg, hs'⟩ := h.lt
  clear h E hx hs
  go_enter Tryz.func81, Tryz.ntmps81
  go_wp2_with (at_make; refine wpList_make_p rfl (.const (.int .i64 0)) (.const (.int .i64 32)) rfl w.heap.size 32 32 rfl rfl (by decide) (by decide) (by simp) ?_; intro W0 O0 K0)
  rw [show (w.alloc (.cells #[.slice none 0 0, .map none] 74)).heap.size = w.heap.size + 1 by simp] at O0
  have K00 : Keeps No w W0 := ((Keeps.refl No w).alloc _).trans' K0
  have hB0 : Blk W0 w.heap.size [.slice none 0 0, .map none] 74 := (Blk.new w _ _).keep_no K0
  have R0 := H.out.keep K00 (fun h => h) (fun h => h) (fun h => h)
  have E0 := HE.out.keep_no K00
  refine (peek_some b g s src ea W0 x c R0 E0).mono ?_
  rintro e w1 ⟨o1, cap1, rfl, hc1, R1, K1⟩
  unfold byt at hc1
  have O1 := O0.keep K1 (fun h => by simp [In] at h; omega)
  have hB1 := hB0.keep K1 (fun h => by simp [In] at h; omega)
  have E1 := E0.keep3 K1
  have HO1 := Lib.hid O1
  have HB1 := Lib.hid hB1
  clear O0 O1 hB0 hB1 E0
  go_wp2_with (fail)
  refine (isSpace_any x _).mono ?_
  rintro e w2 ⟨rfl, rfl⟩
  have hx := HX.out
  rw [hx]
  clear hx
  go_wp2_with (fail)
  refine (readLineSlice_nil b g s src ea w2 (x :: c) R1 (by simp) HS.out E1).mono ?_
  rintro e w4 ⟨⟨v4, rfl⟩, ⟨c4, R4⟩, K4⟩
  have K14 : Keeps (Up w.heap.size [b, g, s]) w w4 := (K00.of_no.trans' K1.up).trans' K4.up
  have O4 := HO1.out.keep K4 (fun h => by simp [In] at h; omega)
  have HB := Lib.hid (HB1.out.keep K4 (fun h => by simp [In] at h; omega))
  have HO4 := Lib.hid O4
  clear O4 HO1 HB1
  go_wp2_with (fail)
  refine (newHeader_any (w.heap.size + 1) 32 w.heap.size w4.heap.size [] 0 rfl w4 HO4.out.own (fun f hf => by cases hf) (Nat.le_refl _) (by simp)).mono ?_
  rintro e w5 ⟨m5, rfl, hpo5, hm5, k5⟩
  have hB5 := HB.out.keep k5 (fun h => by simp [In] at h)
  have HB5 := Lib.hid hB5
  clear hB5
  go_wp2_with (fail)
  refine (errorsNew_any _ w5).mono ?_
  rintro e w6 ⟨eb, rfl, k6⟩
  have hB6 := HB5.out.keep_no k6
  have fz6 := hB6.frozen
  have c60 : w6.cell? ⟨w.heap.size, 0, none⟩ = some (.slice none 0 0) := hB6.cell 0
  have c61 : w6.cell? ⟨w.heap.size, 1, none⟩ = some (.map none) := hB6.cell 1
  have HB6 := Lib.hid hB6
  clear hB6
  go_wp2
  refine bodyPost_ret (results_row_tmp rfl _ _ w.heap.size _ rfl (load_hdr _ _ _ _ ((HB6.out.set 0 _).set 1 _))) rfl ?_
  have kk : Keeps (Up w.heap.size [b, g, s]) w4 w5 := k5.mono (fun x _ h => .inr (by simp [In] at h; omega))
  refine rh_bad_post (c := c4) ?_ ((((K14.trans' kk).trans_no k6).setCell (.inr (Nat.le_refl _)) _).setCell (.inr (Nat.le_refl _)) _)
  have k7 : Keeps (In [w.heap.size + 1, w.heap.size]) w4 ((w6.setCell ⟨w.heap.size, 0, none⟩ (.slice (some ⟨w.heap.size + 1, 0, none⟩) 0 32)).setCell ⟨w.heap.size, 1, none⟩ (.map m5)) :=
    (((k5.mono (fun x _ h => by simp [In] at h; simp [In, h])).trans_no k6).setCell (.inl (by simp [In])) _).setCell (.inl (by simp [In])) _
  exact R4.keep k7 (fun h => by simp [In] at h; omega) (fun h => by simp [In] at h; omega) (fun h => by simp [In] at h; omega)
end Go.Proofs.YtjbbapodcngnaaaGreatDoor
namespace Go.Proofs.YtjbbapodcngnaaaGreatDoor
open Go.RowKit Hdr

theorem kv_Short {c : List UInt8} (h : Short c) : Short (kv c).2 := h.tail (kv_suffix c)

theorem Fds.nil (w : World) (lo hi : Nat) : Fds w lo hi [] := fun f hf => by cases hf
theorem OwnS.typed {w : World} {base g cap : Nat} {l : List UInt8} (h : OwnS w base g cap l) : Typed w g 5 := by
  obtain ⟨_, _, _, cur, hb, _, _⟩ := h
  exact hb.typed

set_option maxRecDepth 100000 in
set_option maxHeartbeats 1000000 in
theorem readHeader_some (b g s : Nat) (src : ByteArray) (ea : Addr) (w : World) (x : UInt8) (c : List UInt8) (h : Rd w b g s src (x :: c)) (hx : sp x = false) (hs : Short (x :: c)) (hlen : c.length + 1 ≤ 1000000) {N : Nat} (E : Env N b g s src ea w) :
    Calls Tryz.prog 81 #[.pointer (some ⟨b, 0, none⟩)] w (RhPost b g s src (rh (x :: c)) w) := by
  have H := Lib.hid h
  have HE := Lib.hid E
  have HX := Lib.hid hx
  have HS := Lib.hid hs
  obtain ⟨hb, hg, hs'⟩ := h.lt
  generalize hrr : rh (x :: c) = rr
  have HRR := Lib.hid hrr
  clear h E hx hs hrr
  go_enter Tryz.func81, Tryz.ntmps81
  go_wp2_with (at_make; refine wpList_make_p rfl (.const (.int .i64 0)) (.const (.int .i64 32)) rfl w.heap.size 32 32 rfl rfl (by decide) (by decide) (by simp) ?_; intro W0 O0 K0)
  rw [show (w.alloc (.cells #[.slice none 0 0, .map none] 74)).heap.size = w.heap.size + 1 by simp] at O0
  have K00 : Keeps No w W0 := ((Keeps.refl No w).alloc _).trans' K0
  have hB0 : Blk W0 w.heap.size [.slice none 0 0, .map none] 74 := (Blk.new w _ _).keep_no K0
  have R0 := H.out.keep K00 (fun h => h) (fun h => h) (fun h => h)
  have E0 := HE.out.keep_no K00
  refine (peek_some b g s src ea W0 x c R0 E0).mono ?_
  rintro e w1 ⟨o1, cap1, rfl, hc1, R1, K1⟩
  unfold byt at hc1
  have O1 := O0.keep K1 (fun h => by simp [In] at h; omega)
  have hB1 := hB0.keep K1 (fun h => by simp [In] at h; omega)
  have HO1 := Lib.hid O1
  have HB1 := Lib.hid hB1
  have HR1 := Lib.hid R1
  have hsz0 : w.heap.size + 1 < W0.heap.size := O0.lt
  clear O0 O1 hB0 hB1 E0 R1
  go_wp2_with (fail)
  refine (isSpace_any x _).mono ?_
  rintro e w2 ⟨rfl, rfl⟩
  have hx := HX.out
  rw [hx]
  clear hx hc1
  go_wp2
  go_loopg [4] (c.length + 1) (fun n s4 wr => ∃ (lb cap : Nat) (fs : List Fd) (ps : List PF) (c' : List UInt8), s4 = .slice (some ⟨lb, 0, none⟩) fs.length cap ∧ PO wr w.heap.size lb cap (fs.map (·.blk)) ∧ w.heap.size < lb ∧ Fds wr w.heap.size wr.heap.size fs ∧ Tells fs ps ∧ Rd wr b g s src c' ∧ Short c' ∧
    rr = (rh c').map (fun r => (ps ++ r.1, r.2)) ∧ Keeps (Up w.heap.size [b, g, s]) w wr ∧ Blk wr w.heap.size [.slice none 0 0, .map none] 74 ∧ n = c'.length ∧ fs.length + c'.length ≤ c.length + 1 ∧ (fs.map (·.blk)).Nodup)
  case atStart =>
    have h1 : rr = (rh (x :: c)).map (fun r => ([] ++ r.1, r.2)) := by rw [← HRR.out]; simp
    exact ⟨w.heap.size + 1, 32, [], [], x :: c, rfl, HO1.out, by omega, Fds.nil _ _ _, trivial, HR1.out, HS.out, h1, K00.of_no.trans' K1.up, HB1.out, rfl, by simp, .nil⟩
  case round =>
    obtain ⟨lb, cap, fs, ps, c', rfl, hPO, hlb, hF, hT, hR, hS, hrr, K, hB, hnn, hbd, hnd⟩ := hrel
    have HND := Lib.hid hnd
    clear hnd
    have HPO := Lib.hid hPO
    have HF := Lib.hid hF
    have HT := Lib.hid hT
    have HRR2 := Lib.hid hrr
    have HNN := Lib.hid hnn
    have HBD := Lib.hid hbd
    have hlbs := hPO.lt
    have hfl : fs.length ≤ 1000000 := by omega
    have Er := HE.out.up K hb
    have hLl := kv_len c'
    have hLs := kv_Short hS
    have hc'l : c'.length ≤ 1000000 := by omega
    clear hPO hF hT hrr hnn hbd
    go_wp2_with (fail)
    refine (kv_any b g s src ea wr c' hR hS (by omega) Er).mono ?_
    rintro e w4 ⟨a4, cap4, rfl, R4, K4, hO4⟩
    have PO4 := HPO.out.keep K4 (fun h => by simp [In] at h; omega)
    have F4 := (HF.out.keep K4 (fun x h => by simp [In] at h; omega)).mono K4.size
    have HB := Lib.hid (hB.keep K4 (fun h => by simp [In] at h; omega))
    have K14 : Keeps (Up w.heap.size [b, g, s]) w w4 := K.trans' K4.up
    have HPO4 := Lib.hid PO4
    have HF4 := Lib.hid F4
    clear PO4 F4 hB HPO HF Er hR
    by_cases hL : (kv c').1 = []
    · have hrh := rh_end hL
      have e1 : (kv c').1.length = 0 := by rw [hL]; rfl
      rw [e1]
      have HRH := Lib.hid hrh
      clear hrh hL hO4 e1
      generalize (kv c').2 = M at *
      go_wp2_with (fail)
      refine (newHeader_any lb cap w.heap.size w4.heap.size fs fs.length rfl w4 HPO4.out.own HF4.out (Nat.le_refl _) hfl).mono ?_
      rintro e w5 ⟨m5, rfl, hpo5, hm5, k5⟩
      have hB5 := HB.out.keep k5 (fun h => by simp [In] at h; omega)
      have fz5 := hB5.frozen
      have c50 : w5.cell? ⟨w.heap.size, 0, none⟩ = some (.slice none 0 0) := hB5.cell 0
      have c51 : w5.cell? ⟨w.heap.size, 1, none⟩ = some (.map none) := hB5.cell 1
      have HB5 := Lib.hid hB5
      clear hB5
      go_wp2
      refine bodyPost_ret (results_row_tmp rfl _ _ w.heap.size _ rfl (load_hdr _ _ _ _ ((HB5.out.set 0 _).set 1 _))) rfl ?_
      have hrr2 : rr = some (ps, M) := by rw [HRR2.out, HRH.out]; simp
      rw [hrr2]
      have hcap : NB fs cap := ⟨by have := HPO4.out.2.1; simpa using this, HND.out⟩
      exact rh_end_post hb hg hs' (by omega) (by omega) hcap K14 R4 HF4.out HT.out HPO4.out.own.ptrs.typed HB.out hpo5 hm5 k5 _ _
    · obtain ⟨k, rfl, O4⟩ := hO4 hL
      have hlt := kv_lt hL
      have hL1 : 0 < (kv c').1.length := List.length_pos_iff.2 hL
      have hno := rh_no hL
      have hbad := fun b x => @rh_bad c' b x hL
      have hskip := fun b x => @rh_skip c' b x hL
      have hmore := fun b x => @rh_more c' b x hL
      have hrec : ∀ r, rh c' = r → rh c' = r := fun _ h => h
      generalize hkv1 : (kv c').1 = L at *
      generalize hkv2 : (kv c').2 = M at *
      have HNO := Lib.hid hno
      have HBAD := Lib.hid hbad
      have HSKIP := Lib.hid hskip
      have HMORE := Lib.hid hmore
      have HO4 := Lib.hid O4
      have hk := O4.ge
      have hkl := O4.lt
      have hL3 : ((L.length : Int) == 0) = false := by simp; omega
      have hL4 : (L.length == 0) = false := by simp; omega
      clear hno hbad hskip hmore O4 hO4 hL hkv1 hkv2 hrec
      go_wp2_with (fail)
      refine (indexByte_any k 0 cap4 L 58 w4 HO4.out.bytes).mono ?_
      rintro e w4' ⟨rfl, rfl⟩
      have hdw := colon_split L
      have hcn := colon_no L
      cases hdr : L.dropWhile (· != 58) with
      | nil =>
        have hcl : (58 : UInt8) ∉ L := by
          rw [hdr, List.append_nil] at hdw
          rw [← hdw] at hcn
          exact hcn
        have HRH := Lib.hid (HNO.out hdr)
        have hix := ixb_none hcl
        rw [hix]
        clear hdr hcl hix hdw hcn
        go_wp2_with (fail)
        refine (newHeader_any lb cap w.heap.size w4'.heap.size fs fs.length rfl w4' HPO4.out.own HF4.out (Nat.le_refl _) hfl).mono ?_
        rintro e w5 ⟨m5, rfl, hpo5, hm5, k5⟩
        have hB5 := HB.out.keep k5 (fun h => by simp [In] at h; omega)
        have HB5 := Lib.hid hB5
        clear hB5
        go_wp2_with (fail)
        refine (errorsNew_any _ w5).mono ?_
        rintro e w6 ⟨eb, rfl, k6⟩
        have hB6 := HB5.out.keep_no k6
        have fz6 := hB6.frozen
        have c60 : w6.cell? ⟨w.heap.size, 0, none⟩ = some (.slice none 0 0) := hB6.cell 0
        have c61 : w6.cell? ⟨w.heap.size, 1, none⟩ = some (.map none) := hB6.cell 1
        have HB6 := Lib.hid hB6
        clear hB6
        go_wp2
        refine bodyPost_ret (results_row_tmp rfl _ _ w.heap.size _ rfl (load_hdr _ _ _ _ ((HB6.out.set 0 _).set 1 _))) rfl ?_
        have hrr2 : rr = none := by rw [HRR2.out, HRH.out]; rfl
        rw [hrr2]
        have kk : Keeps (Up w.heap.size [b, g, s]) w4' w5 := k5.mono (fun x _ h => .inr (by simp [In] at h; omega))
        refine rh_bad_post (c := M) ?_ ((((K14.trans' kk).trans_no k6).setCell (.inr (Nat.le_refl _)) _).setCell (.inr (Nat.le_refl _)) _)
        have k7 : Keeps (In [lb, w.heap.size]) w4' ((w6.setCell ⟨w.heap.size, 0, none⟩ (.slice (some ⟨lb, 0, none⟩) fs.length cap)).setCell ⟨w.heap.size, 1, none⟩ (.map m5)) :=
          (((k5.mono (fun x _ h => by simp [In] at h; simp [In, h])).trans_no k6).setCell (.inl (by simp [In])) _).setCell (.inl (by simp [In])) _
        exact R4.keep k7 (fun h => by simp [In] at h; omega) (fun h => by simp [In] at h; omega) (fun h => by simp [In] at h; omega)
      | cons y B =>
        obtain rfl := colon_head hdr
        have HDR := Lib.hid hdr
        rw [hdr] at hdw
        generalize hA : L.takeWhile (· != 58) = A at *
        have hix : Lib.indexByte L 58 = A.length := by
          rw [hdw]
          exact ixb_some hcn
        rw [hix]
        have hLA : L.length = A.length + 1 + B.length := by rw [hdw]; simp; omega
        have hAt : L.take A.length = A := by rw [hdw, List.take_left]
        have hBd : L.drop (A.length + 1) = B := by rw [hdw, List.drop_append, List.drop_eq_nil_of_le (Nat.le_succ _)]; simp
        have hLc := HO4.out.le
        have hbA : BytesAt w4' k 0 A := by have := HO4.out.bytes.take A.length; rwa [hAt] at this
        have hBc : BytesAt w4' k (cutAt 0 (A.length + 1) cap4 1) B := by
          have := HO4.out.bytes.cut_l (A.length + 1) hLc
          rwa [hBd] at this
        have h1 : decide ((A.length : Int) < 0) = false := decide_eq_false (by omega)
        have h2 : (A.length : Int) ≤ (cap4 : Int) := by omega
        have h3 : IntKind.i64.wrap ((A.length : Int) + 1) = (A.length : Int) + 1 := by rw [IntKind.wrap_i64]; omega
        have h4 : (A.length : Int) + 1 ≤ (L.length : Int) := by omega
        have h0 : (0 : Int) ≤ (A.length : Int) := by omega
        have h5 : (0 : Int) ≤ (A.length : Int) + 1 := by omega
        have HBC := Lib.hid hBc
        have HLA := Lib.hid hLA
        have HDW := Lib.hid hdw
        have HA := Lib.hid hA
        have htl := trim_len A
        clear hdr hcn hdw hix hAt hBd hBc hA hLA
        go_wp2_with (fail)
        refine (trim_any k 0 cap4 A A.length rfl w4' hbA (by omega) (by omega)).mono ?_
        rintro e w4'' ⟨o5, cap5, rfl, hc5, hbT, rfl⟩
        have hbad2 := HBAD.out B 58 HDR.out
        have hskip2 := HSKIP.out B 58 HDR.out
        have hmore2 := HMORE.out B 58 HDR.out
        generalize hTT : trim A = T at *
        have HBT := Lib.hid hbT
        have HBAD2 := Lib.hid hbad2
        have HSKIP2 := Lib.hid hskip2
        have HMORE2 := Lib.hid hmore2
        clear hTT hbT hbad2 hskip2 hmore2 HBAD HSKIP HMORE HNO
        go_wp2
        go_loopg [69] T.length (fun n s69 wx => ∃ j : Nat, s69 = .int .i64 j ∧ j + n = T.length ∧ (T.take j).all keyb = true ∧ w4'' = wx)
        case atStart => exact ⟨0, rfl, by omega, by simp, rfl⟩
        case round =>
          obtain ⟨j, rfl, hjn, hjk, rfl⟩ := hrel
          have HJK := Lib.hid hjk
          have HJN := Lib.hid hjn
          have hjle : j ≤ T.length := by omega
          clear hjk hjn
          by_cases hj : j < T.length
          · have hxx := HBT.out.cell hj
            have htk : T.take (j + 1) = T.take j ++ [T[j]] := List.take_succ_eq_append_getElem hj
            have hall : T.all keyb = true → keyb T[j] = true := fun h => by
              rw [List.all_eq_true] at h
              exact h _ (List.getElem_mem _)
            have hjj : (j : Int) < (T.length : Int) := by omega
            generalize hcc : T[j] = cc at *
            have HTK := Lib.hid htk
            clear hcc htk
            unfold byt at hxx
            go_wp2_with (fail)
            refine (validKey_any cc _).mono ?_
            rintro e w4x ⟨rfl, rfl⟩
            cases hkb : keyb cc with
            | true =>
              have HKB := Lib.hid hkb
              clear hkb hall
              go_wp2
              go_roundg (gk - 1)
              case measure => have := HJN.out; omega
              case rel =>
                refine ⟨j + 1, by simp, by have := HJN.out; omega, ?_, rfl⟩
                rw [HTK.out, List.all_append, HJK.out]
                simp [HKB.out]
            | false =>
              have hf : T.all keyb = false := by
                cases h : T.all keyb with
                | false => rfl
                | true => rw [hall h] at hkb; cases hkb
              have HRH := Lib.hid (HBAD2.out hf)
              clear hkb hall hf
              go_wp2_with (fail)
              refine (newHeader_any lb cap w.heap.size w4x.heap.size fs fs.length rfl w4x HPO4.out.own HF4.out (Nat.le_refl _) hfl).mono ?_
              rintro e w5 ⟨m5, rfl, hpo5, hm5, k5⟩
              have hB5 := HB.out.keep k5 (fun h => by simp [In] at h; omega)
              have HB5 := Lib.hid hB5
              clear hB5
              go_wp2_with (fail)
              refine (errorsNew_any _ w5).mono ?_
              rintro e w6 ⟨eb, rfl, k6⟩
              have hB6 := HB5.out.keep_no k6
              have fz6 := hB6.frozen
              have c60 : w6.cell? ⟨w.heap.size, 0, none⟩ = some (.slice none 0 0) := hB6.cell 0
              have c61 : w6.cell? ⟨w.heap.size, 1, none⟩ = some (.map none) := hB6.cell 1
              have HB6 := Lib.hid hB6
              clear hB6
              go_wp2
              refine bodyPost_ret (results_row_tmp rfl _ _ w.heap.size _ rfl (load_hdr _ _ _ _ ((HB6.out.set 0 _).set 1 _))) rfl ?_
              have hrr2 : rr = none := by rw [HRR2.out, HRH.out]; rfl
              rw [hrr2]
              have kk : Keeps (Up w.heap.size [b, g, s]) w4x w5 := k5.mono (fun x _ h => .inr (by simp [In] at h; omega))
              refine rh_bad_post (c := M) ?_ ((((K14.trans' kk).trans_no k6).setCell (.inr (Nat.le_refl _)) _).setCell (.inr (Nat.le_refl _)) _)
              have k7 : Keeps (In [lb, w.heap.size]) w4x ((w6.setCell ⟨w.heap.size, 0, none⟩ (.slice (some ⟨lb, 0, none⟩) fs.length cap)).setCell ⟨w.heap.size, 1, none⟩ (.map m5)) :=
                (((k5.mono (fun x _ h => by simp [In] at h; simp [In, h])).trans_no k6).setCell (.inl (by simp [In])) _).setCell (.inl (by simp [In])) _
              exact R4.keep k7 (fun h => by simp [In] at h; omega) (fun h => by simp [In] at h; omega) (fun h => by simp [In] at h; omega)
          · have hjT : j = T.length := by omega
            have hall : T.all keyb = true := by have := HJK.out; rwa [hjT, List.take_length] at this
            have HALL := Lib.hid hall
            have e9 : decide (j < T.length) = false := decide_eq_false hj
            clear hjT hall
            have hcv := run_string_of w4'' k o5 cap5 T T.length rfl HBT.out
            have hcl := canon_len T
            unfold str at hcv
            go_wp2_with (fail)
            refine (canonicalKey_any T w4'' (by omega)).mono ?_
            rintro e w5 ⟨rfl, K5⟩
            by_cases hT0 : T = []
            · have hcT : canon T = [] := List.length_eq_zero_iff.1 (by rw [hcl, hT0]; rfl)
              have HRH := Lib.hid (HSKIP2.out hT0)
              have heq : (canon T).isEmpty = true := by rw [hcT]; rfl
              clear hT0 hcT
              go_wp2
              go_roundg M.length
              case measure => have := HNN.out; omega
              case rel =>
                have hsz5 := K5.size
                refine ⟨lb, cap, fs, ps, M, rfl, HPO4.out.keep K5 (fun h => h), hlb, (HF4.out.keep K5 (fun x h => h.elim)).mono hsz5, HT.out, R4.keep K5 (fun h => h) (fun h => h) (fun h => h), hLs, by rw [HRR2.out, HRH.out], K14.trans_no K5, HB.out.keep_no K5, rfl, by have := HBD.out; omega, HND.out⟩
            · have hcT : canon T ≠ [] := fun h => hT0 (List.length_eq_zero_iff.1 (by rw [← hcl, h]; rfl))
              have heq : (canon T).isEmpty = false := by cases h : canon T with | nil => exact absurd h hcT | cons _ _ => rfl
              have HT0 := Lib.hid hT0
              clear hT0 hcT
              go_wp2_with (fail)
              have hbB : BytesAt w5 k (cutAt 0 (A.length + 1) cap4 1) B := HBC.out.keep K5 (fun h => h)
              refine (tan_any k (cutAt 0 (A.length + 1) cap4 1) (cap4 - (A.length + 1)) B (L.length - (A.length + 1)) (by have := HLA.out; omega) w5 hbB (by have := HLA.out; omega) (by have := HLA.out; omega)).mono ?_
              rintro e w6 ⟨rfl, K6⟩
              go_wp2_with (fail)
              refine (newHeaderField_any (canon T) (joins [] B) (.slice (some ⟨k, 0, none⟩) L.length cap4) ⟨_, _, _, rfl⟩ w6 (by omega)).mono ?_
              rintro e w7 ⟨fb, rfl, hfb1, hfb2, hBf, K7⟩
              have K47 : Keeps No w4'' w7 := (K5.trans' K6).trans' K7
              have PO7 := HPO4.out.keep K47 (fun h => h)
              have hsz7 := K47.size
              have hsz56 := (K5.trans' K6).size
              have HBf := Lib.hid hBf
              clear hBf
              have hc1 : ∀ j u, (ptrs [fb])[j]? = some u → (w7.alloc (.cells #[.pointer (some ⟨fb, 0, none⟩)] 160)).cell? ((⟨w7.heap.size, 0, none⟩ : Addr).add j) = some u := fun j u hj => by
                match j, hj with
                | 0, hj => simp [ptrs] at hj; subst hj; simp [Addr.add]
                | j + 1, hj => simp [ptrs] at hj
              have HC1 := Lib.hid hc1
              clear hc1
              go_wp2_with (at_builtin; refine wpList_append_p rfl (.tmp 92) (.tmp 97) rfl w.heap.size lb cap fs.length (fs.map (·.blk)) rfl (by simp) (PO7.keep ((Keeps.refl No _).alloc _) (fun h => h)) ⟨w7.heap.size, 0, none⟩ 1 1 [fb] rfl rfl HC1.out (by omega) (by have := K14.size; simp; omega) ?_; intro g8 cap8 W8 O8 K8 hg8)
              have HO8 := Lib.hid O8
              clear O8
              go_wp2
              go_roundg M.length
              case measure => have := HNN.out; omega
              case rel =>
                have hfl2 : fb ≠ lb := by omega
                have hkl2 : k ≠ lb := by omega
                have KA : Keeps No w4'' (w7.alloc (.cells #[.pointer (some ⟨fb, 0, none⟩)] 160)) := K47.alloc _
                have KB : Keeps (In [lb]) w4'' W8 := (KA.of_no).trans' K8
                have hszB := KB.size
                have hsz8 := K8.size
                have hszA : w7.heap.size + 1 ≤ W8.heap.size := by simpa using hsz8
                have hszr := K4.size
                have hsz0 := K.size
                have hFd : FdAt W8 w.heap.size W8.heap.size ⟨fb, canon (canon T), joins [] B, some L, .slice (some ⟨k, 0, none⟩) L.length cap4⟩ := by
                  refine ⟨?_, ?_, ?_, ?_⟩
                  · show w.heap.size ≤ fb; omega
                  · show fb < W8.heap.size; omega
                  · exact (HBf.out.alloc _).keep K8 (fun h => by simp [In] at h; omega)
                  · exact ⟨k, 0, cap4, rfl, hLc, by omega, by omega, HO4.out.bytes.keep KB (fun h => by simp [In] at h; omega), HO4.out.typed.keep KB (fun h => by simp [In] at h; omega)⟩
                have hF8 : Fds W8 w.heap.size W8.heap.size fs := (HF4.out.keep_lb HPO4.out.own.ptrs.typed (KB.mono (fun x _ h => by simp [In] at h; exact .inl h)) (Nat.le_refl _)).mono hszB
                refine ⟨g8, cap8, fs ++ [⟨fb, canon (canon T), joins [] B, some L, .slice (some ⟨k, 0, none⟩) L.length cap4⟩], ps ++ [⟨canon (canon T), joins [] B, L⟩], M, ?_, ?_, ?_, ?_, HT.out.snoc ⟨rfl, rfl, rfl⟩, ?_, hLs, ?_, ?_, ?_, rfl, ?_⟩
                · simp
                · simpa using HO8.out
                · rcases hg8 with rfl | hg8
                  · exact hlb
                  · simp at hg8; omega
                · intro f hf
                  rcases List.mem_append.1 hf with hf | hf
                  · exact hF8 f hf
                  · simp at hf; subst hf; exact hFd
                · exact R4.keep KB (fun h => by simp [In] at h; omega) (fun h => by simp [In] at h; omega) (fun h => by simp [In] at h; omega)
                · rw [HRR2.out, HMORE2.out HALL.out HT0.out]
                  cases rh M with
                  | none => rfl
                  | some r => simp
                · exact K14.trans' (KB.mono (fun x _ h => .inr (by simp [In] at h; omega)))
                · exact HB.out.keep KB (fun h => by simp [In] at h; omega)
                · refine ⟨by have := HBD.out; simp; omega, ?_⟩
                  rw [List.map_append]
                  refine nodup_snoc HND.out (fun y hy => ?_)
                  obtain ⟨f, hf, rfl⟩ := List.mem_map.1 hy
                  have := (HF4.out f hf).lt
                  show f.blk < fb
                  omega
end Go.Proofs.YtjbbapodcngnaaaGreatDoor
namespace Go.Proofs.YtjbbapodcngnaaaGreatDoor
open Go.RowKit Hdr

set_option maxRecDepth 100000 in
theorem stringsNew_any (src : ByteArray) (w : World) :
    Calls Tryz.prog 79 #[.string src] w fun e w' => e = .returned (.pointer (some ⟨w.heap.size, 0, none⟩)) ∧ w' = w.alloc (.cells (src3 src 0 (-1)).toArray 194) := by
  go_enter Tryz.func79, Tryz.ntmps79
  go_wp2
  go_ret
  exact ⟨rfl, rfl⟩

theorem made_u8 (n : Nat) : madeCells #[Value.int .u8 0] n = (u8s (List.replicate n 0)).toArray := by
  apply Array.ext
  · simp [madeCells]
  · intro i h1 h2
    simp [madeCells, u8s, byt, Nat.mod_one]

set_option maxRecDepth 100000 in
set_option maxHeartbeats 400000 in
theorem bufReset_any (b g s : Nat) (w : World) (cs : List Value) (hc : ∃ a0 a1 a2 a3 a4 a5 a6, cs = [a0, a1, a2, a3, a4, a5, a6]) (hb : Blk w b cs 201) :
    Calls Tryz.prog 138 #[.pointer (some ⟨b, 0, none⟩), .slice (some ⟨g, 0, none⟩) 4096 4096, .iface 148 (.pointer (some ⟨s, 0, none⟩))] w fun e w' => e = .returned (.tuple #[]) ∧ Blk w' b (brc g s 0 0 .nilIface (-1) (-1)) 201 ∧ Keeps (In [b]) w w' := by
  obtain ⟨a0, a1, a2, a3, a4, a5, a6, rfl⟩ := hc
  have fz := hb.frozen
  have c0 : w.cell? ⟨b, 0, none⟩ = some a0 := hb.cell 0
  have c1 : w.cell? ⟨b, 1, none⟩ = some a1 := hb.cell 1
  have c2 : w.cell? ⟨b, 2, none⟩ = some a2 := hb.cell 2
  have c3 : w.cell? ⟨b, 3, none⟩ = some a3 := hb.cell 3
  have c4 : w.cell? ⟨b, 4, none⟩ = some a4 := hb.cell 4
  have c5 : w.cell? ⟨b, 5, none⟩ = some a5 := hb.cell 5
  have c6 : w.cell? ⟨b, 6, none⟩ = some a6 := hb.cell 6
  have H := Lib.hid hb
  clear hb
  go_enter Tryz.func138, Tryz.ntmps138
  go_wp2
  go_end0
  have hb := ((((((H.out.set 0 (.slice (some ⟨g, 0, none⟩) 4096 4096)).set 1 (.iface 148 (.pointer (some ⟨s, 0, none⟩)))).set 2 (.int .i64 0)).set 3 (.int .i64 0)).set 4 .nilIface).set 5 (.int .i64 (-1))).set 6 (.int .i64 (-1))
  refine ⟨rfl, hb.to rfl, ?_⟩
  have k : ∀ (W : World) (i : Nat) (v : Value), Keeps (In [b]) w W → Keeps (In [b]) w (W.setCell ⟨b, i, none⟩ v) := fun W i v h => h.setCell (.inl (by simp [In])) v
  exact k _ _ _ (k _ _ _ (k _ _ _ (k _ _ _ (k _ _ _ (k _ _ _ (k _ _ _ (Keeps.refl _ _)))))))

theorem notBuf (v : Value) (w : World) : (Instr.typeAssert (.iface 148 v) 131 150 true).run Tryz.prog w = .ok (.tuple #[.pointer none, .bool false]) w := by kernel_rfl

/-- What bufio.NewReader leaves. -/
def BnPost (s : Nat) (w : World) (e : Ending) (w' : World) : Prop :=
  ∃ b g : Nat, e = .returned (.pointer (some ⟨b, 0, none⟩)) ∧ w.heap.size ≤ b ∧ w.heap.size ≤ g ∧ Blk w' b (brc g s 0 0 .nilIface (-1) (-1)) 201 ∧ Blk w' g (u8s (List.replicate 4096 0)) 5 ∧ Keeps No w w'

set_option maxRecDepth 100000 in
set_option maxHeartbeats 1000000 in
theorem bufNewSize_any (s : Nat) (w : World) :
    Calls Tryz.prog 101 #[.iface 148 (.pointer (some ⟨s, 0, none⟩)), .int .i64 4096] w (BnPost s w) := by
  have hmk := run_make_row' (P := Tryz.prog) 85 5 (.int .u8 0) 1 Tryz.underlying85 info_u8 rfl .i64 .i64 4096 (by decide) (by decide)
  rw [made_u8] at hmk
  have hmk2 : ∀ w : World, (Instr.makeSlice 85 (.int .i64 (max 4096 16)) (.int .i64 (max 4096 16))).run Tryz.prog w = .ok (.slice (some ⟨w.heap.size, 0, none⟩) 4096 4096) (w.alloc (.cells (u8s (List.replicate 4096 0)).toArray 5)) := by
    have e : (max (4096 : Int) 16) = ((4096 : Nat) : Int) := by decide
    rw [e]
    exact hmk
  clear hmk
  generalize hl : u8s (List.replicate 4096 0) = l0 at hmk2
  have HL := Lib.hid hl
  clear hl
  have hnb := notBuf (.pointer (some ⟨s, 0, none⟩))
  go_enter Tryz.func101, Tryz.ntmps101
  go_wp2_with (fail)
  refine (bufReset_any w.heap.size (w.heap.size + 1) s _ [.slice none 0 0, .nilIface, .int .i64 0, .int .i64 0, .nilIface, .int .i64 0, .int .i64 0] ⟨_, _, _, _, _, _, _, rfl⟩ ((Blk.new w _ _).alloc _)).mono ?_
  rintro e w2 ⟨rfl, hB, K⟩
  have HB := Lib.hid hB
  clear hB hmk2 hnb
  go_wp2
  go_ret
  have hG : Blk ((w.alloc (.cells #[.slice none 0 0, .nilIface, .int .i64 0, .int .i64 0, .nilIface, .int .i64 0, .int .i64 0] 201)).alloc (.cells l0.toArray 5)) (w.heap.size + 1) l0 5 := by
    have := Blk.new (w.alloc (.cells #[.slice none 0 0, .nilIface, .int .i64 0, .int .i64 0, .nilIface, .int .i64 0, .int .i64 0] 201)) l0 5
    simpa using this
  refine ⟨w.heap.size, w.heap.size + 1, rfl, Nat.le_refl _, Nat.le_succ _, HB.out, ?_, ?_⟩
  · rw [HL.out]
    exact hG.keep K (fun h => by simp [In] at h)
  · refine ((((Keeps.refl No w).alloc _).alloc _).of_no.trans' K).mono (fun i hi h => ?_)
    simp [In] at h
    omega

theorem bufNew_any (s : Nat) (w : World) : Calls Tryz.prog 80 #[.iface 148 (.pointer (some ⟨s, 0, none⟩))] w (BnPost s w) := by
  go_enter Tryz.func80, Tryz.ntmps80
  go_wp2_with (fail)
  refine (bufNewSize_any s w).mono ?_
  rintro e w2 ⟨b, g, rfl, h⟩
  go_wp2
  go_ret
  exact ⟨b, g, rfl, h⟩

set_option maxRecDepth 100000 in
theorem readerLen_any (s i : Nat) (src : ByteArray) (p : Int) (w : World) (h : Blk w s (src3 src i p) 194) (hi : i ≤ src.size) (hs : src.size ≤ 1000000000) :
    Calls Tryz.prog 82 #[.pointer (some ⟨s, 0, none⟩)] w fun e w' => e = .returned (.int .i64 ((src.size : Int) - i)) ∧ ∃ n, w' = w.drewN n := by
  have c0 : w.cell? ⟨s, 0, none⟩ = some (.string src) := h.cell 0
  have c1 : w.cell? ⟨s, 1, none⟩ = some (.int .i64 i) := h.cell 1
  clear h
  by_cases hlt : i < src.size
  · have e1 : decide ((src.size : Int) ≤ (i : Int)) = false := decide_eq_false (by omega)
    have e2 : IntKind.i64.wrap ((src.size : Int) - (i : Int)) = (src.size : Int) - i := by rw [IntKind.wrap_i64]; omega
    have e3 : IntKind.i64.wrap (src.size : Int) = (src.size : Int) := by rw [IntKind.wrap_i64]; omega
    go_enter Tryz.func82, Tryz.ntmps82
    go_wp2
    go_quiet (fail)
    go_wp2
    go_quiet (fail)
    go_wp2
    go_ret
    exact ⟨rfl, _, World.drewN_drewN _ _ _⟩
  · have hi2 : i = src.size := by omega
    have e1 : decide ((src.size : Int) ≤ (i : Int)) = true := decide_eq_true (by omega)
    go_enter Tryz.func82, Tryz.ntmps82
    go_wp2
    go_quiet (fail)
    go_wp2
    go_ret
    exact ⟨by rw [hi2]; simp, _, rfl⟩
end Go.Proofs.YtjbbapodcngnaaaGreatDoor
namespace Go.Proofs.YtjbbapodcngnaaaGreatDoor
open Go.RowKit

section
variable {P : Program} {ops : Array Oper} {md : Region.Mode} {C : World → Prop}

def looksM (md : Region.Mode) (ops : Array Oper) (n : Nat) (K : Array Bool → Bool) : List Nat → Array Bool → Bool
  | [], listed => K listed
  | k :: rd, listed => decide (k < n) && ((ops[k]?).map lookOp == some true) && (Region.ready md ops listed).contains k && Region.free md ops listed k && looksM md ops n K rd (listed.setIfInBounds k true)
def segsM (md : Region.Mode) (ops : Array Oper) (n g : Nat) (rl : List Nat) : List (List Nat × Nat) → Array Bool → Bool
  | [], listed => looksM md ops n (fun l => decide (Region.ready md ops l = [n]) && Region.lexFrom md ops g (n + 1) (l.setIfInBounds n true)) rl listed
  | s :: segs, listed => looksM md ops n (fun l => decide (s.2 < n) && decide (Region.ready md ops l = [s.2]) && segsM md ops n g rl segs (l.setIfInBounds s.2 true)) s.1 listed
def segsLen (rl : List Nat) : List (List Nat × Nat) → Nat
  | [] => rl.length
  | s :: segs => s.1.length + (1 + segsLen rl segs)
def segsB (md : Region.Mode) (ops : Array Oper) (segs : List (List Nat × Nat)) (rl : List Nat) (n : Nat) : Bool :=
  Region.noSelect ops && decide (n < ops.size) && decide (segsLen rl segs = n) && Region.sinkB md ops n && afterB md ops n && (ops.toList.drop (n + 1)).all pureOp && segsM md ops n (ops.size - n - 1) rl segs (Array.replicate ops.size false)

/-- Looks: whatever world of the class. -/
def wpLooks (P : Program) (ops : Array Oper) (C : World → Prop) (K : Act → Prop) (l : List Oper) (a : Act) : Prop :=
  ∀ (ι : Type) (F : ι → World), Nonempty ι → (∀ i, C (F i)) → wpQuiet P ops (fun w' => ∃ i, w' = F i) K l a
theorem wpLooks.quiet {K : Act → Prop} {l : List Oper} {a : Act} {w : World} (h : wpLooks P ops C K l a) (hw : C w) : wpQuiet P ops C K l a := by
  have h' := h {w' // C w'} Subtype.val ⟨⟨_, hw⟩⟩ (fun i => i.2)
  have hcc : (fun w' => ∃ i : {w' // C w'}, w' = i.val) = C := by
    funext w'
    exact propext ⟨fun ⟨i, h⟩ => h ▸ i.2, fun h => ⟨⟨w', h⟩, rfl⟩⟩
  rwa [hcc] at h'

def wpSegs (P : Program) (ops : Array Oper) (C : World → Prop) (Q : Exit → Act → World → Prop) (rl tl : List Oper) : List (List Oper × List Oper) → Act → World → Prop
  | [], a, w => wpLooks P ops C (fun a' => wpList P ops Q tl a' w) rl a
  | s :: segs, a, w => wpLooks P ops C (fun a' => wpList P ops (EffPost C (wpSegs P ops C Q rl tl segs)) s.2 a' w) s.1 a

theorem wpAnyE_lk {n f : Nat} {L : Array Bool → Act → World → Prop} {Q : Exit → Act → World → Prop} {KB : Array Bool → Bool} {K : Act → Prop} (hsel : Region.noSelect ops = true) (hs : Region.sinkB md ops n = true) (hc : afterB md ops n = true) (hn : n < ops.size)
    (hL : ∀ listed a w, L listed a w → ∀ j ∈ Region.ready md ops listed, n ≤ j) :
    ∀ (rd : List Nat) (listed : Array Bool) (a : Act) (w : World), HeadInv md ops n listed → looksM md ops n KB rd listed = true → C w → wpQuiet P ops C K (pick ops.toList rd) a →
      (∀ listed' a', HeadInv md ops n listed' → KB listed' = true → K a' → wpAnyE P md ops (NoP Q) C n L f listed' a' w) → wpAnyE P md ops (NoP Q) C n L (rd.length + f) listed a w
  | [], listed, a, w, inv, hB, _, h, hK => by
    rw [List.length_nil, Nat.zero_add]
    exact hK listed a inv hB h
  | k :: rd, listed, a, w, inv, hB, hw, h, hKK => by
    simp only [looksM, Bool.and_eq_true, decide_eq_true_eq, beq_iff_eq] at hB
    obtain ⟨⟨⟨⟨hkn, hl⟩, hr⟩, hf⟩, hB⟩ := hB
    have hks : k < ops.size := by omega
    have h0 : ops[k]? = some ops[k] := Array.getElem?_eq_getElem hks
    have hp : pick ops.toList (k :: rd) = ops[k] :: pick ops.toList rd := by
      unfold pick
      rw [List.filterMap_cons]
      simp [h0]
    rw [hp] at h
    rw [h0] at hl
    have hl' : lookOp ops[k] = true := by simpa using hl
    have hr' : k ∈ Region.ready md ops listed := by simpa using hr
    have hst : qOp P ops C k (wpQuiet P ops C K (pick ops.toList rd)) a := by unfold qOp; simp only [h0]; exact h
    obtain ⟨v, hy, hK⟩ := yieldsIn_of_qOp h0 hst
    rw [List.length_cons, show rd.length + 1 + f = (rd.length + f) + 1 by omega]
    exact wpAnyE_first h0 (Region.noSelect_spec hsel) hs hc hn hkn hL _ listed a w inv (Region.free_spec h0 hf) hr' (YieldsIn.looks hy hl') hw
      (wpAnyE_lk hsel hs hc hn hL rd _ _ w (inv.set hr' hkn) hB hw hK hKK)

def segPick (l : List Oper) (segs : List (List Nat × Nat)) : List (List Oper × List Oper) := segs.map fun s => (pick l s.1, pick l [s.2])

theorem wpAnyE_segs {n g : Nat} {Q : Exit → Act → World → Prop} (rl : List Nat) (hsel : Region.noSelect ops = true) (hs : Region.sinkB md ops n = true) (hc : afterB md ops n = true) (hn : n < ops.size) :
    ∀ (segs : List (List Nat × Nat)) (listed : Array Bool) (a : Act) (w : World), HeadInv md ops n listed → segsM md ops n g rl segs listed = true → C w →
      wpSegs P ops C Q (pick ops.toList rl) (ops.toList.drop n) (segPick ops.toList segs) a w →
      wpAnyE P md ops (NoP Q) C n (fun listed' a' w' => MidAt md ops n g listed' ∧ wpList P ops Q (ops.toList.drop n) a' w') (segsLen rl segs) listed a w
  | [], listed, a, w, inv, hB, hw, h => by
    have := wpAnyE_lk (f := 0) (Q := Q) (L := fun listed' a' w' => MidAt md ops n g listed' ∧ wpList P ops Q (ops.toList.drop n) a' w') hsel hs hc hn (fun listed' a' w' hL j hj => by rw [hL.1.1] at hj; simp at hj; omega) rl listed a w inv hB hw (wpLooks.quiet h hw)
      (fun listed' a' _ hB' hK => by
        simp only [Bool.and_eq_true, decide_eq_true_eq] at hB'
        exact ⟨hB', hK⟩)
    exact this
  | (rd, e) :: segs, listed, a, w, inv, hB, hw, h => by
    refine wpAnyE_lk (f := 1 + segsLen rl segs) (Q := Q) (L := fun listed' a' w' => MidAt md ops n g listed' ∧ wpList P ops Q (ops.toList.drop n) a' w') hsel hs hc hn (fun listed' a' w' hL j hj => by rw [hL.1.1] at hj; simp at hj; omega) rd listed a w inv hB hw (wpLooks.quiet h hw) ?_
    intro listed' a' inv' hB' hK
    simp only [Bool.and_eq_true, decide_eq_true_eq] at hB'
    obtain ⟨⟨hen, hr⟩, hB'⟩ := hB'
    have hks : e < ops.size := by omega
    have h0 : ops[e]? = some ops[e] := Array.getElem?_eq_getElem hks
    have hp : pick ops.toList [e] = [ops[e]] := by
      unfold pick
      rw [List.filterMap_cons]
      simp [h0]
    have hr' : e ∈ Region.ready md ops listed' := by rw [hr]; simp
    rw [Nat.add_comm 1]
    refine ⟨fun h0 => (by rw [hr] at h0; cases h0), fun i hi => ?_⟩
    rw [hr] at hi
    obtain rfl : i = e := by simpa using hi
    refine ⟨hen, ?_⟩
    change wpList P ops (EffPost C (wpSegs P ops C Q (pick ops.toList rl) (ops.toList.drop n) (segPick ops.toList segs))) (pick ops.toList [i]) a' w at hK
    rw [hp] at hK
    have hw2 : wpOp P ops (EffPost C (wpSegs P ops C Q (pick ops.toList rl) (ops.toList.drop n) (segPick ops.toList segs))) i (wpList P ops (EffPost C (wpSegs P ops C Q (pick ops.toList rl) (ops.toList.drop n) (segPick ops.toList segs))) []) a' w := by
      unfold wpOp; simp only [h0]; exact hK
    refine wpOp_mono (fun a'' w'' h' => ?_) (wpOp_post (fun e a w hne h => absurd h.1 hne) hw2)
    obtain ⟨_, hC, h'⟩ := h'
    exact ⟨hC, wpAnyE_segs rl hsel hs hc hn segs _ a'' w'' (inv'.set hr' hen) hB' hC h'⟩

theorem region_segs {id : Nat} {Q : Exit → Act → World → Prop} {a : Act} {w : World} {l : List Oper} (segs : List (List Nat × Nat)) (rl : List Nat) (n : Nat) (C : World → Prop) (hm : P.follows .mixedOrders = true) (hB : segsB .any l.toArray segs rl n = true) (hC : C w.drew)
    (h : wpSegs P l.toArray C Q (pick l rl) (l.drop n) (segPick l segs) a w.drew) : (Code.region id l.toArray true).wp P Q a w := by
  simp only [segsB, Bool.and_eq_true, decide_eq_true_eq] at hB
  obtain ⟨⟨⟨⟨⟨⟨hsel, hn⟩, hlen⟩, hs⟩, hc⟩, hp⟩, hlex⟩ := hB
  have hn' : n < l.length := by simpa using hn
  have inv0 : HeadInv .any l.toArray n (Array.replicate l.toArray.size false) :=
    ⟨by simp, fun j oj _ hl => (by rw [getD_replicate_false] at hl; cases hl), fun t _ ht => getD_in (by simpa using ht) (getD_replicate_false _ _)⟩
  have H := wpAnyE_segs (P := P) (md := .any) (C := C) (g := l.toArray.size - n - 1) (Q := Q) rl hsel hs hc hn segs _ a w.drew inv0 hlex hC (by simpa using h)
  refine wp_region_any hm ?_
  have hdrop : l.drop n = l[n] :: l.drop (n + 1) := List.drop_eq_getElem_cons hn'
  have := wpAny_of_E (P := P) (md := .any) (Q := Q) (g := l.toArray.size - n - 1 + 1) (fun listed a' w' hL => by
    have hw := hL.2
    rw [hdrop] at hw
    exact wpAny_mid (md := .any) hsel (l.drop (n + 1)) (by simp; omega) (fun j => by simp [List.getElem?_drop]) (by simp [hn']) hp listed a' hL.1 hw) _ _ _ _ H
  rw [hlen, show n + (l.toArray.size - n - 1 + 1) = l.toArray.size by simp; omega] at this
  exact this
end
end Go.Proofs.YtjbbapodcngnaaaGreatDoor
namespace Go.Proofs.YtjbbapodcngnaaaGreatDoor
open Go.RowKit Hdr

theorem rest_len {w : World} {b g s : Nat} {src : ByteArray} {r q i : Nat} {err : Value} {lb lr p : Int} {data : List UInt8} (h : RdD w b g s src r q i err lb lr p data) : (rest src r q i data).length = (src.size - i) + (q - r) := by
  have h1 := h.hd
  have h2 := h.hrq
  have h3 := h.hq
  unfold rest
  rw [List.length_append, List.length_take, List.length_drop, List.length_drop, str_size]
  omega

/-- readHeader, whole. -/
theorem readHeader_any (b g s : Nat) (src : ByteArray) (ea : Addr) (w : World) (c : List UInt8) (h : Rd w b g s src c) (hs : Short c) (hlen : c.length ≤ 1000000) {N : Nat} (E : Env N b g s src ea w) :
    Calls Tryz.prog 81 #[.pointer (some ⟨b, 0, none⟩)] w (RhPost b g s src (rhd c) w) := by
  cases c with
  | nil =>
    have : rhd [] = some ([], []) := by
      unfold rhd
      rw [if_neg (by decide), rh_end (by rw [kv_nil]), kv_nil]
    rw [this]
    exact readHeader_nil b g s src ea w h E
  | cons x c =>
    cases hx : sp x with
    | true =>
      have : rhd (x :: c) = none := by unfold rhd; exact if_pos hx
      rw [this]
      exact readHeader_bad b g s src ea w x c h hx hs E
    | false =>
      have : rhd (x :: c) = rh (x :: c) := by unfold rhd; exact if_neg (by show ¬ sp x = true; rw [hx]; decide)
      rw [this]
      exact readHeader_some b g s src ea w x c h hx hs hlen E

/-- A header as the program holds it: its slice, its map, its fields. -/
def HdrAt (w : World) (lo : Nat) (hv : Value) (fs : List Fd) : Prop :=
  ∃ (lb cap : Nat) (m : Option Nat), hv = .agg #[.slice (some ⟨lb, 0, none⟩) fs.length cap, .map m] ∧ lo ≤ lb ∧ NB fs cap ∧ POwn w lb cap (fs.reverse.map (·.blk)) ∧ HMap w (lb + 1) m fs.reverse ∧ Fds w lo w.heap.size fs

/-- What ReadHeaderOf leaves. -/
def RhoPost (r : Option (List PF × List UInt8)) (w : World) (e : Ending) (w' : World) : Prop :=
  Keeps No w w' ∧
  match r with
  | none => ∃ xa xn xc ym k ea, e = .returned (.tuple #[.agg #[.slice xa xn xc, .map ym], .int .i64 k, .iface 203 (.pointer (some ea))])
  | some (ps, c) => ∃ hv fs, e = .returned (.tuple #[hv, .int .i64 c.length, .nilIface]) ∧ HdrAt w' w.heap.size hv fs ∧ Tells fs ps

theorem HMap.to {S : Nat → Prop} {w w' : World} {lo lo' : Nat} {m : Option Nat} {fs : List Fd} (h : HMap w lo m fs) (k : Keeps S w w') (hS : ∀ x, S x → x < lo) (hl : lo' ≤ lo) : HMap w' lo' m fs := by
  rcases h with ⟨h1, h2⟩ | ⟨mb, gs, h1, h2, h3, h4⟩
  · exact .inl ⟨h1, h2⟩
  · refine .inr ⟨mb, gs, h1, by omega, h3.keep k (fun h => by have := hS _ h; omega), ?_⟩
    have h5 := h4.keep k (fun x hx b hb h => by
      have := ((h4.own x hx).lt b hb).1
      have := hS _ h
      omega)
    exact ⟨h5.keys, h5.apart, fun x hx => PS.mono (h5.own x hx) hl, h5.some_, h5.of, h5.all⟩
theorem FdAt.lower {w : World} {lo lo' hi : Nat} {f : Fd} (h : FdAt w lo hi f) (hl : lo' ≤ lo) : FdAt w lo' hi f := by
  refine ⟨Nat.le_trans hl h.ge, h.lt, h.B, ?_⟩
  have hR := h.R
  cases hr : f.raw with
  | none => rw [hr] at hR; exact hR
  | some l =>
    rw [hr] at hR
    obtain ⟨rb, ro, cp, e1, e2, e3, e4, e5, e6⟩ := hR
    exact ⟨rb, ro, cp, e1, e2, by omega, e4, e5, e6⟩
theorem Fds.lower {w : World} {lo lo' hi : Nat} {fs : List Fd} (h : Fds w lo hi fs) (hl : lo' ≤ lo) : Fds w lo' hi fs := fun f hf => (h f hf).lower hl

/-- What is handed back, laid open. -/
def RhRes (lo : Nat) (r : Option (List PF × List UInt8)) (xa : Option Addr) (xn xc : Nat) (ym : Option Nat) (ev : Value) (c2 : List UInt8) (w3 : World) : Prop :=
  match r with
  | none => ∃ ea, ev = .iface 203 (.pointer (some ea))
  | some (ps, c) => c = c2 ∧ ev = .nilIface ∧ ∃ (lb : Nat) (fs : List Fd), xa = some ⟨lb, 0, none⟩ ∧ xn = fs.length ∧ lo ≤ lb ∧ NB fs xc ∧ POwn w3 lb xc (fs.reverse.map (·.blk)) ∧ HMap w3 (lb + 1) ym fs.reverse ∧
      Fds w3 lo w3.heap.size fs ∧ Tells fs ps
theorem rh_open {b g s : Nat} {src : ByteArray} {r : Option (List PF × List UInt8)} {w2 w3 : World} {e : Ending} (h : RhPost b g s src r w2 e w3) : ∃ xa xn xc ym ev c2, e = .returned (.tuple #[.agg #[.slice xa xn xc, .map ym], ev]) ∧ (ev = .nilIface ∨ ∃ ea, ev = .iface 203 (.pointer (some ea))) ∧ Rd w3 b g s src c2 ∧ RhRes w2.heap.size r xa xn xc ym ev c2 w3 := by
  obtain ⟨K3, hpost⟩ := h
  cases r with
  | none =>
    obtain ⟨xa, xn, xc, ym, ea2, c2, rfl, hRd⟩ := hpost
    exact ⟨xa, xn, xc, ym, _, c2, rfl, .inr ⟨ea2, rfl⟩, hRd, ea2, rfl⟩
  | some pc =>
    obtain ⟨ps, c2⟩ := pc
    obtain ⟨lb, cap, m, fs, rfl, hlb, hcap, hpo, hm, hf, ht, hRd⟩ := hpost
    exact ⟨_, _, _, _, _, c2, rfl, .inl rfl, hRd, rfl, rfl, lb, fs, rfl, rfl, hlb, hcap, hpo, hm, hf, ht⟩

theorem results_row_tmp2 {fn : Func} {p u v : Tmp} {ty : TypeId} (h : fn.results = #[.cell p ty, .tmp u, .tmp v]) (tmps : Array Value) {P : Program} (w : World) (g : Nat) (x : Value) (hp : tmps.getD p undef = .pointer (some ⟨g, 0, none⟩)) (hl : (loadVar ty ⟨g, 0, none⟩).run P w = .ok x w) :
    (results fn tmps).run P w = .ok (.tuple #[x, tmps.getD u undef, tmps.getD v undef]) w := by
  simp only [results, h]
  simp [Sem.run_bind, asAddr, Result.andThen]
  have hp' : tmps[p]?.getD undef = .pointer (some ⟨g, 0, none⟩) := by simpa using hp
  rw [hp']
  simp [hl]

set_option maxRecDepth 100000 in
set_option maxHeartbeats 1000000 in
theorem readHeaderOf_any (l : List UInt8) (ea : Addr) (w : World) (hs : Short l) (hlen : l.length ≤ 1000000) {N : Nat} (L : Laid N ea w) (hN : N ≤ w.heap.size) :
    Calls Tryz.prog 54 #[str l] w (RhoPost (rhd l) w) := by
  have HL := Lib.hid L
  have HS := Lib.hid hs
  generalize hr : rhd l = r
  have HR := Lib.hid hr
  clear L hs hr
  unfold str
  go_enter Tryz.func54, Tryz.ntmps54
  go_wp2_with (fail)
  refine (stringsNew_any ⟨l.toArray⟩ _).mono ?_
  rintro e w1 ⟨rfl, rfl⟩
  go_wp2_with (fail)
  refine (bufNew_any (w.heap.size + 1) _).mono ?_
  rintro e w2 ⟨b, g, rfl, hb, hg, hB, hG, K2⟩
  have hsz1 : ((w.alloc (.cells #[.slice none 0 0, .map none] 74)).alloc (.cells (src3 ⟨l.toArray⟩ 0 (-1)).toArray 194)).heap.size = w.heap.size + 2 := by simp
  have hS1 : Blk ((w.alloc (.cells #[.slice none 0 0, .map none] 74)).alloc (.cells (src3 ⟨l.toArray⟩ 0 (-1)).toArray 194)) (w.heap.size + 1) (src3 ⟨l.toArray⟩ 0 (-1)) 194 := by
    have := Blk.new (w.alloc (.cells #[.slice none 0 0, .map none] 74)) (src3 ⟨l.toArray⟩ 0 (-1)) 194
    simpa using this
  have hH1 : Blk ((w.alloc (.cells #[.slice none 0 0, .map none] 74)).alloc (.cells (src3 ⟨l.toArray⟩ 0 (-1)).toArray 194)) w.heap.size [.slice none 0 0, .map none] 74 := (Blk.new w _ _).alloc _
  have K1 : Keeps No w ((w.alloc (.cells #[.slice none 0 0, .map none] 74)).alloc (.cells (src3 ⟨l.toArray⟩ 0 (-1)).toArray 194)) := ((Keeps.refl No w).alloc _).alloc _
  rw [hsz1] at hb hg
  have hS2 := hS1.keep_no K2
  have hH2 := Lib.hid (hH1.keep_no K2)
  have K02 := K1.trans' K2
  clear hsz1 hS1 hH1 K1 K2
  have hsz2 := K02.size
  have hR2 : Rd w2 b g (w.heap.size + 1) ⟨l.toArray⟩ l := by
    refine ⟨0, 0, 0, -1, -1, -1, List.replicate 4096 0, ⟨List.length_replicate .., Nat.le_refl _, Nat.zero_le _, Nat.zero_le _, hB, hG, hS2⟩, ?_⟩
    unfold rest
    simp
  have hE2 : Env N b g (w.heap.size + 1) ⟨l.toArray⟩ ea w2 := ⟨by show l.toArray.size ≤ _; simp; omega, by omega, by omega, by omega, HL.out.keep_no K02⟩
  clear hB hG hS2
  go_wp2_with (fail)
  refine (readHeader_any b g (w.heap.size + 1) ⟨l.toArray⟩ ea w2 l hR2 HS.out hlen hE2).mono ?_
  rintro e w3 hpost
  have K3 := hpost.1
  have hH3 := hH2.out.keep K3 (fun h => by simp [In] at h; omega)
  have K03 : Keeps No w w3 := ((K02.of_no.trans' K3).mono (fun i hi h => by simp [In] at h; omega))
  rw [HR.out] at hpost
  have fz3 := hH3.frozen
  have c0 : w3.cell? ⟨w.heap.size, 0, none⟩ = some (.slice none 0 0) := hH3.cell 0
  have c1 : w3.cell? ⟨w.heap.size, 1, none⟩ = some (.map none) := hH3.cell 1
  have HH3 := Lib.hid hH3
  clear hH3 hH2
  have hrl : ∀ (c : List UInt8) (r q i : Nat) (err : Value) (lb lr p : Int) (data : List UInt8), RdD w3 b g (w.heap.size + 1) ⟨l.toArray⟩ r q i err lb lr p data → rest ⟨l.toArray⟩ r q i data = c → c.length = (l.length - i) + (q - r) := fun _ _ _ _ _ _ _ _ _ h hc => by
    rw [← hc, rest_len h]
    rfl
  have HRL := Lib.hid hrl
  clear hrl
  obtain ⟨xa, xn, xc, ym, ev, c2, rfl, hev, hRd, hres⟩ := rh_open hpost
  obtain ⟨r', q, i, lb', lr, p, data, hRD, hrest⟩ := hRd
  have hlen2 := HRL.out _ _ _ _ _ _ _ _ _ hRD hrest
  have h1 := hRD.hrq
  have h2 := hRD.hq
  have hls : (⟨l.toArray⟩ : ByteArray).size = l.length := by show l.toArray.size = _; simp
  have h3 : i ≤ l.length := by have := hRD.hi; rwa [hls] at this
  have HRD := Lib.hid hRD
  have HRES := Lib.hid hres
  have HLEN := Lib.hid hlen2
  have kk : ∀ x y n, Keeps (In [w.heap.size]) w3 (((w3.setCell ⟨w.heap.size, 0, none⟩ x).setCell ⟨w.heap.size, 1, none⟩ y).drewN n) := fun x y n => (((Keeps.refl _ w3).setCell (.inl (by simp [In])) _).setCell (.inl (by simp [In])) _).drewN n
  have hS4 := fun x y n => HRD.out.S.keep (kk x y n) (fun h => by simp [In] at h)
  have hB4 := fun x y n => HRD.out.B.keep (kk x y n) (fun h => by simp [In] at h; omega)
  have HS4 := Lib.hid hS4
  have HB4 := Lib.hid hB4
  clear hRD hrest hres hlen2 hS4 hB4 hpost
  go_wp2
  generalize hw4 : ((w3.setCell ⟨w.heap.size, 0, none⟩ (.slice xa xn xc)).setCell ⟨w.heap.size, 1, none⟩ (.map ym)) = w4
  have hH4 : Blk w4 w.heap.size [.slice xa xn xc, .map ym] 74 := by
    rw [← hw4]
    exact ((HH3.out.set 0 _).set 1 _).to rfl
  have k4 : ∀ n, Keeps (In [w.heap.size]) w3 (w4.drewN n) := fun n => by rw [← hw4]; exact kk _ _ n
  have hS4 := fun n => HS4.out (.slice xa xn xc) (.map ym) n
  have hB4 := fun n => HB4.out (.slice xa xn xc) (.map ym) n
  rw [hw4] at hS4 hB4
  have HH4 := Lib.hid hH4
  have HSS4 := Lib.hid hS4
  have HBB4 := Lib.hid hB4
  clear HS4 HB4 hw4 hH4 hS4 hB4 c0 c1 fz3 kk
  refine region_segs [([0, 1, 3, 6], 2), ([], 4), ([5], 7)] [8] 9 (fun W => W.cell? ⟨w.heap.size, 0, none⟩ = some (.slice xa xn xc) ∧ W.cell? ⟨w.heap.size, 1, none⟩ = some (.map ym)) (by kernel_rfl) (by kernel_rfl) ?_ ?_
  · exact ⟨HH4.out.cell 0, HH4.out.cell 1⟩
  simp only [segPick, List.map_cons, List.map_nil, pick, List.filterMap_cons, List.filterMap_nil, List.getElem?_cons_succ, List.getElem?_cons_zero, List.drop_succ_cons, List.drop_zero]
  rw [wpSegs]
  intro ι F hne hF
  have c1 := fun j => (hF j).1
  have c2 := fun j => (hF j).2
  clear hF
  repeat (quiet_step (fail))
  refine wpQuiet_nil ?_
  clear c1 c2 hne F ι
  go_wp2_with (fail)
  refine (readerLen_any (w.heap.size + 1) i ⟨l.toArray⟩ p w4.drew (HSS4.out 1) (by rw [hls]; exact h3) (by rw [hls]; omega)).mono ?_
  rintro e w5 ⟨rfl, n5, rfl⟩
  have hw5 : w4.drew.drewN n5 = w4.drewN (1 + n5) := World.drewN_drewN _ _ _
  rw [hw5, hls]
  go_wp2
  refine EffPost.intro ⟨HH4.out.cell 0, HH4.out.cell 1⟩ ?_
  rw [wpSegs]
  intro ι F hne hF
  clear hF
  repeat (quiet_step (fail))
  refine wpQuiet_nil ?_
  clear hne F ι
  go_wp2_with (fail)
  refine (buffered b (brc g (w.heap.size + 1) r' q .nilIface lb' lr) r' q (w4.drewN (1 + n5)) (HBB4.out _) rfl rfl h1 h2).mono ?_
  rintro e w6 ⟨rfl, n6, rfl⟩
  rw [World.drewN_drewN]
  have hsum1 : ((l.length : Int) - i) + ((q : Int) - r') = (c2.length : Int) := by have := HLEN.out; omega
  have hsum2 : IntKind.i64.wrap (((l.length : Int) - i) + ((q : Int) - r')) = (c2.length : Int) := by rw [hsum1]; exact wrap_small _ (by have := HLEN.out; omega)
  go_wp2
  refine EffPost.intro ⟨HH4.out.cell 0, HH4.out.cell 1⟩ ?_
  rw [wpSegs]
  intro ι F hne hF
  clear hF
  repeat (quiet_step (fail))
  refine wpQuiet_nil ?_
  clear hne F ι
  have fz6 := (HH4.out.drewN (1 + n5 + n6)).frozen
  have d0 : w4.cell? ⟨w.heap.size, 0, none⟩ = some (.slice xa xn xc) := HH4.out.cell 0
  have d1 : w4.cell? ⟨w.heap.size, 1, none⟩ = some (.map ym) := HH4.out.cell 1
  go_wp2
  generalize hw7 : (((w4.drewN (1 + n5 + n6)).setCell ⟨w.heap.size, 0, none⟩ (.slice xa xn xc)).setCell ⟨w.heap.size, 1, none⟩ (.map ym)) = w7
  have hH7 : Blk w7 w.heap.size [.slice xa xn xc, .map ym] 74 := by
    rw [← hw7]
    exact (((HH4.out.drewN _).set 0 _).set 1 _).to rfl
  have k7 : Keeps (In [w.heap.size]) w3 w7 := by
    rw [← hw7]
    exact ((k4 (1 + n5 + n6)).setCell (.inl (by simp [In])) _).setCell (.inl (by simp [In])) _
  have HH7 := Lib.hid hH7
  clear hw7 hH7 fz6 d0 d1
  refine EffPost.intro ⟨HH7.out.cell 0, HH7.out.cell 1⟩ ?_
  rw [wpSegs]
  intro ι F hne hF
  clear hF
  repeat (quiet_step (fail))
  refine wpQuiet_nil ?_
  clear hne F ι
  go_wp2
  refine bodyPost_ret (results_row_tmp2 rfl _ _ w.heap.size _ rfl (load_hdr _ _ _ _ HH7.out)) rfl ?_
  have hbw := hR2.lt
  refine ⟨(K03.of_no.trans' k7).mono (fun i hi h => by simp [In] at h; omega), ?_⟩
  have hres := HRES.out
  cases r with
  | none =>
    obtain ⟨ea2, rfl⟩ := hres
    exact ⟨xa, xn, xc, ym, _, ea2, rfl⟩
  | some pc =>
    obtain ⟨ps, c3⟩ := pc
    obtain ⟨rfl, rfl, lb, fs, rfl, rfl, hlb, hcap, hpo, hm, hf, ht⟩ := hres
    refine ⟨_, fs, rfl, ⟨lb, xc, ym, rfl, by omega, hcap, hpo.keep k7 (fun h => by simp [In] at h; omega), hm.to k7 (fun x h => by simp [In] at h; omega) (Nat.le_refl _), ?_⟩, ht⟩
    exact ((hf.keep k7 (fun x h => by simp [In] at h; omega)).lower hsz2).mono k7.size
end Go.Proofs.YtjbbapodcngnaaaGreatDoor
namespace Go.Proofs.YtjbbapodcngnaaaGreatDoor
open Go.RowKit Hdr

/-- What headed leaves. -/
def HeadPost (r : Option (List PF × List UInt8)) (w : World) (e : Ending) (w' : World) : Prop :=
  Keeps No w w' ∧
  match r with
  | none => ∃ xa xn xc ym k, e = .returned (.tuple #[.agg #[.slice xa xn xc, .map ym], .int .i64 k, .bool false])
  | some (ps, c) => ∃ hv fs, e = .returned (.tuple #[hv, .int .i64 c.length, .bool true]) ∧ HdrAt w' w.heap.size hv fs ∧ Tells fs ps

def RhoRes (lo : Nat) (r : Option (List PF × List UInt8)) (xa : Option Addr) (xn xc : Nat) (ym : Option Nat) (k : Int) (w3 : World) : Prop :=
  match r with
  | none => True
  | some (ps, c) => k = c.length ∧ ∃ fs, HdrAt w3 lo (.agg #[.slice xa xn xc, .map ym]) fs ∧ Tells fs ps
theorem rho_open {r : Option (List PF × List UInt8)} {w w' : World} {e : Ending} (h : RhoPost r w e w') : ∃ xa xn xc ym k ev, e = .returned (.tuple #[.agg #[.slice xa xn xc, .map ym], .int .i64 k, ev]) ∧ Keeps No w w' ∧
    ((ev = .nilIface ∧ r.isSome = true) ∨ ((∃ ea, ev = .iface 203 (.pointer (some ea))) ∧ r.isSome = false)) ∧ RhoRes w.heap.size r xa xn xc ym k w' := by
  obtain ⟨K, h⟩ := h
  cases r with
  | none =>
    obtain ⟨xa, xn, xc, ym, k, ea, rfl⟩ := h
    exact ⟨xa, xn, xc, ym, k, _, rfl, K, .inr ⟨⟨ea, rfl⟩, rfl⟩, trivial⟩
  | some pc =>
    obtain ⟨ps, c⟩ := pc
    obtain ⟨hv, fs, rfl, hh, ht⟩ := h
    have hh' := hh
    obtain ⟨lb, cap, m, rfl, _⟩ := hh'
    exact ⟨_, _, _, _, _, _, rfl, K, .inl ⟨rfl, rfl⟩, rfl, fs, hh, ht⟩

theorem HdrAt.to {S : Nat → Prop} {w w' : World} {lo lo' : Nat} {hv : Value} {fs : List Fd} (h : HdrAt w lo hv fs) (k : Keeps S w w') (hS : ∀ x, S x → x < lo) (hl : lo' ≤ lo) : HdrAt w' lo' hv fs := by
  obtain ⟨lb, cap, m, h1, h2, h3, h4, h5, h6⟩ := h
  exact ⟨lb, cap, m, h1, by omega, h3, h4.keep k (fun h => by have := hS _ h; omega), h5.to k (fun x h => by have := hS x h; omega) (Nat.le_refl _), ((h6.keep k (fun x h => .inl (hS x h))).lower hl).mono k.size⟩

set_option maxRecDepth 100000 in
set_option maxHeartbeats 1000000 in
theorem headed_any (l : List UInt8) (ea : Addr) (w : World) (hs : Short l) (hlen : l.length ≤ 1000000) {N : Nat} (L : Laid N ea w) (hN : N ≤ w.heap.size) :
    Calls Tryz.prog 33 #[str l] w (HeadPost (rhd l) w) := by
  have HL := Lib.hid L
  have HS := Lib.hid hs
  generalize hr : rhd l = r
  have HR := Lib.hid hr
  clear L hs hr
  unfold str
  go_enter Tryz.func33, Tryz.ntmps33
  go_wp2_with (fail)
  refine (readHeaderOf_any l ea _ HS.out hlen (HL.out.keep_no ((Keeps.refl No w).alloc _)) (by simp; omega)).mono ?_
  rintro e w1 hpost
  rw [HR.out] at hpost
  obtain ⟨xa, xn, xc, ym, k, ev, rfl, K, hev, hres⟩ := rho_open hpost
  have hH1 : Blk w1 w.heap.size [.slice none 0 0, .map none] 74 := (Blk.new w _ _).keep_no K
  have fz1 := hH1.frozen
  have c0 : w1.cell? ⟨w.heap.size, 0, none⟩ = some (.slice none 0 0) := hH1.cell 0
  have c1 : w1.cell? ⟨w.heap.size, 1, none⟩ = some (.map none) := hH1.cell 1
  have HH1 := Lib.hid hH1
  have HRES := Lib.hid hres
  clear hH1 hres hpost
  have K01 : Keeps No w w1 := ((Keeps.refl No w).alloc _).trans' K
  rcases hev with ⟨rfl, hr0⟩ | ⟨⟨ea2, rfl⟩, hr0⟩
  · go_wp2
    generalize hw4 : ((w1.setCell ⟨w.heap.size, 0, none⟩ (.slice xa xn xc)).setCell ⟨w.heap.size, 1, none⟩ (.map ym)) = w4
    have hH4 : Blk w4 w.heap.size [.slice xa xn xc, .map ym] 74 := by
      rw [← hw4]
      exact ((HH1.out.set 0 _).set 1 _).to rfl
    have k4 : Keeps (In [w.heap.size]) w1 w4 := by
      rw [← hw4]
      exact ((Keeps.refl _ w1).setCell (.inl (by simp [In])) _).setCell (.inl (by simp [In])) _
    have fz4 := hH4.frozen
    have d0 : w4.cell? ⟨w.heap.size, 0, none⟩ = some (.slice xa xn xc) := hH4.cell 0
    have d1 : w4.cell? ⟨w.heap.size, 1, none⟩ = some (.map ym) := hH4.cell 1
    have HH4 := Lib.hid hH4
    clear hH4 hw4
    refine region_segs [([0, 1, 2, 3], 4)] [5] 6 (fun W => W.cell? ⟨w.heap.size, 0, none⟩ = some (.slice xa xn xc) ∧ W.cell? ⟨w.heap.size, 1, none⟩ = some (.map ym)) (by kernel_rfl) (by kernel_rfl) ?_ ?_
    · exact ⟨HH4.out.cell 0, HH4.out.cell 1⟩
    simp only [segPick, List.map_cons, List.map_nil, pick, List.filterMap_cons, List.filterMap_nil, List.getElem?_cons_succ, List.getElem?_cons_zero, List.drop_succ_cons, List.drop_zero]
    rw [wpSegs]
    intro ι F hne hF
    have c1 := fun j => (hF j).1
    have c2 := fun j => (hF j).2
    clear hF
    repeat (quiet_step (fail))
    refine wpQuiet_nil ?_
    clear c1 c2 hne F ι
    go_wp2
    have hH7 : Blk ((w4.drew.setCell ⟨w.heap.size, 0, none⟩ (.slice xa xn xc)).setCell ⟨w.heap.size, 1, none⟩ (.map ym)) w.heap.size [.slice xa xn xc, .map ym] 74 := ((HH4.out.drew.set 0 _).set 1 _).to rfl
    have k7 : Keeps (In [w.heap.size]) w1 ((w4.drew.setCell ⟨w.heap.size, 0, none⟩ (.slice xa xn xc)).setCell ⟨w.heap.size, 1, none⟩ (.map ym)) := (k4.drew.setCell (.inl (by simp [In])) _).setCell (.inl (by simp [In])) _
    refine EffPost.intro ⟨hH7.cell 0, hH7.cell 1⟩ ?_
    rw [wpSegs]
    intro ι F hne hF
    clear hF
    repeat (quiet_step (fail))
    refine wpQuiet_nil ?_
    clear hne F ι
    have HH7 := Lib.hid hH7
    clear hH7
    go_wp2
    refine bodyPost_ret (results_row_tmp2 rfl _ _ w.heap.size _ rfl (load_hdr _ _ _ _ HH7.out)) rfl ?_
    refine ⟨(K01.of_no.trans' k7).mono (fun i hi h => by simp [In] at h; omega), ?_⟩
    have hres := HRES.out
    cases r with
    | none => cases hr0
    | some pc =>
      obtain ⟨ps, c⟩ := pc
      obtain ⟨rfl, fs, hh, ht⟩ := hres
      exact ⟨_, fs, rfl, hh.to k7 (fun x h => by simp [In] at h; simp; omega) (by simp), ht⟩
  · go_wp2
    generalize hw4 : ((w1.setCell ⟨w.heap.size, 0, none⟩ (.slice xa xn xc)).setCell ⟨w.heap.size, 1, none⟩ (.map ym)) = w4
    have hH4 : Blk w4 w.heap.size [.slice xa xn xc, .map ym] 74 := by
      rw [← hw4]
      exact ((HH1.out.set 0 _).set 1 _).to rfl
    have k4 : Keeps (In [w.heap.size]) w1 w4 := by
      rw [← hw4]
      exact ((Keeps.refl _ w1).setCell (.inl (by simp [In])) _).setCell (.inl (by simp [In])) _
    have fz4 := hH4.frozen
    have d0 : w4.cell? ⟨w.heap.size, 0, none⟩ = some (.slice xa xn xc) := hH4.cell 0
    have d1 : w4.cell? ⟨w.heap.size, 1, none⟩ = some (.map ym) := hH4.cell 1
    have HH4 := Lib.hid hH4
    clear hH4 hw4
    refine region_segs [([0, 1, 2, 3], 4)] [5] 6 (fun W => W.cell? ⟨w.heap.size, 0, none⟩ = some (.slice xa xn xc) ∧ W.cell? ⟨w.heap.size, 1, none⟩ = some (.map ym)) (by kernel_rfl) (by kernel_rfl) ?_ ?_
    · exact ⟨HH4.out.cell 0, HH4.out.cell 1⟩
    simp only [segPick, List.map_cons, List.map_nil, pick, List.filterMap_cons, List.filterMap_nil, List.getElem?_cons_succ, List.getElem?_cons_zero, List.drop_succ_cons, List.drop_zero]
    rw [wpSegs]
    intro ι F hne hF
    have c1 := fun j => (hF j).1
    have c2 := fun j => (hF j).2
    clear hF
    repeat (quiet_step (fail))
    refine wpQuiet_nil ?_
    clear c1 c2 hne F ι
    go_wp2
    have hH7 : Blk ((w4.drew.setCell ⟨w.heap.size, 0, none⟩ (.slice xa xn xc)).setCell ⟨w.heap.size, 1, none⟩ (.map ym)) w.heap.size [.slice xa xn xc, .map ym] 74 := ((HH4.out.drew.set 0 _).set 1 _).to rfl
    have k7 : Keeps (In [w.heap.size]) w1 ((w4.drew.setCell ⟨w.heap.size, 0, none⟩ (.slice xa xn xc)).setCell ⟨w.heap.size, 1, none⟩ (.map ym)) := (k4.drew.setCell (.inl (by simp [In])) _).setCell (.inl (by simp [In])) _
    refine EffPost.intro ⟨hH7.cell 0, hH7.cell 1⟩ ?_
    rw [wpSegs]
    intro ι F hne hF
    clear hF
    repeat (quiet_step (fail))
    refine wpQuiet_nil ?_
    clear hne F ι
    have HH7 := Lib.hid hH7
    clear hH7
    go_wp2
    refine bodyPost_ret (results_row_tmp2 rfl _ _ w.heap.size _ rfl (load_hdr _ _ _ _ HH7.out)) rfl ?_
    refine ⟨(K01.of_no.trans' k7).mono (fun i hi h => by simp [In] at h; omega), ?_⟩
    have hres := HRES.out
    cases r with
    | none => exact ⟨xa, xn, xc, ym, k, rfl⟩
    | some pc => cases hr0
end Go.Proofs.YtjbbapodcngnaaaGreatDoor
namespace Go.Proofs.YtjbbapodcngnaaaGreatDoor
open Go.RowKit Hdr

/-- An iterator at block ib over the header at block hb. -/
structure It (w : World) (ib hb lb n cap : Nat) (m : Option Nat) (j : Int) : Prop where
  B : Blk w ib [.pointer (some ⟨hb, 0, none⟩), .int .i64 j] 157
  H : Blk w hb [.slice (some ⟨lb, 0, none⟩) n cap, .map m] 74
theorem It.keep {S : Nat → Prop} {w w' : World} {ib hb lb n cap : Nat} {m : Option Nat} {j : Int} (h : It w ib hb lb n cap m j) (k : Keeps S w w') (h1 : ¬ S ib) (h2 : ¬ S hb) : It w' ib hb lb n cap m j := ⟨h.B.keep k h1, h.H.keep k h2⟩
theorem It.drewN {w : World} {ib hb lb n cap : Nat} {m : Option Nat} {j : Int} (h : It w ib hb lb n cap m j) (q : Nat) : It (w.drewN q) ib hb lb n cap m j := ⟨h.B.drewN q, h.H.drewN q⟩
theorem It.cells {w : World} {ib hb lb n cap : Nat} {m : Option Nat} {j : Int} (h : It w ib hb lb n cap m j) : w.cell? ⟨ib, 0, none⟩ = some (.pointer (some ⟨hb, 0, none⟩)) ∧ w.cell? ⟨ib, 1, none⟩ = some (.int .i64 j) ∧ w.cell? ⟨hb, 0, none⟩ = some (.slice (some ⟨lb, 0, none⟩) n cap) :=
  ⟨h.B.cell 0, h.B.cell 1, h.H.cell 0⟩

set_option maxRecDepth 100000 in
set_option maxHeartbeats 1000000 in
theorem next_any (ib hb lb n cap : Nat) (m : Option Nat) (j : Int) (w : World) (h : It w ib hb lb n cap m j) (h1 : -1 ≤ j) (h2 : j < n) (hn : n ≤ 1000000) :
    Calls Tryz.prog 251 #[.pointer (some ⟨ib, 0, none⟩)] w fun e w' => e = .returned (.bool (decide (j + 1 < n))) ∧ It w' ib hb lb n cap m (j + 1) ∧ Keeps (In [ib]) w w' := by
  obtain ⟨c0, c1, c2⟩ := h.cells
  have fz := h.B.frozen
  have hne : ib ≠ hb := h.B.ne h.H (by decide)
  have H := Lib.hid h
  have hw : IntKind.i64.wrap (j + 1) = j + 1 := by rw [IntKind.wrap_i64]; omega
  clear h
  go_enter Tryz.func251, Tryz.ntmps251
  go_wp2
  go_quiet (fail)
  go_wp2
  go_ret
  have hB := (H.out.B.set 1 (.int .i64 (j + 1))).drewN nq
  exact ⟨rfl, ⟨hB.to rfl, (H.out.H.set_other (p := ⟨ib, 1, none⟩) hne _).drewN nq⟩, ((Keeps.refl _ w).setCell (.inl (by simp [In])) _).drewN nq⟩

set_option maxRecDepth 100000 in
set_option maxHeartbeats 1000000 in
theorem index_any (ib hb lb n cap : Nat) (m : Option Nat) (j : Nat) (w : World) (h : It w ib hb lb n cap m j) (hj : j < n) (hn : n ≤ 1000000) :
    Calls Tryz.prog 255 #[.pointer (some ⟨ib, 0, none⟩)] w fun e w' => e = .returned (.int .i64 ((n - 1 - j : Nat) : Int)) ∧ ∃ q, w' = w.drewN q := by
  obtain ⟨c0, c1, c2⟩ := h.cells
  have e1 : decide ((j : Int) < 0) = false := decide_eq_false (by omega)
  have e2 : decide ((n : Int) ≤ (j : Int)) = false := decide_eq_false (by omega)
  have e2' : decide (n ≤ j) = false := decide_eq_false (by omega)
  have e3 : IntKind.i64.wrap ((n : Int) - (j : Int)) = (n : Int) - j := by rw [IntKind.wrap_i64]; omega
  have e4 : (n : Int) - (j : Int) - 1 = ((n - 1 - j : Nat) : Int) := by omega
  have e5 : IntKind.i64.wrap ((n : Int) - (j : Int) - 1) = ((n - 1 - j : Nat) : Int) := by rw [e4]; exact wrap_small _ (by omega)
  clear h
  go_enter Tryz.func255, Tryz.ntmps255
  go_wp2
  go_quiet (fail)
  go_wp2
  go_quiet (fail)
  go_wp2
  go_ret
  exact ⟨rfl, _, World.drewN_drewN _ _ _⟩

set_option maxRecDepth 100000 in
set_option maxHeartbeats 1000000 in
theorem field_any (ib hb lb n cap : Nat) (m : Option Nat) (j fb : Nat) (w : World) (h : It w ib hb lb n cap m j) (hj : j < n) (hn : n ≤ 1000000) (hc : w.cell? ⟨lb, n - 1 - j, none⟩ = some (.pointer (some ⟨fb, 0, none⟩))) :
    Calls Tryz.prog 254 #[.pointer (some ⟨ib, 0, none⟩)] w fun e w' => e = .returned (.pointer (some ⟨fb, 0, none⟩)) ∧ ∃ q, w' = w.drewN q := by
  obtain ⟨c0, c1, c2⟩ := h.cells
  have H := Lib.hid h
  have e1 : ((n - 1 - j : Nat) : Int) < (n : Int) := by omega
  have e2 : (0 : Int) ≤ ((n - 1 - j : Nat) : Int) := by omega
  have hix := fun w' (h : It w' ib hb lb n cap m j) => index_any ib hb lb n cap m j w' h hj hn
  generalize n - 1 - j = ix at *
  clear h
  go_enter Tryz.func254, Tryz.ntmps254
  go_wp2
  go_quiet ((go_at_call 255; exact Calls.quiet_of (hix _ (H.out.drewN _))))
  go_wp2
  go_ret
  exact ⟨rfl, _, rfl⟩
end Go.Proofs.YtjbbapodcngnaaaGreatDoor
namespace Go.Proofs.YtjbbapodcngnaaaGreatDoor
open Go.RowKit Hdr

/-- The field at hand is f. -/
structure At (w : World) (ib hb lb n cap : Nat) (m : Option Nat) (j fb : Nat) (rv : Value) (k v : List UInt8) : Prop where
  I : It w ib hb lb n cap m j
  c : w.cell? ⟨lb, n - 1 - j, none⟩ = some (.pointer (some ⟨fb, 0, none⟩))
  F : Blk w fb [rv, str k, str v] 185
theorem At.drewN {w : World} {ib hb lb n cap : Nat} {m : Option Nat} {j fb : Nat} {rv : Value} {k v : List UInt8} (h : At w ib hb lb n cap m j fb rv k v) (q : Nat) : At (w.drewN q) ib hb lb n cap m j fb rv k v := ⟨h.I.drewN q, h.c, h.F.drewN q⟩

section
variable (ib hb lb n cap : Nat) (m : Option Nat) (j fb : Nat) (rv : Value) (k v : List UInt8) (w : World) (h : At w ib hb lb n cap m j fb rv k v) (hj : j < n) (hn : n ≤ 1000000)
include h hj hn

set_option maxRecDepth 100000 in
theorem key_any : Calls Tryz.prog 249 #[.pointer (some ⟨ib, 0, none⟩)] w fun e w' => e = .returned (str k) ∧ ∃ q, w' = w.drewN q := by
  have c1 : w.cell? ⟨fb, 1, none⟩ = some (str k) := h.F.cell 1
  have H := Lib.hid h
  clear h
  go_enter Tryz.func249, Tryz.ntmps249
  go_wp2_with (fail)
  refine (field_any ib hb lb n cap m j fb w H.out.I hj hn H.out.c).mono ?_
  rintro e w1 ⟨rfl, q, rfl⟩
  go_wp2
  go_ret
  exact ⟨rfl, q, rfl⟩

set_option maxRecDepth 100000 in
theorem value_any : Calls Tryz.prog 253 #[.pointer (some ⟨ib, 0, none⟩)] w fun e w' => e = .returned (str v) ∧ ∃ q, w' = w.drewN q := by
  have c1 : w.cell? ⟨fb, 2, none⟩ = some (str v) := h.F.cell 2
  have H := Lib.hid h
  clear h
  go_enter Tryz.func253, Tryz.ntmps253
  go_wp2_with (fail)
  refine (field_any ib hb lb n cap m j fb w H.out.I hj hn H.out.c).mono ?_
  rintro e w1 ⟨rfl, q, rfl⟩
  go_wp2
  go_ret
  exact ⟨rfl, q, rfl⟩
end

set_option maxRecDepth 100000 in
theorem fieldRaw_some (fb : Nat) (a : Addr) (l c : Nat) (k v : List UInt8) (w : World) (h : Blk w fb [.slice (some a) l c, str k, str v] 185) :
    Calls Tryz.prog 84 #[.pointer (some ⟨fb, 0, none⟩)] w fun e w' => e = .returned (.tuple #[.slice (some a) l c, .nilIface]) ∧ w' = w := by
  have c1 : w.cell? ⟨fb, 0, none⟩ = some (.slice (some a) l c) := h.cell 0
  clear h
  go_enter Tryz.func84, Tryz.ntmps84
  go_wp2
  go_ret2
  exact ⟨rfl, rfl⟩

set_option maxRecDepth 100000 in
theorem raw_some (ib hb lb n cap : Nat) (m : Option Nat) (j fb : Nat) (a : Addr) (l c : Nat) (k v : List UInt8) (w : World) (h : At w ib hb lb n cap m j fb (.slice (some a) l c) k v) (hj : j < n) (hn : n ≤ 1000000) :
    Calls Tryz.prog 252 #[.pointer (some ⟨ib, 0, none⟩)] w fun e w' => e = .returned (.tuple #[.slice (some a) l c, .nilIface]) ∧ ∃ q, w' = w.drewN q := by
  have H := Lib.hid h
  clear h
  go_enter Tryz.func252, Tryz.ntmps252
  go_wp2_with (fail)
  refine (field_any ib hb lb n cap m j fb w H.out.I hj hn H.out.c).mono ?_
  rintro e w1 ⟨rfl, q, rfl⟩
  go_wp2_with (fail)
  refine (fieldRaw_some fb a l c k v _ (H.out.F.drewN q)).mono ?_
  rintro e w2 ⟨rfl, rfl⟩
  go_wp2
  go_ret2
  exact ⟨rfl, q, rfl⟩

set_option maxRecDepth 100000 in
theorem fields_any (hb : Nat) (w : World) :
    Calls Tryz.prog 55 #[.pointer (some ⟨hb, 0, none⟩)] w fun e w' => e = .returned (.iface 155 (.pointer (some ⟨w.heap.size, 0, none⟩))) ∧ w' = w.alloc (.cells #[.pointer (some ⟨hb, 0, none⟩), .int .i64 (-1)] 157) := by
  go_enter Tryz.func55, Tryz.ntmps55
  go_wp2
  go_ret
  exact ⟨rfl, rfl⟩

theorem method_next (b : Nat) (w : World) : (method 477 155 (.pointer (some ⟨b, 0, none⟩)) "Next").run Tryz.prog w = .ok (251, .pointer (some ⟨b, 0, none⟩)) w := by kernel_rfl
theorem method_raw (b : Nat) (w : World) : (method 477 155 (.pointer (some ⟨b, 0, none⟩)) "Raw").run Tryz.prog w = .ok (252, .pointer (some ⟨b, 0, none⟩)) w := by kernel_rfl
theorem method_key (b : Nat) (w : World) : (method 477 155 (.pointer (some ⟨b, 0, none⟩)) "Key").run Tryz.prog w = .ok (249, .pointer (some ⟨b, 0, none⟩)) w := by kernel_rfl
theorem method_value (b : Nat) (w : World) : (method 477 155 (.pointer (some ⟨b, 0, none⟩)) "Value").run Tryz.prog w = .ok (253, .pointer (some ⟨b, 0, none⟩)) w := by kernel_rfl
end Go.Proofs.YtjbbapodcngnaaaGreatDoor
