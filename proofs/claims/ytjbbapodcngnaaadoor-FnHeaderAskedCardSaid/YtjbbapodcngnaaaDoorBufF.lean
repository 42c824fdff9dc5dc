import Derived.Test.YtjbbapodcngnaaaDoorBufE
namespace Go.Proofs.YtjbbapodcngnaaaDoor
open Go.RowKit

/-- What ReadSlice leaves: these bytes of the buffer, an error or none; c is still to be read. -/
def SlicePost (b g s : Nat) (src : ByteArray) (l : List UInt8) (err : Value) (c : List UInt8) (w : World) (e : Ending) (w' : World) : Prop :=
  ∃ o cap : Nat, e = .returned (.tuple #[.slice (some ⟨g, o, none⟩) l.length cap, err]) ∧ l.length ≤ cap ∧ BytesAt w' g o l ∧ Rd w' b g s src c ∧ Keeps (In [b, g, s]) w w'

theorem RdD.bytes {w : World} {b g s : Nat} {src : ByteArray} {r q i : Nat} {err : Value} {lb lr p : Int} {data : List UInt8} (h : RdD w b g s src r q i err lb lr p data) : BytesAt w g 0 data :=
  BytesAt.of_blk h.G (by simp [List.take_of_length_le])

theorem indexByte_n (b o n cap : Nat) (l : List UInt8) (hn : l.length = n) (v : Int) (hv : Lib.indexByte l 10 = v) (w : World) (h : BytesAt w b o l) :
    Calls Tryd.prog 48 #[.slice (some ⟨b, o, none⟩) n cap, .int .u8 10] w fun e w' => e = .returned (.int .i64 v) ∧ w' = w := by
  subst hn; subst hv
  exact indexByte_any b o cap l 10 w h

/-- The buffer's part, of what is still to be read. -/
theorem rest_part {src : ByteArray} {r q i : Nat} {data : List UInt8} (hd : data.length = 4096) (hrq : r ≤ q) (hq : q ≤ 4096) (t : Nat) (h1 : r ≤ t) (h2 : t ≤ q) :
    (data.drop t).take (q - t) = ((rest src r q i data).take (q - r)).drop (t - r) := by
  unfold rest
  have hl : ((data.drop r).take (q - r)).length = q - r := by simp; omega
  rw [List.take_left' hl, List.drop_take, List.drop_drop, show r + (t - r) = t by omega, show q - r - (t - r) = q - t by omega]

set_option maxRecDepth 100000 in
set_option maxHeartbeats 2000000 in
theorem readSlice_found (b g s : Nat) (src : ByteArray) (ea : Addr) (w : World) (line c : List UInt8) (h : Rd w b g s src (line ++ 10 :: c)) (hl : line.length + 1 ≤ 4096) (hn : (10 : UInt8) ∉ line) {N : Nat} (E : Env N b g s src ea w) :
    Calls Tryd.prog 65 #[.pointer (some ⟨b, 0, none⟩), .int .u8 10] w (SlicePost b g s src (line ++ [10]) .nilIface c w) := by
  obtain ⟨r, q, i, lb, lr, p, data, h, hc⟩ := h
  have H := Lib.hid h
  have HE := Lib.hid E
  have HC := Lib.hid hc
  clear h hc E
  go_enter Tryd.func65, Tryd.ntmps65
  go_upto_block 0 with (fail)
  go_cut [4, 5] (fun s4 s5 wx => ∃ (o cap r' q' i' : Nat) (lb' lr' p' : Int) (data' : List UInt8), s4 = .slice (some ⟨g, o, none⟩) (line.length + 1) cap ∧ s5 = .nilIface ∧ line.length + 1 ≤ cap ∧
    RdD wx b g s src r' q' i' .nilIface lb' lr' p' data' ∧ rest src r' q' i' data' = c ∧ BytesAt wx g o (line ++ [10]) ∧ Keeps (In [b, g, s]) w wx)
  case first =>
    go_wp2
    go_loopg [4, 5, 6] (src.size - i) (fun k s4 s5 s6 wx => s4 = .slice none 0 0 ∧ s5 = .nilIface ∧ ∃ (r' q' i' sN : Nat) (lb' lr' p' : Int) (data' : List UInt8), s6 = .int .i64 sN ∧ k = src.size - i' ∧ sN ≤ q' - r' ∧ sN ≤ line.length ∧
      RdD wx b g s src r' q' i' .nilIface lb' lr' p' data' ∧ rest src r' q' i' data' = line ++ 10 :: c ∧ Keeps (In [b, g, s]) w wx)
    case atStart => exact ⟨rfl, rfl, r, q, i, 0, lb, lr, p, data, rfl, rfl, Nat.zero_le _, Nat.zero_le _, H.out, HC.out, Keeps.refl _ _⟩
    case round =>
      obtain ⟨rfl, rfl, r', q', i', sN, lb', lr', p', data', rfl, hk, hs1, hs2, R1, hr1, K1⟩ := hrel
      obtain ⟨h0, h2, h3, h4, h5, h6⟩ := R1.cells
      have fz := R1.B.frozen
      have hq := R1.hq
      have hrq := R1.hrq
      have hd := R1.hd
      have HR := Lib.hid R1
      have HK := Lib.hid hk
      have HY := Lib.hid hr1
      have HD := Lib.hid hd
      have b1 : (r' : Int) + sN ≤ q' := by omega
      have b2 : (q' : Int) ≤ 4096 := by omega
      clear R1 hr1 hk hd
      by_cases hin : line.length < q' - r'
      · obtain ⟨t, ht⟩ : ∃ t : Nat, t = r' + sN := ⟨_, rfl⟩
        have hsum : (r' : Int) + sN = t := by omega
        have hsum2 : IntKind.i64.wrap ((r' : Int) + sN) = t := by rw [hsum]; exact IntWalk.i64_in _ (by omega)
        have t1 : (t : Int) ≤ q' := by omega
        have t2 : (0 : Int) ≤ (t : Int) := by omega
        have hL : ((data'.drop t).take (q' - t)).length = q' - t := by have := HD.out; simp; omega
        obtain ⟨m, hm⟩ : ∃ m : Nat, m + sN = line.length := ⟨line.length - sN, by omega⟩
        have hix : Lib.indexByte ((data'.drop t).take (q' - t)) 10 = (m : Int) := by
          rw [rest_part (src := src) (i := i') HD.out hrq hq t (by omega) (by omega), HY.out, List.take_append, List.take_of_length_le (by omega), List.drop_append_of_le_length (by omega), show q' - r' - line.length = (q' - r' - line.length - 1) + 1 by omega, List.take_succ_cons,
            ixb_some (fun h => hn (List.mem_of_mem_drop h))]
          simp; omega
        have HI := Lib.hid hix
        have HL := Lib.hid hL
        have HT := Lib.hid ht
        clear hix hL ht
        go_wp2
        go_quiet ((go_at_call 48; exact Calls.quiet_of_same (indexByte_n g _ _ _ _ HL.out _ HI.out _ (HR.out.bytes.cut t (q' - t) (by rw [HD.out]; exact Nat.le_refl _)))))
        clear hsum hsum2
        obtain ⟨e, he⟩ : ∃ e : Nat, e = r' + line.length := ⟨_, rfl⟩
        have hs3 : (m : Int) + sN = line.length := by omega
        have hs4 : (r' : Int) + line.length = e := by omega
        have hs5 : IntKind.i64.wrap ((r' : Int) + line.length) = e := by rw [hs4]; exact IntWalk.i64_in _ (by omega)
        have hs6 : IntKind.i64.wrap ((e : Int) + 1) = (e : Int) + 1 := IntWalk.i64_in _ (by omega)
        have t3 : (e : Int) + 1 ≤ 4096 := by omega
        have t4 : (r' : Int) ≤ (e : Int) + 1 := by omega
        have t5 : (0 : Int) ≤ (e : Int) + 1 := by omega
        have hs7 : (r' : Int) + (line.length + 1) = (e : Int) + 1 := by omega
        have HM := Lib.hid hm
        have HEE := Lib.hid he
        clear hm he
        have fz := HR.out.B.frozen
        go_wp2
        go_quiet (fail)
        go_wp2
        go_meet
        have he := HEE.out
        have hsl : e + 1 - r' = line.length + 1 := by omega
        have hrest : rest src r' q' i' data' = (data'.drop r').take (line.length + 1) ++ rest src (r' + (line.length + 1)) q' i' data' := by
          unfold rest
          rw [← List.append_assoc]
          congr 1
          rw [show q' - r' = (line.length + 1) + (q' - (r' + (line.length + 1))) by omega, List.take_add, List.drop_drop]
        have hpart : (data'.drop r').take (line.length + 1) = line ++ [10] ∧ rest src (r' + (line.length + 1)) q' i' data' = c := by
          have h1 := hrest.symm.trans HY.out
          rw [show line ++ 10 :: c = (line ++ [10]) ++ c by simp] at h1
          have hl2 : ((data'.drop r').take (line.length + 1)).length = (line ++ [10]).length := by have := HD.out; simp; omega
          exact List.append_inj h1 hl2
        refine ⟨cutAt 0 r' 4096 1, 4096 - r', r' + (line.length + 1), q', i', lb', lr', p', data', by rw [hsl], rfl, by omega, HR.out.to (by repeat (first | assumption | exact Keeps.refl _ _ | apply Keeps.drewN | apply Keeps.drew | apply Keeps.alloc | (refine Keeps.setCell ?_ (.inl (by simp [In])) _))) (by omega) hq ((HR.out.B.set 2 _).to (by simp [brc]; omega)), hpart.2, ?_, (by repeat (first | assumption | exact Keeps.refl _ _ | apply Keeps.drewN | apply Keeps.drew | apply Keeps.alloc | (refine Keeps.setCell ?_ (.inl (by simp [In])) _)))⟩
        have h3 := (HR.out.bytes.cut r' (line.length + 1) (cap := 4096) (by rw [HD.out]; exact Nat.le_refl _))
        rw [hpart.1] at h3
        exact h3.keep (S := In [b]) (by repeat (first | assumption | exact Keeps.refl _ _ | apply Keeps.drewN | apply Keeps.drew | apply Keeps.alloc | (refine Keeps.setCell ?_ (.inl (by simp [In])) _))) (by have := HR.out.bg; simp [In]; omega)
      · obtain ⟨t, ht⟩ : ∃ t : Nat, t = r' + sN := ⟨_, rfl⟩
        have hsum : (r' : Int) + sN = t := by omega
        have hsum2 : IntKind.i64.wrap ((r' : Int) + sN) = t := by rw [hsum]; exact IntWalk.i64_in _ (by omega)
        have t1 : (t : Int) ≤ q' := by omega
        have t2 : (0 : Int) ≤ (t : Int) := by omega
        have hL : ((data'.drop t).take (q' - t)).length = q' - t := by have := HD.out; simp; omega
        have hix : Lib.indexByte ((data'.drop t).take (q' - t)) 10 = -1 := by
          rw [rest_part (src := src) (i := i') HD.out hrq hq t (by omega) (by omega), HY.out, List.take_append_of_le_length (by omega)]
          exact ixb_none (fun h => hn (List.mem_of_mem_take (List.mem_of_mem_drop h)))
        have hi : i' < src.size := by
          rcases Nat.lt_or_ge i' src.size with h | h
          · exact h
          · exfalso
            have h1 := congrArg List.length HY.out
            have h2 : src.data.toList.drop i' = [] := List.drop_eq_nil_of_le (by rw [str_size]; exact h)
            unfold rest at h1
            rw [h2] at h1
            simp at h1
            omega
        have HI := Lib.hid hix
        have HL := Lib.hid hL
        have HT := Lib.hid ht
        clear hix hL ht
        go_wp2
        go_quiet ((go_at_call 48; exact Calls.quiet_of_same (indexByte_n g _ _ _ _ HL.out _ HI.out _ (HR.out.bytes.cut t (q' - t) (by rw [HD.out]; exact Nat.le_refl _)))))
        clear hsum hsum2 t1 t2 b1
        have d1 : decide ((4096 : Int) ≤ (q' : Int) - r') = false := decide_eq_false (by omega)
        have d2 : (0 : Int) ≤ (q' : Int) - r' := by omega
        go_wp2
        go_quiet ((go_at_call 36; exact q_add (buffered b _ r' q' _ (HR.out.B.drewN _) rfl rfl hrq hq)))
        go_wp2
        go_quiet (fail)
        go_wp2_with (fail)
        refine (fill_rd b g s r' q' i' src .nilIface ea lb' lr' p' data' _ (HR.out.drewN _) (by omega) (HE.out.keep3 (K1.drewN _))).mono ?_
        rintro e W2 ⟨rfl, data2, n, err', p2, R2, hn2, -, hr2, -, K2⟩
        obtain ⟨hn2, rfl⟩ := hn2 hi
        have K2 := K2.drewN_left
        clear h0 h2 h3 h4 h5 h6 fz
        go_wp2
        go_roundg (src.size - (i' + n))
        case measure => have := HK.out; omega
        case rel => exact ⟨rfl, rfl, 0, _, _, q' - r', lb', lr', p2, data2, by congr 1; omega, rfl, by omega, by omega, R2, hr2.trans HY.out, K1.trans' K2⟩
  case rest =>
    obtain ⟨o, cap, r', q', i', lb', lr', p', data', rfl, rfl, hcap, R1, hr1, hby, K1⟩ := hcut
    have fz := R1.B.frozen
    have hx := hby.cell (i := line.length) (by simp)
    have hlen : (line ++ [10]).length = line.length + 1 := by simp
    have e5 := (R1.B.cell 5).trans (show (brc g s r' q' .nilIface lb' lr')[5]? = some (.int .i64 lb') from rfl)
    have e6 := (R1.B.cell 6).trans (show (brc g s r' q' .nilIface lb' lr')[6]? = some (.int .i64 lr') from rfl)
    have hbg := R1.bg
    unfold byt at hx
    simp only [List.getElem_append_right (Nat.le_refl _), Nat.sub_self, List.getElem_cons_zero] at hx
    have HR := Lib.hid R1
    have HY := Lib.hid hr1
    have HB := Lib.hid hby
    have HL := Lib.hid hlen
    clear R1 hr1 hby hlen
    go_wp2
    go_ret2
    refine ⟨o, cap, by rw [HL.out]; rfl, by rw [HL.out]; exact hcap, HB.out.keep (S := In [b]) (by repeat (first | assumption | exact Keeps.refl _ _ | apply Keeps.drewN | apply Keeps.drew | apply Keeps.alloc | (refine Keeps.setCell ?_ (.inl (by simp [In])) _))) (by simp [In]; omega), ⟨r', q', i', 10, -1, p', data', HR.out.to (by repeat (first | assumption | exact Keeps.refl _ _ | apply Keeps.drewN | apply Keeps.drew | apply Keeps.alloc | (refine Keeps.setCell ?_ (.inl (by simp [In])) _))) HR.out.hrq HR.out.hq (((HR.out.B.set 5 _).set 6 _).to rfl), HY.out⟩, (by repeat (first | assumption | exact Keeps.refl _ _ | apply Keeps.drewN | apply Keeps.drew | apply Keeps.alloc | (refine Keeps.setCell ?_ (.inl (by simp [In])) _)))⟩

set_option maxRecDepth 100000 in
set_option maxHeartbeats 2000000 in
theorem readSlice_eof (b g s : Nat) (src : ByteArray) (ea : Addr) (w : World) (c : List UInt8) (h : Rd w b g s src c) (hl : c.length < 4096) (hn : (10 : UInt8) ∉ c) {N : Nat} (E : Env N b g s src ea w) :
    Calls Tryd.prog 65 #[.pointer (some ⟨b, 0, none⟩), .int .u8 10] w (SlicePost b g s src c (.iface 109 (.pointer (some ea))) [] w) := by
  obtain ⟨r, q, i, lb, lr, p, data, h, hc⟩ := h
  have H := Lib.hid h
  have HE := Lib.hid E
  have HC := Lib.hid hc
  clear h hc E
  go_enter Tryd.func65, Tryd.ntmps65
  go_upto_block 0 with (fail)
  go_cut [4, 5] (fun s4 s5 wx => ∃ (o cap r' q' i' : Nat) (lb' lr' p' : Int) (data' : List UInt8), s4 = .slice (some ⟨g, o, none⟩) c.length cap ∧ s5 = (.iface 109 (.pointer (some ea))) ∧ c.length ≤ cap ∧
    RdD wx b g s src r' q' i' .nilIface lb' lr' p' data' ∧ rest src r' q' i' data' = [] ∧ BytesAt wx g o c ∧ Keeps (In [b, g, s]) w wx)
  case first =>
    go_wp2
    go_loopg [4, 5, 6] (src.size - i + 1) (fun k s4 s5 s6 wx => s4 = .slice none 0 0 ∧ s5 = .nilIface ∧ ∃ (r' q' i' sN : Nat) (err' : Value) (lb' lr' p' : Int) (data' : List UInt8), s6 = .int .i64 sN ∧ (err' = .nilIface ∧ k = src.size - i' + 1 ∨ err' = (.iface 109 (.pointer (some ea))) ∧ src.size ≤ i') ∧ sN ≤ q' - r' ∧
      RdD wx b g s src r' q' i' err' lb' lr' p' data' ∧ rest src r' q' i' data' = c ∧ Keeps (In [b, g, s]) w wx)
    case atStart => exact ⟨rfl, rfl, r, q, i, 0, _, lb, lr, p, data, rfl, .inl ⟨rfl, rfl⟩, Nat.zero_le _, H.out, HC.out, Keeps.refl _ _⟩
    case round =>
      obtain ⟨rfl, rfl, r', q', i', sN, err', lb', lr', p', data', rfl, hk, hs1, R1, hr1, K1⟩ := hrel
      obtain ⟨h0, h2, h3, h4, h5, h6⟩ := R1.cells
      have fz := R1.B.frozen
      have hq := R1.hq
      have hrq := R1.hrq
      have hd := R1.hd
      have HR := Lib.hid R1
      have HK := Lib.hid hk
      have HY := Lib.hid hr1
      have HD := Lib.hid hd
      have b1 : (r' : Int) + sN ≤ q' := by omega
      have b2 : (q' : Int) ≤ 4096 := by omega
      have hlen : q' - r' ≤ c.length := by rw [← hr1]; unfold rest; simp; omega
      clear R1 hr1 hk hd
      obtain ⟨t, ht⟩ : ∃ t : Nat, t = r' + sN := ⟨_, rfl⟩
      have hsum : (r' : Int) + sN = t := by omega
      have hsum2 : IntKind.i64.wrap ((r' : Int) + sN) = t := by rw [hsum]; exact IntWalk.i64_in _ (by omega)
      have t1 : (t : Int) ≤ q' := by omega
      have t2 : (0 : Int) ≤ (t : Int) := by omega
      have hL : ((data'.drop t).take (q' - t)).length = q' - t := by have := HD.out; simp; omega
      have hix : Lib.indexByte ((data'.drop t).take (q' - t)) 10 = -1 := by
        rw [rest_part (src := src) (i := i') HD.out hrq hq t (by omega) (by omega), HY.out]
        exact ixb_none (fun h => hn (List.mem_of_mem_take (List.mem_of_mem_drop h)))
      have HI := Lib.hid hix
      have HL := Lib.hid hL
      have HT := Lib.hid ht
      clear hix hL ht
      go_wp2
      go_quiet ((go_at_call 48; exact Calls.quiet_of_same (indexByte_n g _ _ _ _ HL.out _ HI.out _ (HR.out.bytes.cut t (q' - t) (by rw [HD.out]; exact Nat.le_refl _)))))
      clear hsum hsum2 t1 t2 b1
      rcases HK.out with ⟨rfl, hk⟩ | ⟨rfl, hi⟩
      · have HK2 := Lib.hid hk
        have d1 : decide ((4096 : Int) ≤ (q' : Int) - r') = false := decide_eq_false (by omega)
        have d2 : (0 : Int) ≤ (q' : Int) - r' := by omega
        clear hk
        go_wp2
        go_quiet ((go_at_call 36; exact q_add (buffered b _ r' q' _ (HR.out.B.drewN _) rfl rfl hrq hq)))
        go_wp2
        go_quiet (fail)
        go_wp2_with (fail)
        refine (fill_rd b g s r' q' i' src .nilIface ea lb' lr' p' data' _ (HR.out.drewN _) (by omega) (HE.out.keep3 (K1.drewN _))).mono ?_
        rintro e W2 ⟨rfl, data2, n, err', p2, R2, hn2, hn3, hr2, -, K2⟩
        have K2 := K2.drewN_left
        clear h0 h2 h3 h4 h5 h6 fz
        have HN2 := Lib.hid hn2
        have HN3 := Lib.hid hn3
        clear hn2 hn3
        go_wp2
        by_cases hi : i' < src.size
        · obtain ⟨hn2, rfl⟩ := HN2.out hi
          go_roundg (src.size - (i' + n) + 1)
          case measure => have := HK2.out; have := R2.hi; omega
          case rel => exact ⟨rfl, rfl, 0, _, _, q' - r', _, lb', lr', p2, data2, by congr 1; omega, .inl ⟨rfl, rfl⟩, by omega, R2, hr2.trans HY.out, K1.trans' K2⟩
        · obtain ⟨hn2, rfl⟩ := HN3.out (by omega)
          go_roundg 0
          case measure => have := HK2.out; omega
          case rel => exact ⟨rfl, rfl, 0, _, _, q' - r', _, lb', lr', p2, data2, by congr 1; omega, .inr ⟨rfl, by omega⟩, by omega, R2, hr2.trans HY.out, K1.trans' K2⟩
      · have hq1 : (r' : Int) ≤ (q' : Int) := by omega
        go_wp2
        go_quiet (fail)
        go_wp2_with (fail)
        refine (readErr_any b _ _ _ ((HR.out.B.drewN _).set 2 _) rfl).mono ?_
        rintro e W2 ⟨rfl, rfl⟩
        go_wp2
        go_meet
        have hrd : (data'.drop r').take (q' - r') = c := by
          rw [← rest_end hi]; exact HY.out
        have hlc : q' - r' = c.length := by rw [← hrd]; have := HD.out; simp; omega
        have h3 := (HR.out.bytes.cut r' (q' - r') (cap := 4096) (by rw [HD.out]; exact Nat.le_refl _))
        rw [hrd] at h3
        refine ⟨cutAt 0 r' 4096 1, 4096 - r', q', q', i', lb', lr', p', data', by rw [hlc], rfl, by omega, HR.out.to (by repeat (first | assumption | exact Keeps.refl _ _ | apply Keeps.drewN | apply Keeps.drew | apply Keeps.alloc | (refine Keeps.setCell ?_ (.inl (by simp [In])) _))) (Nat.le_refl _) hq ((((HR.out.B.drewN _).set 2 _).set 4 _).to (by simp [brc])), ?_, h3.keep (S := In [b]) (by repeat (first | assumption | exact Keeps.refl _ _ | apply Keeps.drewN | apply Keeps.drew | apply Keeps.alloc | (refine Keeps.setCell ?_ (.inl (by simp [In])) _))) (by have := HR.out.bg; simp [In]; omega), (by repeat (first | assumption | exact Keeps.refl _ _ | apply Keeps.drewN | apply Keeps.drew | apply Keeps.alloc | (refine Keeps.setCell ?_ (.inl (by simp [In])) _)))⟩
        rw [rest_end hi]; simp
  case rest =>
    obtain ⟨o, cap, r', q', i', lb', lr', p', data', rfl, rfl, hcap, R1, hr1, hby, K1⟩ := hcut
    have fz := R1.B.frozen
    have e5 := (R1.B.cell 5).trans (show (brc g s r' q' .nilIface lb' lr')[5]? = some (.int .i64 lb') from rfl)
    have e6 := (R1.B.cell 6).trans (show (brc g s r' q' .nilIface lb' lr')[6]? = some (.int .i64 lr') from rfl)
    have hbg := R1.bg
    have HR := Lib.hid R1
    have HY := Lib.hid hr1
    have HB := Lib.hid hby
    clear hr1 hby
    rcases nil_or_snoc c with rfl | ⟨c0, x, rfl⟩
    · go_wp2
      go_ret2
      exact ⟨o, cap, rfl, hcap, HB.out, ⟨r', q', i', lb', lr', p', data', HR.out, HY.out⟩, K1⟩
    · have hx := HB.out.cell (i := c0.length) (by simp)
      have hlen : (c0 ++ [x]).length = c0.length + 1 := by simp
      have hx1 : (c0 ++ [x])[c0.length]'(by simp) = x := by simp
      rw [hx1] at hx
      unfold byt at hx
      clear hx1
      have HL := Lib.hid hlen
      have hw := w64_u8 x
      clear hlen
      rw [HL.out] at hcap hl ⊢
      clear R1
      go_wp2
      go_ret2
      refine ⟨o, cap, by rw [HL.out]; rfl, by rw [HL.out]; exact hcap, HB.out.keep (S := In [b]) (by repeat (first | assumption | exact Keeps.refl _ _ | apply Keeps.drewN | apply Keeps.drew | apply Keeps.alloc | (refine Keeps.setCell ?_ (.inl (by simp [In])) _))) (by simp [In]; omega), ⟨r', q', i', x.toNat, -1, p', data', HR.out.to (by repeat (first | assumption | exact Keeps.refl _ _ | apply Keeps.drewN | apply Keeps.drew | apply Keeps.alloc | (refine Keeps.setCell ?_ (.inl (by simp [In])) _))) HR.out.hrq HR.out.hq (((HR.out.B.set 5 _).set 6 _).to rfl), HY.out⟩, (by repeat (first | assumption | exact Keeps.refl _ _ | apply Keeps.drewN | apply Keeps.drew | apply Keeps.alloc | (refine Keeps.setCell ?_ (.inl (by simp [In])) _)))⟩
end Go.Proofs.YtjbbapodcngnaaaDoor
