/-     ReadHeader over any source. -/
import Derived.Test.YtjbbapodcngnaaaGreatDoorZsae
import Derived.Test.YtjbbapodcngnaaaGreatDoorZsaa
import Derived.LaidEql
import Derived.Test.YtjbbapodcngnaaaGreatDoorZsac
import Derived.Test.YtjbbapodcngnaaaGreatDoorZsad
namespace Go.Proofs.YtjbbapodcngnaaaGreatDoor.G
open Go.RowKit Hdr

/-- What ReadSlice leaves: these bytes of the buffer, an error or none; c is still to be read. -/
def SlicePost (b g : Nat) (X : Src) (l : List UInt8) (err : Value) (c : List UInt8) (w : World) (e : Ending) (w' : World) : Prop :=
  ∃ o cap : Nat, e = .returned (.tuple #[.slice (some ⟨g, o, none⟩) l.length cap, err]) ∧ l.length ≤ cap ∧ BytesAt w' g o l ∧ Rd w' b g X c ∧ Keeps (InX b g X) w w'

/-- The buffer's part, of what is still to be read. -/
theorem rest_part {s : List UInt8} {r q : Nat} {data : List UInt8} (hd : data.length = 4096) (hrq : r ≤ q) (hq : q ≤ 4096) (t : Nat) (h1 : r ≤ t) (h2 : t ≤ q) :
    (data.drop t).take (q - t) = ((rest s r q data).take (q - r)).drop (t - r) := by
  unfold rest
  have hl : ((data.drop r).take (q - r)).length = q - r := by simp; omega
  rw [List.take_left' hl, List.drop_take, List.drop_drop, show r + (t - r) = t by omega, show q - r - (t - r) = q - t by omega]

set_option maxRecDepth 100000 in
set_option maxHeartbeats 2000000 in
theorem readSlice_found (b g : Nat) (X : Src) (w : World) (line c : List UInt8) (h : Rd w b g X (line ++ 10 :: c)) (hl : line.length + 1 ≤ 4096) (hn : (10 : UInt8) ∉ line) {N : Nat} (E : Env N b g X w) :
    Calls Tryz.prog 123 #[.pointer (some ⟨b, 0, none⟩), .int .u8 10] w (SlicePost b g X (line ++ [10]) .nilIface c w) := by
  obtain ⟨r, q, s, err, lb, lr, data, h, hc⟩ := h
  have H := Lib.hid h
  have HE := Lib.hid E
  have HC := Lib.hid hc
  clear h hc E
  go_enter Tryz.func123, Tryz.ntmps123
  go_upto_block 0 with (fail)
  go_cut [4, 5] (fun s4 s5 wx => ∃ (o cap r' q' : Nat) (s' : List UInt8) (err' : Value) (lb' lr' : Int) (data' : List UInt8), s4 = .slice (some ⟨g, o, none⟩) (line.length + 1) cap ∧ s5 = .nilIface ∧ line.length + 1 ≤ cap ∧
    RdD wx b g X r' q' s' err' lb' lr' data' ∧ rest s' r' q' data' = c ∧ BytesAt wx g o (line ++ [10]) ∧ Keeps (InX b g X) w wx)
  case first =>
    go_wp2
    go_loopg [4, 5, 6] s.length (fun k s4 s5 s6 wx => s4 = .slice none 0 0 ∧ s5 = .nilIface ∧ ∃ (r' q' sN : Nat) (s' : List UInt8) (err' : Value) (lb' lr' : Int) (data' : List UInt8), s6 = .int .i64 sN ∧ k = s'.length ∧ sN ≤ q' - r' ∧ sN ≤ line.length ∧
      RdD wx b g X r' q' s' err' lb' lr' data' ∧ rest s' r' q' data' = line ++ 10 :: c ∧ Keeps (InX b g X) w wx)
    case atStart => exact ⟨rfl, rfl, r, q, 0, s, err, lb, lr, data, rfl, rfl, Nat.zero_le _, Nat.zero_le _, H.out, HC.out, Keeps.refl _ _⟩
    case round =>
      obtain ⟨rfl, rfl, r', q', sN, s', err', lb', lr', data', rfl, hk, hs1, hs2, R1, hr1, K1⟩ := hrel
      obtain ⟨h0, h2, h3, h4, h5, h6⟩ := R1.cells
      have fz := R1.B.frozen
      have hq := R1.hq
      have hrq := R1.hrq
      have hd := R1.hd
      have HR := Lib.hid R1
      have HK := Lib.hid hk
      have HY := Lib.hid hr1
      have HD := Lib.hid hd
      have b1 : (r' : Int) + sN ≤ q' := by omega
      have b2 : (q' : Int) ≤ 4096 := by omega
      clear R1 hr1 hk hd
      by_cases hin : line.length < q' - r'
      · obtain ⟨t, ht⟩ : ∃ t : Nat, t = r' + sN := ⟨_, rfl⟩
        have hsum : (r' : Int) + sN = t := by omega
        have hsum2 : IntKind.i64.wrap ((r' : Int) + sN) = t := by rw [hsum]; exact IntWalk.i64_in _ (by omega)
        have t1 : (t : Int) ≤ q' := by omega
        have t2 : (0 : Int) ≤ (t : Int) := by omega
        have hL : ((data'.drop t).take (q' - t)).length = q' - t := by have := HD.out; simp; omega
        obtain ⟨m, hm⟩ : ∃ m : Nat, m + sN = line.length := ⟨line.length - sN, by omega⟩
        have hix : Lib.indexByte ((data'.drop t).take (q' - t)) 10 = (m : Int) := by
          rw [rest_part (s := s') HD.out hrq hq t (by omega) (by omega), HY.out, List.take_append, List.take_of_length_le (by omega), List.drop_append_of_le_length (by omega), show q' - r' - line.length = (q' - r' - line.length - 1) + 1 by omega, List.take_succ_cons,
            ixb_some (fun h => hn (List.mem_of_mem_drop h))]
          simp; omega
        have HI := Lib.hid hix
        have HL := Lib.hid hL
        have HT := Lib.hid ht
        clear hix hL ht
        go_wp2
        go_quiet ((go_at_call 98; exact Calls.quiet_of_same (indexByte_n g _ _ _ _ HL.out _ HI.out _ (HR.out.bytes.cut t (q' - t) (by rw [HD.out]; exact Nat.le_refl _)))))
        clear hsum hsum2
        obtain ⟨e, he⟩ : ∃ e : Nat, e = r' + line.length := ⟨_, rfl⟩
        have hs3 : (m : Int) + sN = line.length := by omega
        have hs4 : (r' : Int) + line.length = e := by omega
        have hs5 : IntKind.i64.wrap ((r' : Int) + line.length) = e := by rw [hs4]; exact IntWalk.i64_in _ (by omega)
        have hs6 : IntKind.i64.wrap ((e : Int) + 1) = (e : Int) + 1 := IntWalk.i64_in _ (by omega)
        have t3 : (e : Int) + 1 ≤ 4096 := by omega
        have t4 : (r' : Int) ≤ (e : Int) + 1 := by omega
        have t5 : (0 : Int) ≤ (e : Int) + 1 := by omega
        have hs7 : (r' : Int) + (line.length + 1) = (e : Int) + 1 := by omega
        have HM := Lib.hid hm
        have HEE := Lib.hid he
        clear hm he
        have fz := HR.out.B.frozen
        go_wp2
        go_quiet (fail)
        go_wp2
        go_meet
        have he := HEE.out
        have hsl : e + 1 - r' = line.length + 1 := by omega
        have hrest : rest s' r' q' data' = (data'.drop r').take (line.length + 1) ++ rest s' (r' + (line.length + 1)) q' data' := by
          unfold rest
          rw [← List.append_assoc]
          congr 1
          rw [show q' - r' = (line.length + 1) + (q' - (r' + (line.length + 1))) by omega, List.take_add, List.drop_drop]
        have hpart : (data'.drop r').take (line.length + 1) = line ++ [10] ∧ rest s' (r' + (line.length + 1)) q' data' = c := by
          have h1 := hrest.symm.trans HY.out
          rw [show line ++ 10 :: c = (line ++ [10]) ++ c by simp] at h1
          have hl2 : ((data'.drop r').take (line.length + 1)).length = (line ++ [10]).length := by have := HD.out; simp; omega
          exact List.append_inj h1 hl2
        refine ⟨cutAt 0 r' 4096 1, 4096 - r', r' + (line.length + 1), q', s', err', lb', lr', data', by rw [hsl], rfl, by omega, HR.out.to (by repeat (first | assumption | exact Keeps.refl _ _ | apply Keeps.drewN | apply Keeps.drew | apply Keeps.alloc | (refine Keeps.setCell ?_ (.inl (by simp [In])) _))) (by omega) hq ((HR.out.B.set 2 _).to (by simp [brc]; omega)), hpart.2, ?_, K1.trans' (Keeps.x1 (by repeat (first | assumption | exact Keeps.refl _ _ | apply Keeps.drewN | apply Keeps.drew | apply Keeps.alloc | (refine Keeps.setCell ?_ (.inl (by simp [In])) _))))⟩
        have h3 := (HR.out.bytes.cut r' (line.length + 1) (cap := 4096) (by rw [HD.out]; exact Nat.le_refl _))
        rw [hpart.1] at h3
        exact h3.keep (S := In [b]) (by repeat (first | assumption | exact Keeps.refl _ _ | apply Keeps.drewN | apply Keeps.drew | apply Keeps.alloc | (refine Keeps.setCell ?_ (.inl (by simp [In])) _))) (by have := HR.out.bg; simp [In]; omega)
      · obtain ⟨t, ht⟩ : ∃ t : Nat, t = r' + sN := ⟨_, rfl⟩
        have hsum : (r' : Int) + sN = t := by omega
        have hsum2 : IntKind.i64.wrap ((r' : Int) + sN) = t := by rw [hsum]; exact IntWalk.i64_in _ (by omega)
        have t1 : (t : Int) ≤ q' := by omega
        have t2 : (0 : Int) ≤ (t : Int) := by omega
        have hL : ((data'.drop t).take (q' - t)).length = q' - t := by have := HD.out; simp; omega
        have hix : Lib.indexByte ((data'.drop t).take (q' - t)) 10 = -1 := by
          rw [rest_part (s := s') HD.out hrq hq t (by omega) (by omega), HY.out, List.take_append_of_le_length (by omega)]
          exact ixb_none (fun h => hn (List.mem_of_mem_take (List.mem_of_mem_drop h)))
        have hne : s' ≠ [] := by
          rintro rfl
          have h1 := rest_len HR.out
          rw [HY.out] at h1
          simp at h1
          omega
        have herr := HR.out.err_nil hne
        subst herr
        have HI := Lib.hid hix
        have HL := Lib.hid hL
        have HT := Lib.hid ht
        clear hix hL ht
        go_wp2
        go_quiet ((go_at_call 98; exact Calls.quiet_of_same (indexByte_n g _ _ _ _ HL.out _ HI.out _ (HR.out.bytes.cut t (q' - t) (by rw [HD.out]; exact Nat.le_refl _)))))
        clear hsum hsum2 t1 t2 b1
        have d1 : decide ((4096 : Int) ≤ (q' : Int) - r') = false := decide_eq_false (by omega)
        have d2 : (0 : Int) ≤ (q' : Int) - r' := by omega
        go_wp2
        go_quiet ((go_at_call 83; exact q_add (Go.Proofs.YtjbbapodcngnaaaGreatDoor.buffered b _ r' q' _ (HR.out.B.drewN _) rfl rfl hrq hq)))
        go_wp2
        go_quiet (fail)
        go_wp2_with (fail)
        refine (fill_rd b g r' q' X s' lb' lr' data' _ (HR.out.drewN _) (by omega) (HE.out.keep3 (K1.drewN _))).mono ?_
        rintro e W2 ⟨rfl, data2, n, err2, R2, hn2, hn3, -, hr2, -, K2⟩
        have hn2 := hn2 hne
        have K2 := K2.drewN_left
        clear h0 h2 h3 h4 h5 h6 fz
        go_wp2
        go_roundg (s'.drop n).length
        case measure => have := HK.out; rw [List.length_drop]; omega
        case rel => exact ⟨rfl, rfl, 0, _, q' - r', _, err2, lb', lr', data2, by congr 1; omega, rfl, by omega, by omega, R2, hr2.trans HY.out, K1.trans' K2⟩
  case rest =>
    obtain ⟨o, cap, r', q', s', err', lb', lr', data', rfl, rfl, hcap, R1, hr1, hby, K1⟩ := hcut
    have fz := R1.B.frozen
    have hx := hby.cell (i := line.length) (by simp)
    have hlen : (line ++ [10]).length = line.length + 1 := by simp
    have e5 := (R1.B.cell 5).trans (show (brc g X r' q' err' lb' lr')[5]? = some (.int .i64 lb') from rfl)
    have e6 := (R1.B.cell 6).trans (show (brc g X r' q' err' lb' lr')[6]? = some (.int .i64 lr') from rfl)
    have hbg := R1.bg
    unfold byt at hx
    simp only [List.getElem_append_right (Nat.le_refl _), Nat.sub_self, List.getElem_cons_zero] at hx
    have HR := Lib.hid R1
    have HY := Lib.hid hr1
    have HB := Lib.hid hby
    have HL := Lib.hid hlen
    clear R1 hr1 hby hlen
    go_wp2
    go_ret2
    refine ⟨o, cap, by rw [HL.out]; rfl, by rw [HL.out]; exact hcap, HB.out.keep (S := In [b]) (by repeat (first | assumption | exact Keeps.refl _ _ | apply Keeps.drewN | apply Keeps.drew | apply Keeps.alloc | (refine Keeps.setCell ?_ (.inl (by simp [In])) _))) (by simp [In]; omega), ⟨r', q', s', err', 10, -1, data', HR.out.to (by repeat (first | assumption | exact Keeps.refl _ _ | apply Keeps.drewN | apply Keeps.drew | apply Keeps.alloc | (refine Keeps.setCell ?_ (.inl (by simp [In])) _))) HR.out.hrq HR.out.hq (((HR.out.B.set 5 _).set 6 _).to rfl), HY.out⟩, K1.trans' (Keeps.x1 (by repeat (first | assumption | exact Keeps.refl _ _ | apply Keeps.drewN | apply Keeps.drew | apply Keeps.alloc | (refine Keeps.setCell ?_ (.inl (by simp [In])) _))))⟩

set_option maxRecDepth 100000 in
set_option maxHeartbeats 2000000 in
theorem readSlice_eof (b g : Nat) (X : Src) (w : World) (c : List UInt8) (h : Rd w b g X c) (hl : c.length < 4096) (hn : (10 : UInt8) ∉ c) {N : Nat} (E : Env N b g X w) :
    Calls Tryz.prog 123 #[.pointer (some ⟨b, 0, none⟩), .int .u8 10] w (SlicePost b g X c (.iface 203 (.pointer (some X.ea))) [] w) := by
  obtain ⟨r, q, s, err, lb, lr, data, h, hc⟩ := h
  have H := Lib.hid h
  have HE := Lib.hid E
  have HC := Lib.hid hc
  clear h hc E
  go_enter Tryz.func123, Tryz.ntmps123
  go_upto_block 0 with (fail)
  go_cut [4, 5] (fun s4 s5 wx => ∃ (o cap r' q' : Nat) (s' : List UInt8) (err' : Value) (lb' lr' : Int) (data' : List UInt8), s4 = .slice (some ⟨g, o, none⟩) c.length cap ∧ s5 = (.iface 203 (.pointer (some X.ea))) ∧ c.length ≤ cap ∧
    RdD wx b g X r' q' s' err' lb' lr' data' ∧ rest s' r' q' data' = [] ∧ BytesAt wx g o c ∧ Keeps (InX b g X) w wx)
  case first =>
    go_wp2
    go_loopg [4, 5, 6] (s.length + 1) (fun k s4 s5 s6 wx => s4 = .slice none 0 0 ∧ s5 = .nilIface ∧ ∃ (r' q' sN : Nat) (s' : List UInt8) (err' : Value) (lb' lr' : Int) (data' : List UInt8), s6 = .int .i64 sN ∧ (err' = .nilIface ∧ k = s'.length + 1 ∨ err' = (.iface 203 (.pointer (some X.ea))) ∧ s' = []) ∧ sN ≤ q' - r' ∧
      RdD wx b g X r' q' s' err' lb' lr' data' ∧ rest s' r' q' data' = c ∧ Keeps (InX b g X) w wx)
    case atStart => exact ⟨rfl, rfl, r, q, 0, s, err, lb, lr, data, rfl, by rcases H.out.he with h | ⟨h, h2⟩; exact .inl ⟨h, rfl⟩; exact .inr ⟨h, h2⟩, Nat.zero_le _, H.out, HC.out, Keeps.refl _ _⟩
    case round =>
      obtain ⟨rfl, rfl, r', q', sN, s', err', lb', lr', data', rfl, hk, hs1, R1, hr1, K1⟩ := hrel
      obtain ⟨h0, h2, h3, h4, h5, h6⟩ := R1.cells
      have fz := R1.B.frozen
      have hq := R1.hq
      have hrq := R1.hrq
      have hd := R1.hd
      have HR := Lib.hid R1
      have HK := Lib.hid hk
      have HY := Lib.hid hr1
      have HD := Lib.hid hd
      have b1 : (r' : Int) + sN ≤ q' := by omega
      have b2 : (q' : Int) ≤ 4096 := by omega
      have hlen : q' - r' ≤ c.length := by rw [← hr1]; unfold rest; simp; omega
      clear R1 hr1 hk hd
      obtain ⟨t, ht⟩ : ∃ t : Nat, t = r' + sN := ⟨_, rfl⟩
      have hsum : (r' : Int) + sN = t := by omega
      have hsum2 : IntKind.i64.wrap ((r' : Int) + sN) = t := by rw [hsum]; exact IntWalk.i64_in _ (by omega)
      have t1 : (t : Int) ≤ q' := by omega
      have t2 : (0 : Int) ≤ (t : Int) := by omega
      have hL : ((data'.drop t).take (q' - t)).length = q' - t := by have := HD.out; simp; omega
      have hix : Lib.indexByte ((data'.drop t).take (q' - t)) 10 = -1 := by
        rw [rest_part (s := s') HD.out hrq hq t (by omega) (by omega), HY.out]
        exact ixb_none (fun h => hn (List.mem_of_mem_take (List.mem_of_mem_drop h)))
      have HI := Lib.hid hix
      have HL := Lib.hid hL
      have HT := Lib.hid ht
      clear hix hL ht
      go_wp2
      go_quiet ((go_at_call 98; exact Calls.quiet_of_same (indexByte_n g _ _ _ _ HL.out _ HI.out _ (HR.out.bytes.cut t (q' - t) (by rw [HD.out]; exact Nat.le_refl _)))))
      clear hsum hsum2 t1 t2 b1
      rcases HK.out with ⟨rfl, hk⟩ | ⟨rfl, hi⟩
      · have HK2 := Lib.hid hk
        have d1 : decide ((4096 : Int) ≤ (q' : Int) - r') = false := decide_eq_false (by omega)
        have d2 : (0 : Int) ≤ (q' : Int) - r' := by omega
        clear hk
        go_wp2
        go_quiet ((go_at_call 83; exact q_add (Go.Proofs.YtjbbapodcngnaaaGreatDoor.buffered b _ r' q' _ (HR.out.B.drewN _) rfl rfl hrq hq)))
        go_wp2
        go_quiet (fail)
        go_wp2_with (fail)
        refine (fill_rd b g r' q' X s' lb' lr' data' _ (HR.out.drewN _) (by omega) (HE.out.keep3 (K1.drewN _))).mono ?_
        rintro e W2 ⟨rfl, data2, n, err2, R2, hn2, hn3, hn4, hr2, -, K2⟩
        have K2 := K2.drewN_left
        clear h0 h2 h3 h4 h5 h6 fz
        have HN2 := Lib.hid hn2
        have HN4 := Lib.hid hn4
        have hee := R2.he
        have HEE := Lib.hid hee
        clear hn2 hn4 hee
        go_wp2
        by_cases hi : s' = []
        · obtain ⟨hn5, hn6⟩ := HN4.out hi
          go_roundg 0
          case measure => have := HK2.out; omega
          case rel => exact ⟨rfl, rfl, 0, _, q' - r', _, err2, lb', lr', data2, by congr 1; omega, .inr ⟨hn6, by rw [hi, List.drop_nil]⟩, by omega, R2, hr2.trans HY.out, K1.trans' K2⟩
        · have hn5 := HN2.out hi
          go_roundg ((s'.drop n).length + 1)
          case measure => have := HK2.out; rw [List.length_drop]; omega
          case rel => exact ⟨rfl, rfl, 0, _, q' - r', _, err2, lb', lr', data2, by congr 1; omega, (by rcases HEE.out with h | ⟨h, h2⟩; exact .inl ⟨h, rfl⟩; exact .inr ⟨h, h2⟩), by omega, R2, hr2.trans HY.out, K1.trans' K2⟩
      · have hq1 : (r' : Int) ≤ (q' : Int) := by omega
        go_wp2
        go_quiet (fail)
        go_wp2_with (fail)
        refine (readErr_any b _ _ _ ((HR.out.B.drewN _).set 2 _) rfl).mono ?_
        rintro e W2 ⟨rfl, rfl⟩
        go_wp2
        go_meet
        have hrd : (data'.drop r').take (q' - r') = c := by
          rw [← rest_end (s := s') hi]; exact HY.out
        have hlc : q' - r' = c.length := by rw [← hrd]; have := HD.out; simp; omega
        have h3 := (HR.out.bytes.cut r' (q' - r') (cap := 4096) (by rw [HD.out]; exact Nat.le_refl _))
        rw [hrd] at h3
        refine ⟨cutAt 0 r' 4096 1, 4096 - r', q', q', s', _, lb', lr', data', by rw [hlc], rfl, by omega, HR.out.clear (by repeat (first | assumption | exact Keeps.refl _ _ | apply Keeps.drewN | apply Keeps.drew | apply Keeps.alloc | (refine Keeps.setCell ?_ (.inl (by simp [In])) _))) (Nat.le_refl _) hq ((((HR.out.B.drewN _).set 2 _).set 4 _).to (by simp [brc])), ?_, h3.keep (S := In [b]) (by repeat (first | assumption | exact Keeps.refl _ _ | apply Keeps.drewN | apply Keeps.drew | apply Keeps.alloc | (refine Keeps.setCell ?_ (.inl (by simp [In])) _))) (by have := HR.out.bg; simp [In]; omega), K1.trans' (Keeps.x1 (by repeat (first | assumption | exact Keeps.refl _ _ | apply Keeps.drewN | apply Keeps.drew | apply Keeps.alloc | (refine Keeps.setCell ?_ (.inl (by simp [In])) _))))⟩
        rw [rest_end hi]; simp
  case rest =>
    obtain ⟨o, cap, r', q', s', err', lb', lr', data', rfl, rfl, hcap, R1, hr1, hby, K1⟩ := hcut
    have fz := R1.B.frozen
    have e5 := (R1.B.cell 5).trans (show (brc g X r' q' err' lb' lr')[5]? = some (.int .i64 lb') from rfl)
    have e6 := (R1.B.cell 6).trans (show (brc g X r' q' err' lb' lr')[6]? = some (.int .i64 lr') from rfl)
    have hbg := R1.bg
    have HR := Lib.hid R1
    have HY := Lib.hid hr1
    have HB := Lib.hid hby
    clear hr1 hby
    rcases nil_or_snoc c with rfl | ⟨c0, x, rfl⟩
    · go_wp2
      go_ret2
      exact ⟨o, cap, rfl, hcap, HB.out, ⟨r', q', s', err', lb', lr', data', HR.out, HY.out⟩, K1⟩
    · have hx := HB.out.cell (i := c0.length) (by simp)
      have hlen : (c0 ++ [x]).length = c0.length + 1 := by simp
      have hx1 : (c0 ++ [x])[c0.length]'(by simp) = x := by simp
      rw [hx1] at hx
      unfold byt at hx
      clear hx1
      have HL := Lib.hid hlen
      have hw := w64_u8 x
      clear hlen
      rw [HL.out] at hcap hl ⊢
      clear R1
      go_wp2
      go_ret2
      refine ⟨o, cap, by rw [HL.out]; rfl, by rw [HL.out]; exact hcap, HB.out.keep (S := In [b]) (by repeat (first | assumption | exact Keeps.refl _ _ | apply Keeps.drewN | apply Keeps.drew | apply Keeps.alloc | (refine Keeps.setCell ?_ (.inl (by simp [In])) _))) (by simp [In]; omega), ⟨r', q', s', err', x.toNat, -1, data', HR.out.to (by repeat (first | assumption | exact Keeps.refl _ _ | apply Keeps.drewN | apply Keeps.drew | apply Keeps.alloc | (refine Keeps.setCell ?_ (.inl (by simp [In])) _))) HR.out.hrq HR.out.hq (((HR.out.B.set 5 _).set 6 _).to rfl), HY.out⟩, K1.trans' (Keeps.x1 (by repeat (first | assumption | exact Keeps.refl _ _ | apply Keeps.drewN | apply Keeps.drew | apply Keeps.alloc | (refine Keeps.setCell ?_ (.inl (by simp [In])) _))))⟩
end Go.Proofs.YtjbbapodcngnaaaGreatDoor.G
namespace Go.Proofs.YtjbbapodcngnaaaGreatDoor.G
open Go.RowKit Hdr

/-- What ReadLine leaves. -/
def LinePost (b g : Nat) (X : Src) (l : List UInt8) (c : List UInt8) (w : World) (e : Ending) (w' : World) : Prop :=
  ∃ o cap : Nat, e = .returned (.tuple #[.slice (some ⟨g, o, none⟩) l.length cap, .bool false, .nilIface]) ∧ l.length ≤ cap ∧ BytesAt w' g o l ∧ Rd w' b g X c ∧ Keeps (InX b g X) w w'

set_option maxRecDepth 100000 in
set_option maxHeartbeats 1000000 in
theorem readLine_found (b g : Nat) (X : Src) (w : World) (line c : List UInt8) (h : Rd w b g X (line ++ 10 :: c)) (hl : line.length + 1 ≤ 4096) (hn : (10 : UInt8) ∉ line) {N : Nat} (E : Env N b g X w) :
    Calls Tryz.prog 141 #[.pointer (some ⟨b, 0, none⟩)] w (LinePost b g X (chomp line) c w) := by
  have H := readSlice_found b g X w line c h hl hn E
  have HE := Lib.hid E
  clear h E
  go_enter Tryz.func141, Tryz.ntmps141
  go_wp2_with (fail)
  refine H.mono ?_
  rintro e w1 ⟨o, cap, rfl, hcap, hb, R, K⟩
  have e10 : byt 10 = .int .u8 10 := rfl
  obtain ⟨fa, hfull, -⟩ := (HE.out.keep3 K).laid.full
  have hq := fun (w : World) (v : Value) => run_eql_iface_nil_left (P := Tryz.prog) w 203 v Tryz.underlying93
  have HB := Lib.hid hb
  have HR := Lib.hid R
  clear R
  rcases nil_or_snoc line with rfl | ⟨l0, x, rfl⟩
  · have hlast := hb.cell (i := 0) (by simp)
    simp only [List.nil_append, List.getElem_cons_zero, Nat.add_zero, e10] at hlast
    clear hb
    go_wp2
    go_ret3
    exact ⟨o, cap, rfl, Nat.zero_le _, HB.out.nil o, HR.out, K⟩
  · have hlast := hb.cell (i := l0.length + 1) (by simp)
    have hlast2 := hb.cell (i := l0.length) (by simp)
    have x1 : (l0 ++ [x] ++ [10])[l0.length + 1]'(by simp) = (10 : UInt8) := by simp
    have x2 : (l0 ++ [x] ++ [10])[l0.length]'(by simp) = x := by simp
    have hlen : (l0 ++ [x] ++ [10]).length = l0.length + 2 := by simp
    rw [x1, e10] at hlast
    rw [x2] at hlast2
    rw [hlen] at hcap ⊢
    unfold byt at hlast2
    have HL := Lib.hid hlen
    have c1 : (l0.length : Int) + 2 ≤ cap := by omega
    have hln : l0.length + 2 ≤ 4096 := by simp at hl; omega
    have c2 : (l0.length : Int) + 1 ≤ cap := by omega
    have c3 : (l0.length : Int) ≤ cap := by omega
    clear hb hlen x1 x2 e10 hl hn
    by_cases hx : x = 13
    · subst hx
      have e13 : ((UInt8.toNat 13 : Nat) : Int) = 13 := rfl
      rw [e13] at hlast2
      clear e13
      go_wp2
      go_ret3
      have h2 : chomp (l0 ++ [13]) = l0 := by simp [chomp]
      rw [h2]
      refine ⟨o, cap, rfl, by omega, ?_, HR.out, K⟩
      have h3 := HB.out.sub 0 l0.length
      rw [List.drop_zero, List.append_assoc, List.take_left' rfl] at h3
      exact h3
    · have hx' : x.toNat ≠ 13 := fun e => hx (UInt8.toNat.inj e)
      have e1 : ((x.toNat : Int) == 13) = false := by simp; omega
      go_wp2
      go_ret3
      have h2 : chomp (l0 ++ [x]) = l0 ++ [x] := by simp [chomp, hx]
      rw [h2]
      refine ⟨o, cap, by simp, by simp; omega, ?_, HR.out, K⟩
      have h3 := HB.out.sub 0 (l0 ++ [x]).length
      rw [List.drop_zero, List.take_left' rfl] at h3
      exact h3

/-- ReadLine at the end. -/
def LineEnd (b g : Nat) (X : Src) (w : World) (e : Ending) (w' : World) : Prop :=
  e = .returned (.tuple #[.slice none 0 0, .bool false, (.iface 203 (.pointer (some X.ea)))]) ∧ Rd w' b g X [] ∧ Keeps (InX b g X) w w'

set_option maxRecDepth 100000 in
set_option maxHeartbeats 1000000 in
theorem readLine_end (b g : Nat) (X : Src) (w : World) (h : Rd w b g X []) {N : Nat} (E : Env N b g X w) :
    Calls Tryz.prog 141 #[.pointer (some ⟨b, 0, none⟩)] w (LineEnd b g X w) := by
  have H := readSlice_eof b g X w [] h (by simp) (by simp) E
  have HE := Lib.hid E
  clear h E
  go_enter Tryz.func141, Tryz.ntmps141
  go_wp2_with (fail)
  refine H.mono ?_
  rintro e w1 ⟨o, cap, rfl, hcap, hb, R, K⟩
  have L1 := (HE.out.keep3 K).laid
  obtain ⟨ca, ta, hc1⟩ := L1.ec
  obtain ⟨fa, hfull, -, ⟨cb, tb, hc2⟩, hne⟩ := L1.full
  have hq := eql_err hne hc1 hc2
  have HR := Lib.hid R
  clear R hb L1 hc1 hc2 hne hcap H
  go_wp2
  go_ret3
  exact ⟨rfl, HR.out, K⟩

set_option maxRecDepth 100000 in
set_option maxHeartbeats 1000000 in
theorem readLine_last (b g : Nat) (X : Src) (w : World) (c : List UInt8) (h : Rd w b g X c) (hl : c.length < 4096) (hn : (10 : UInt8) ∉ c) (hc : c ≠ []) {N : Nat} (E : Env N b g X w) :
    Calls Tryz.prog 141 #[.pointer (some ⟨b, 0, none⟩)] w (LinePost b g X c [] w) := by
  have H := readSlice_eof b g X w c h hl hn E
  have HE := Lib.hid E
  clear h E
  go_enter Tryz.func141, Tryz.ntmps141
  go_wp2_with (fail)
  refine H.mono ?_
  rintro e w1 ⟨o, cap, rfl, hcap, hb, R, K⟩
  have L1 := (HE.out.keep3 K).laid
  obtain ⟨ca, ta, hc1⟩ := L1.ec
  obtain ⟨fa, hfull, -, ⟨cb, tb, hc2⟩, hne⟩ := L1.full
  have hq := eql_err hne hc1 hc2
  have HR := Lib.hid R
  have HB := Lib.hid hb
  clear R L1 hc1 hc2 hne H
  rcases nil_or_snoc c with rfl | ⟨c0, x, rfl⟩
  · exact absurd rfl hc
  · have hlast := hb.cell (i := c0.length) (by simp)
    have x1 : (c0 ++ [x])[c0.length]'(by simp) = x := by simp
    have hlen : (c0 ++ [x]).length = c0.length + 1 := by simp
    rw [x1] at hlast
    have hx : x.toNat ≠ 10 := fun e => hn (by rw [show x = 10 from UInt8.toNat.inj e]; simp)
    have e1 : ((x.toNat : Int) == 10) = false := by simp; omega
    rw [hlen] at hcap ⊢
    unfold byt at hlast
    have HL := Lib.hid hlen
    have c1 : (c0.length : Int) + 1 ≤ cap := by omega
    have hln : c0.length + 1 ≤ 4096 := by simp at hl; omega
    clear hb hlen x1 hl hn hc
    go_wp2
    go_ret3
    exact ⟨o, cap, by rw [HL.out]; rfl, by rw [HL.out]; exact hcap, HB.out, HR.out, K⟩

/-- ReadLine, where something is left: the first line. -/
theorem readLine_some (b g : Nat) (X : Src) (w : World) (c : List UInt8) (h : Rd w b g X c) (hc : c ≠ []) (hs : Short c) {N : Nat} (E : Env N b g X w) :
    Calls Tryz.prog 141 #[.pointer (some ⟨b, 0, none⟩)] w (LinePost b g X (line1 c).1 (line1 c).2 w) := by
  have h1 := hs.self
  have h2 := upto_no c
  cases hb : behind c with
  | nil =>
    have h3 := split c
    rw [hb, List.append_nil] at h3
    rw [line1_end hb]
    rw [← h3] at h1 h2
    exact readLine_last b g X w c h (by omega) h2 hc E
  | cons x r =>
    rw [line1_nl hb]
    have h3 := split c
    have hx := behind_head hb
    subst hx
    rw [hb] at h3
    rw [h3] at h
    exact readLine_found b g X w (upto c) r h (by omega) h2 E
end Go.Proofs.YtjbbapodcngnaaaGreatDoor.G
namespace Go.Proofs.YtjbbapodcngnaaaGreatDoor.G
open Go.RowKit Hdr

/-- The blocks of a reader, and all from base on. -/
def UpX (base b g : Nat) (X : Src) : Nat → Prop := fun k => InX b g X k ∨ base ≤ k

theorem Keeps.upx {base b g : Nat} {X : Src} {w w' : World} (h : Keeps (InX b g X) w w') : Keeps (UpX base b g X) w w' := h.mono (fun _ _ h => .inl h)
theorem Keeps.upx_one {base b g : Nat} {X : Src} {w w' : World} {k : Nat} (h : Keeps (In [k]) w w') (hg : base ≤ k) : Keeps (UpX base b g X) w w' :=
  h.mono (fun _ _ h => .inr (by simp only [In, List.mem_cons, List.not_mem_nil, or_false] at h; omega))
/-- What was made since counts for nothing. -/
theorem Keeps.downx {base b g : Nat} {X : Src} {w w' : World} (h : Keeps (UpX base b g X) w w') (hb : w.heap.size ≤ base) : Keeps (InX b g X) w w' := h.mono (fun i hi h => by
  rcases h with h | h
  · exact h
  · omega)
theorem Rd.keep1 {w w' : World} {base b g k : Nat} {X : Src} {c : List UInt8} (h : Rd w b g X c) (K : Keeps (In [k]) w w') (hX : ∀ x, InX b g X x → x < base) (hk : base ≤ k) : Rd w' b g X c :=
  h.keep K (fun x hx hi => by have := hX x hx; simp only [In, List.mem_cons, List.not_mem_nil, or_false] at hi; omega)
theorem OwnS.keepx {w w' : World} {base b g k cap : Nat} {X : Src} {l : List UInt8} (h : OwnS w base k cap l) (K : Keeps (InX b g X) w w') (hX : ∀ x, InX b g X x → x < base) : OwnS w' base k cap l :=
  h.keep K (fun hi => by have := hX k hi; have := h.ge; omega)

/-- What readLineSlice leaves: l in a slice of ours. -/
def RlsPost (base b g : Nat) (X : Src) (l c : List UInt8) (err : Value) (w : World) (e : Ending) (w' : World) : Prop :=
  ∃ h cap : Nat, e = .returned (.tuple #[.slice (some ⟨h, 0, none⟩) l.length cap, err]) ∧ OwnS w' base h cap l ∧ Rd w' b g X c ∧ Keeps (UpX base b g X) w w'

set_option maxRecDepth 100000 in
set_option maxHeartbeats 1000000 in
theorem readLineSlice_some (base b g : Nat) (X : Src) (w : World) (c : List UInt8) (h : Rd w b g X c) (hc : c ≠ []) (hs : Short c) {N : Nat} (E : Env N b g X w)
    (k cap n : Nat) (l : List UInt8) (hn : n = l.length) (ho : OwnS w base k cap l) (hX : ∀ x, InX b g X x → x < base) (hbase : base ≤ w.heap.size) (hl : l.length ≤ 35184372088832) :
    Calls Tryz.prog 104 #[.pointer (some ⟨b, 0, none⟩), .slice (some ⟨k, 0, none⟩) n cap] w (RlsPost base b g X (l ++ (line1 c).1) (line1 c).2 .nilIface w) := by
  have H := readLine_some b g X w c h hc hs E
  have hkk := ho.ge
  have HO := Lib.hid ho
  have HN := Lib.hid hn
  have hll : (line1 c).1.length < 4096 := by
    have h1 := hs.self
    unfold line1
    cases hb : behind c with
    | nil => simp only []; omega
    | cons x r =>
      simp only [chomp]
      split
      · simp; omega
      · omega
  clear h hs hc ho E hn
  go_enter Tryz.func104, Tryz.ntmps104
  go_wp2
  refine wp_loop_rounds 1 ?_
  rw [rounds_succ]
  go_wp2_with (fail)
  refine H.mono ?_
  rintro e w1 ⟨o, cap1, rfl, hcap, hby, R, K⟩
  have O1 := OwnS.keepx HO.out K hX
  have HB := Lib.hid hby
  have hn2 : n ≤ 35184372088832 := by have := HN.out; omega
  clear hby H
  generalize hL : (line1 c).1 = L at *
  generalize hM : (line1 c).2 = M at *
  clear hL hM
  go_wp2_with (at_builtin; refine wpList_append_b rfl (.tmp 15) (.tmp 16) rfl base k cap n l rfl HN.out O1 ⟨g, o, none⟩ L.length cap1 L rfl rfl HB.out.cells (by omega) (by have := K.size; omega) ?_; intro k2 cap2 W O2 K2)
  have K3 : Keeps (UpX base b g X) w W := (Keeps.upx K).trans' (Keeps.upx_one K2 hkk)
  have R2 := R.keep1 K2 hX hkk
  have hlen : n + L.length = (l ++ L).length := by have := HN.out; simp; omega
  have HL := Lib.hid hlen
  clear hlen R
  go_wp2
  go_ret2
  exact ⟨k2, cap2, by rw [← HL.out]; rfl, O2, R2, K3⟩

set_option maxRecDepth 100000 in
set_option maxHeartbeats 1000000 in
theorem readLineSlice_end (base b g : Nat) (X : Src) (w : World) (h : Rd w b g X []) {N : Nat} (E : Env N b g X w)
    (k cap n : Nat) (l : List UInt8) (hn : n = l.length) (ho : OwnS w base k cap l) (hX : ∀ x, InX b g X x → x < base) :
    Calls Tryz.prog 104 #[.pointer (some ⟨b, 0, none⟩), .slice (some ⟨k, 0, none⟩) n cap] w (RlsPost base b g X l [] (.iface 203 (.pointer (some X.ea))) w) := by
  have H := readLine_end b g X w h E
  have hkk := ho.ge
  have HO := Lib.hid ho
  have HN := Lib.hid hn
  clear h ho E hn
  go_enter Tryz.func104, Tryz.ntmps104
  go_wp2
  refine wp_loop_rounds 1 ?_
  rw [rounds_succ]
  go_wp2_with (fail)
  refine H.mono ?_
  rintro e w1 ⟨rfl, R, K⟩
  have O1 := OwnS.keepx HO.out K hX
  clear H
  go_wp2_with (at_builtin; refine wpList_append_b_none rfl (.tmp 15) (.tmp 16) rfl base k cap n l rfl HN.out O1 rfl ?_)
  go_wp2
  go_ret2
  exact ⟨k, cap, by rw [← HN.out]; rfl, O1, R, Keeps.upx K⟩
end Go.Proofs.YtjbbapodcngnaaaGreatDoor.G
namespace Go.Proofs.YtjbbapodcngnaaaGreatDoor.G
open Go.RowKit Hdr

/-- What readContinuedLineSlice leaves. -/
def KvPost (b g : Nat) (X : Src) (l c : List UInt8) (w : World) (e : Ending) (w' : World) : Prop :=
  ∃ k cap : Nat, e = .returned (.tuple #[.slice (some ⟨k, 0, none⟩) l.length cap, .nilIface]) ∧ OwnS w' w.heap.size k cap l ∧ Rd w' b g X c ∧ Keeps (InX b g X) w w'

/-- .. at the end of the bytes. -/
def KvEnd (b g : Nat) (X : Src) (w : World) (e : Ending) (w' : World) : Prop :=
  e = .returned (.tuple #[.slice none 0 0, .nilIface]) ∧ Rd w' b g X [] ∧ Keeps (InX b g X) w w'

theorem Env.up {N b g : Nat} {X : Src} {w w' : World} (h : Env N b g X w) {base : Nat} (k : Keeps (UpX base b g X) w w') (hX : ∀ x, InX b g X x → x < base) : Env N b g X w' :=
  ⟨h.ok, h.hB, h.hG, h.laid.keep k (fun x hx => by
    rcases hx with hx | hx
    · exact h.low hx
    · have := hX b (InX.b _ _ _)
      have := h.hB
      omega)⟩

set_option maxRecDepth 100000 in
set_option maxHeartbeats 1000000 in
theorem kv_end (b g : Nat) (X : Src) (w : World) (h : Rd w b g X []) {N : Nat} (E : Env N b g X w) :
    Calls Tryz.prog 106 #[.pointer (some ⟨b, 0, none⟩)] w (KvEnd b g X w) := by
  have H := Lib.hid h
  have HE := Lib.hid E
  have hX := h.lt
  clear h E
  go_enter Tryz.func106, Tryz.ntmps106
  go_wp2_with (at_make; refine wpList_make_b rfl (.const (.int .i64 0)) (.const (.int .i64 256)) rfl w.heap.size 256 256 rfl rfl (by decide) (by decide) (Nat.le_refl _) ?_; intro W0 O0 K0)
  refine (readLineSlice_end w.heap.size b g X _ (H.out.keep_no K0) (HE.out.keep_no K0) w.heap.size 256 0 [] rfl O0 hX).mono ?_
  rintro e w1 ⟨k, cap, rfl, O1, R1, K1⟩
  have hq := eql_err_same w1 X.ea
  have he := ((HE.out.keep_no K0).up K1 hX).laid
  have h1 := he.eof
  clear he O1
  go_wp2
  go_ret2
  exact ⟨rfl, R1, Keeps.downx ((Keeps.of_no K0).trans' K1) (Nat.le_refl _)⟩

set_option maxRecDepth 100000 in
set_option maxHeartbeats 1000000 in
theorem kv_some (b g : Nat) (X : Src) (w : World) (c : List UInt8) (h : Rd w b g X c) (hc : c ≠ []) (hsh : Short c) (hlen : c.length ≤ 1000000000) {N : Nat} (E : Env N b g X w) :
    Calls Tryz.prog 106 #[.pointer (some ⟨b, 0, none⟩)] w (KvPost b g X (kv c).1 (kv c).2 w) := by
  have H := Lib.hid h
  have HE := Lib.hid E
  have HS := Lib.hid hsh
  have hX := h.lt
  have hll : (line1 c).1.length ≤ 1000000000 := by have := line1_len c; omega
  have hll2 : (line1 c).2.length ≤ 1000000000 := by have := line1_len c; omega
  have hkl := (kv_len c).1
  generalize hkv : kv c = kk at *
  have HK := Lib.hid hkv
  clear h E hsh hkv
  go_enter Tryz.func106, Tryz.ntmps106
  go_wp2_with (at_make; refine wpList_make_b rfl (.const (.int .i64 0)) (.const (.int .i64 256)) rfl w.heap.size 256 256 rfl rfl (by decide) (by decide) (Nat.le_refl _) ?_; intro W0 O0 K0)
  refine (readLineSlice_some w.heap.size b g X _ c (H.out.keep_no K0) hc HS.out (HE.out.keep_no K0) w.heap.size 256 0 [] rfl O0 hX K0.size (by simp)).mono ?_
  rintro e w1 ⟨k, cap, rfl, O1, R1, K1⟩
  have K2 := (Keeps.of_no (T := UpX w.heap.size b g X) K0).trans' K1
  have h1 := (HE.out.up K2 hX).laid.eof
  have hq := fun (w : World) (v : Value) => run_eql_iface_nil_left (P := Tryz.prog) w 203 v Tryz.underlying93
  rw [List.nil_append] at O1 ⊢
  have HS2 := Lib.hid HS.out.line
  clear HS K1
  have hkv : (if (line1 c).1 = [] then ([], (line1 c).2) else ((line1 c).1 ++ [13, 10] ++ (conts (line1 c).2).1, (conts (line1 c).2).2)) = kk := HK.out
  clear HK
  generalize (line1 c).1 = L at *
  generalize (line1 c).2 = M at *
  by_cases hL : L = []
  · subst hL
    rw [if_pos rfl] at hkv
    subst hkv
    go_wp2
    go_ret2
    exact ⟨k, cap, rfl, O1, R1, Keeps.downx K2 (Nat.le_refl _)⟩
  · rw [if_neg hL] at hkv
    have HK := Lib.hid hkv
    clear hkv
    have hL1 : 0 < L.length := List.length_pos_iff.2 hL
    have hL2 : ((L.length : Int) == 0) = false := by simp; omega
    have hL3 : (L.length == 0) = false := by simp; omega
    have HL := Lib.hid hL
    clear hL
    have HO := Lib.hid O1
    clear O1
    go_wp2_with (at_builtin; refine wpList_append_b rfl (.tmp 27) (.tmp 28) rfl w.heap.size k cap L.length L rfl rfl (HO.out.keep ((Keeps.refl No _).alloc _) (fun h => h)) ⟨w1.heap.size, 0, none⟩ 2 2 [13, 10] rfl rfl (BytesAt.of_blk (Blk.new w1 [.int .u8 13, .int .u8 10] 5) (by rfl)).cells (by omega) (by have := K2.size; simp; omega) ?_; intro k2 cap2 W2 O2 K3)
    have K4 : Keeps (UpX w.heap.size b g X) w W2 := ((K2.alloc _).trans' (Keeps.upx_one K3 HO.out.ge))
    have hkk := HO.out.ge
    have R2 := (R1.keep_no ((Keeps.refl No _).alloc _)).keep1 K3 hX hkk
    go_loopg [4, 5] M.length (fun n s4 s5 wr => ∃ (k3 cap3 : Nat) (l c' : List UInt8), s4 = .slice (some ⟨k3, 0, none⟩) l.length cap3 ∧ s5 = .nilIface ∧ OwnS wr w.heap.size k3 cap3 l ∧ Rd wr b g X c' ∧ Short c' ∧ l ++ (conts c').1 = kk.1 ∧ (conts c').2 = kk.2 ∧ n = c'.length ∧
      c'.length ≤ 1000000000 ∧ Keeps (UpX w.heap.size b g X) w wr)
    case atStart => exact ⟨k2, cap2, L ++ [13, 10], M, by simp, rfl, O2, R2, HS2.out, by rw [← HK.out], by rw [← HK.out], rfl, hll2, K4⟩
    case round =>
      obtain ⟨k3, cap3, l, c', rfl, rfl, O3, R3, S3, e1, e2, hn, hc', K5⟩ := hrel
      have HO3 := Lib.hid O3
      have HR3 := Lib.hid R3
      have HS3 := Lib.hid S3
      have HE1 := Lib.hid e1
      have HE2 := Lib.hid e2
      have HN := Lib.hid hn
      have HEnv := Lib.hid (HE.out.up K5 hX)
      clear O3 R3 S3 e1 e2 hn
      go_wp2_with (fail)
      refine (hasCont b g X wr c' HR3.out HEnv.out).mono ?_
      rintro e w3 ⟨rfl, R4, K6⟩
      have O4 := OwnS.keepx HO3.out K6 hX
      have HR4 := Lib.hid R4
      have HO4 := Lib.hid O4
      clear R4 O4
      cases hsp : spHead c' with
      | false =>
        have HSP := Lib.hid hsp
        clear hsp
        go_wp2
        go_ret2
        have h1 := HE1.out
        have h2 := HE2.out
        rw [conts_no HSP.out] at h1 h2
        simp only [List.append_nil] at h1
        subst h1
        simp only [] at h2
        subst h2
        exact ⟨k3, cap3, rfl, HO4.out, HR4.out, Keeps.downx (K5.trans' (Keeps.upx K6)) (Nat.le_refl _)⟩
      | true =>
        have HSP := Lib.hid hsp
        clear hsp
        go_wp2_with (fail)
        have hl3 : l.length ≤ 3000000002 := by
          have h1 := congrArg List.length HE1.out
          simp at h1
          omega
        have hll3 : (line1 c').1.length ≤ 1000000000 := by have := line1_len c'; omega
        have hlt := line1_lt (spHead_ne HSP.out)
        refine (readLineSlice_some w.heap.size b g X _ c' HR4.out (spHead_ne HSP.out) HS3.out (HEnv.out.keep3 K6) k3 cap3 l.length l rfl HO4.out hX (by have := K5.size; have := K6.size; omega) (by omega)).mono ?_
        rintro e w4 ⟨k4, cap4, rfl, O5, R5, K7⟩
        have hC := conts_yes HSP.out
        have HS4 := Lib.hid HS3.out.line
        generalize (line1 c').1 = L' at *
        generalize (line1 c').2 = M' at *
        have HC := Lib.hid hC
        clear hC
        have K8 : Keeps (UpX w.heap.size b g X) w w4 := (K5.trans' (Keeps.upx K6)).trans' K7
        have hk4 := O5.ge
        have HO5 := Lib.hid O5
        clear O5
        go_wp2_with (at_builtin; refine wpList_append_b rfl (.tmp 40) (.tmp 41) rfl w.heap.size k4 cap4 (l.length + L'.length) (l ++ L') rfl (by simp) (HO5.out.keep ((Keeps.refl No _).alloc _) (fun h => h)) ⟨w4.heap.size, 0, none⟩ 2 2 [13, 10] rfl rfl (BytesAt.of_blk (Blk.new w4 [.int .u8 13, .int .u8 10] 5) (by rfl)).cells (by omega) (by have := K8.size; simp; omega) ?_; intro k5 cap5 W5 O6 K9)
        have K10 : Keeps (UpX w.heap.size b g X) w W5 := ((K8.alloc _).trans' (Keeps.upx_one K9 hk4))
        have R6 := (R5.keep_no ((Keeps.refl No _).alloc _)).keep1 K9 hX hk4
        go_roundg M'.length
        case measure => have := HN.out; omega
        case rel =>
          have h1 := HE1.out
          have h2 := HE2.out
          rw [HC.out] at h1 h2
          exact ⟨k5, cap5, l ++ L' ++ [13, 10], M', by simp; omega, rfl, O6, R6, HS4.out, by rw [← h1]; simp, h2, rfl, by omega, K10⟩
end Go.Proofs.YtjbbapodcngnaaaGreatDoor.G
namespace Go.Proofs.YtjbbapodcngnaaaGreatDoor.G
open Go.RowKit Hdr

/-- What ReadHeader leaves. -/
def RhPost (b g : Nat) (X : Src) (r : Option (List PF × List UInt8)) (w : World) (e : Ending) (w' : World) : Prop :=
  Keeps (InX b g X) w w' ∧
  match r with
  | none => ∃ xa xn xc ym ea c, e = .returned (.tuple #[.agg #[.slice xa xn xc, .map ym], .iface 203 (.pointer (some ea))]) ∧ Rd w' b g X c
  | some (ps, c) => ∃ (lb cap : Nat) (m : Option Nat) (fs : List Fd), e = .returned (.tuple #[.agg #[.slice (some ⟨lb, 0, none⟩) fs.length cap, .map m], .nilIface]) ∧ w.heap.size ≤ lb ∧ NB fs cap ∧ POwn w' lb cap (fs.reverse.map (·.blk)) ∧ HMap w' (lb + 1) m fs.reverse ∧
      Fds w' w.heap.size w'.heap.size fs ∧ Tells fs ps ∧ Rd w' b g X c

set_option maxRecDepth 100000 in
set_option maxHeartbeats 1000000 in
/-- readLineSlice, nothing before it. -/
theorem readLineSlice_nil (b g : Nat) (X : Src) (w : World) (c : List UInt8) (h : Rd w b g X c) (hc : c ≠ []) (hs : Short c) {N : Nat} (E : Env N b g X w) :
    Calls Tryz.prog 104 #[.pointer (some ⟨b, 0, none⟩), .slice none 0 0] w fun e w' => (∃ v, e = .returned (.tuple #[v, .nilIface])) ∧ (∃ c', Rd w' b g X c') ∧ Keeps (InX b g X) w w' := by
  have H := readLine_some b g X w c h hc hs E
  have hX := h.lt
  have hll : (line1 c).1.length < 4096 := by
    have h1 := hs.self
    unfold line1
    cases hb : behind c with
    | nil => simp only []; omega
    | cons x r =>
      simp only [chomp]
      split
      · simp; omega
      · omega
  clear h hs hc E
  go_enter Tryz.func104, Tryz.ntmps104
  go_wp2
  refine wp_loop_rounds 1 ?_
  rw [rounds_succ]
  go_wp2_with (fail)
  refine H.mono ?_
  rintro e w1 ⟨o, cap1, rfl, hcap, hby, R, K⟩
  have HB := Lib.hid hby
  clear hby H
  generalize hL : (line1 c).1 = L at *
  generalize hM : (line1 c).2 = M at *
  clear hL hM
  obtain ⟨i0, hi, hz0, hz1, hz2⟩ := info_parts info_u8
  go_wp2_with (at_builtin; refine wpList_append_own _ rfl (.tmp 15) (.tmp 16) 85 rfl w.heap.size 5 i0 (.int .u8 0) 1 1 Tryz.underlying85 hi hz0 hz1 hz2 rfl (by decide) (.slice none 0 0) 0 [] rfl (World.ownsRow_nil _ _ _ _) ⟨g, o, none⟩ L.length cap1 (u8s L) rfl (by simp) HB.out.cells (u8s_one _) (by unfold maxLen; omega) (by omega) K.size ?_; intro v' W hown hgr _)
  have K2 : Keeps No w1 W := (Keeps.refl No w1).grown hgr (fun k hk => by cases hk)
  have R2 := R.keep_no K2
  clear R
  go_wp2
  go_ret2
  exact ⟨⟨_, rfl⟩, ⟨_, R2⟩, K.trans_no K2⟩

/-- readContinuedLineSlice, whatever is left. -/
def KvAny (b g : Nat) (X : Src) (l c : List UInt8) (w : World) (e : Ending) (w' : World) : Prop :=
  ∃ (a : Option Addr) (cap : Nat), e = .returned (.tuple #[.slice a l.length cap, .nilIface]) ∧ Rd w' b g X c ∧ Keeps (InX b g X) w w' ∧ (l ≠ [] → ∃ k : Nat, a = some ⟨k, 0, none⟩ ∧ OwnS w' w.heap.size k cap l)
theorem kv_any (b g : Nat) (X : Src) (w : World) (c : List UInt8) (h : Rd w b g X c) (hsh : Short c) (hlen : c.length ≤ 1000000000) {N : Nat} (E : Env N b g X w) :
    Calls Tryz.prog 106 #[.pointer (some ⟨b, 0, none⟩)] w (KvAny b g X (kv c).1 (kv c).2 w) := by
  by_cases hc : c = []
  · subst hc
    refine (kv_end b g X w h E).mono ?_
    rintro e w' ⟨rfl, R, K⟩
    rw [kv_nil]
    exact ⟨none, 0, rfl, R, K, fun h => absurd rfl h⟩
  · refine (kv_some b g X w c h hc hsh hlen E).mono ?_
    rintro e w' ⟨k, cap, rfl, O, R, K⟩
    exact ⟨_, cap, rfl, R, K, fun _ => ⟨k, rfl, O⟩⟩

theorem rh_bad_post {b g : Nat} {X : Src} {w w7 : World} {xa : Option Addr} {xn xc : Nat} {ym : Option Nat} {eb : Addr} {c : List UInt8} (hR : Rd w7 b g X c) (K : Keeps (UpX w.heap.size b g X) w w7) :
    RhPost b g X none w (.returned (.tuple #[.agg #[.slice xa xn xc, .map ym], .iface 203 (.pointer (some eb))])) w7 :=
  ⟨Keeps.downx K (Nat.le_refl _), xa, xn, xc, ym, eb, c, rfl, hR⟩

/-- The end: what is handed back. -/
theorem rh_end_post {b g : Nat} {X : Src} {w w4 w5 : World} {lb cap : Nat} {m : Option Nat} {fs : List Fd} {ps : List PF} {c : List UInt8} (hX : ∀ x, InX b g X x → x < w.heap.size)
    (hlb : w.heap.size ≤ lb) (hne : w.heap.size ≠ lb) (hcap : NB fs cap) (K : Keeps (UpX w.heap.size b g X) w w4) (hR : Rd w4 b g X c) (hF : Fds w4 w.heap.size w4.heap.size fs) (hT : Tells fs ps) (hty : Typed w4 lb 160)
    (hH : Blk w4 w.heap.size [.slice none 0 0, .map none] 74) (hpo : POwn w5 lb cap (fs.reverse.map (·.blk))) (hm : HMap w5 w4.heap.size m fs.reverse) (k5 : Keeps (In [lb]) w4 w5) (x y : Value) :
    RhPost b g X (some (ps, c)) w (.returned (.tuple #[.agg #[.slice (some ⟨lb, 0, none⟩) fs.length cap, .map m], .nilIface])) ((w5.setCell ⟨w.heap.size, 0, none⟩ x).setCell ⟨w.heap.size, 1, none⟩ y) := by
  have kk : Keeps (In [w.heap.size]) w5 ((w5.setCell ⟨w.heap.size, 0, none⟩ x).setCell ⟨w.heap.size, 1, none⟩ y) := ((Keeps.refl _ w5).setCell (.inl (by simp [In])) _).setCell (.inl (by simp [In])) _
  generalize ((w5.setCell ⟨w.heap.size, 0, none⟩ x).setCell ⟨w.heap.size, 1, none⟩ y) = w6 at *
  have hsz := K.size
  have hsz5 := k5.size
  have hsz6 := kk.size
  have hlt := hH.lt
  have hlb4 : lb < w4.heap.size := by
    obtain ⟨cs, f, h⟩ := hty
    exact (Array.getElem?_eq_some_iff.1 h).1
  have hF6 : Fds w6 w.heap.size w4.heap.size fs := by
    intro f hf
    have h4 := hF f hf
    have h1 := h4.B.typed.ne hty (by decide)
    have h2 := h4.B.typed.ne hH.typed (by decide)
    have h5 : Keeps (fun x => x = lb ∨ x = w.heap.size) w4 w6 := (k5.mono (fun x _ h => by simp [In] at h; exact .inl h)).trans' (kk.mono (fun x _ h => by simp [In] at h; exact .inr h))
    refine ⟨h4.ge, h4.lt, h4.B.keep h5 (fun h => by rcases h with h | h; exact h1 h; exact h2 h), ?_⟩
    have hR := h4.R
    cases hr : f.raw with
    | none => rw [hr] at hR; exact hR
    | some l =>
      rw [hr] at hR
      obtain ⟨rb, ro, cp, e1, e2, e3, e4, e5, e6⟩ := hR
      have n1 := e6.ne hty (by decide)
      have n2 := e6.ne hH.typed (by decide)
      exact ⟨rb, ro, cp, e1, e2, e3, e4, e5.keep h5 (fun h => by rcases h with h | h; exact n1 h; exact n2 h), e6.keep h5 (fun h => by rcases h with h | h; exact n1 h; exact n2 h)⟩
  refine ⟨?_, lb, cap, m, fs, rfl, hlb, hcap, hpo.keep kk (fun h => by simp [In] at h; omega), ?_, hF6.mono (by omega), hT, ?_⟩
  · exact Keeps.downx ((K.trans' (k5.mono (fun x _ h => .inr (by simp [In] at h; omega)))).trans' (kk.mono (fun x _ h => .inr (by simp [In] at h; omega)))) (Nat.le_refl _)
  · rcases hm with ⟨h1, h2⟩ | ⟨mb, gs, h1, h2, h3, h4⟩
    · exact .inl ⟨h1, h2⟩
    · refine .inr ⟨mb, gs, h1, by omega, h3.keep kk (fun h => by simp [In] at h; omega), ?_⟩
      have h5 := h4.keep kk (fun x hx b hb h => by
        have := ((h4.own x hx).lt b hb).1
        simp [In] at h
        omega)
      exact ⟨h5.keys, h5.apart, fun x hx => PS.mono (h5.own x hx) (by omega), h5.some_, h5.of, h5.all⟩
  · exact (hR.keep k5 (fun x hx h => by have := hX x hx; simp [In] at h; omega)).keep kk (fun x hx h => by have := hX x hx; simp [In] at h; omega)

set_option maxRecDepth 100000 in
set_option maxHeartbeats 2000000 in
theorem readHeader_bad (b g : Nat) (X : Src) (w : World) (x : UInt8) (c : List UInt8) (h : Rd w b g X (x :: c)) (hx : sp x = true) (hs : Short (x :: c)) {N : Nat} (E : Env N b g X w) :
    Calls Tryz.prog 81 #[.pointer (some ⟨b, 0, none⟩)] w (RhPost b g X none w) := by
  have H := Lib.hid h
  have HE := Lib.hid E
  have HX := Lib.hid hx
  have HS := Lib.hid hs
  have hX := h.lt
  clear h E hx hs
  go_enter Tryz.func81, Tryz.ntmps81
  go_wp2_with (at_make; refine wpList_make_p rfl (.const (.int .i64 0)) (.const (.int .i64 32)) rfl w.heap.size 32 32 rfl rfl (by decide) (by decide) (by simp) ?_; intro W0 O0 K0)
  rw [show (w.alloc (.cells #[.slice none 0 0, .map none] 74)).heap.size = w.heap.size + 1 by simp] at O0
  have K00 : Keeps No w W0 := ((Keeps.refl No w).alloc _).trans' K0
  have hB0 : Blk W0 w.heap.size [.slice none 0 0, .map none] 74 := (Blk.new w _ _).keep_no K0
  have R0 := H.out.keep_no K00
  have E0 := HE.out.keep_no K00
  refine (peek_some b g X W0 x c R0 E0).mono ?_
  rintro e w1 ⟨o1, cap1, rfl, hc1, R1, K1⟩
  unfold byt at hc1
  have O1 := O0.keep K1 (fun h => by have := hX _ h; omega)
  have hB1 := hB0.keep K1 (fun h => by have := hX _ h; omega)
  have E1 := E0.keep3 K1
  have HO1 := Lib.hid O1
  have HB1 := Lib.hid hB1
  clear O0 O1 hB0 hB1 E0
  go_wp2_with (fail)
  refine (isSpace_any x _).mono ?_
  rintro e w2 ⟨rfl, rfl⟩
  have hx := HX.out
  rw [hx]
  clear hx
  go_wp2_with (fail)
  refine (readLineSlice_nil b g X w2 (x :: c) R1 (by simp) HS.out E1).mono ?_
  rintro e w4 ⟨⟨v4, rfl⟩, ⟨c4, R4⟩, K4⟩
  have K14 : Keeps (UpX w.heap.size b g X) w w4 := (K00.of_no.trans' (Keeps.upx K1)).trans' (Keeps.upx K4)
  have O4 := HO1.out.keep K4 (fun h => by have := hX _ h; omega)
  have HB := Lib.hid (HB1.out.keep K4 (fun h => by have := hX _ h; omega))
  have HO4 := Lib.hid O4
  clear O4 HO1 HB1
  go_wp2_with (fail)
  refine (newHeader_any (w.heap.size + 1) 32 w.heap.size w4.heap.size [] 0 rfl w4 HO4.out.own (fun f hf => by cases hf) (Nat.le_refl _) (by simp)).mono ?_
  rintro e w5 ⟨m5, rfl, hpo5, hm5, k5⟩
  have hB5 := HB.out.keep k5 (fun h => by simp [In] at h)
  have HB5 := Lib.hid hB5
  clear hB5
  go_wp2_with (fail)
  refine (errorsNew_any _ w5).mono ?_
  rintro e w6 ⟨eb, rfl, k6⟩
  have hB6 := HB5.out.keep_no k6
  have fz6 := hB6.frozen
  have c60 : w6.cell? ⟨w.heap.size, 0, none⟩ = some (.slice none 0 0) := hB6.cell 0
  have c61 : w6.cell? ⟨w.heap.size, 1, none⟩ = some (.map none) := hB6.cell 1
  have HB6 := Lib.hid hB6
  clear hB6
  go_wp2
  refine bodyPost_ret (results_row_tmp rfl _ _ w.heap.size _ rfl (load_hdr _ _ _ _ ((HB6.out.set 0 _).set 1 _))) rfl ?_
  have kk : Keeps (UpX w.heap.size b g X) w4 w5 := k5.mono (fun x _ h => .inr (by simp [In] at h; omega))
  refine rh_bad_post (c := c4) ?_ ((((K14.trans' kk).trans_no k6).setCell (.inr (Nat.le_refl _)) _).setCell (.inr (Nat.le_refl _)) _)
  have k7 : Keeps (In [w.heap.size + 1, w.heap.size]) w4 ((w6.setCell ⟨w.heap.size, 0, none⟩ (.slice (some ⟨w.heap.size + 1, 0, none⟩) 0 32)).setCell ⟨w.heap.size, 1, none⟩ (.map m5)) :=
    (((k5.mono (fun x _ h => by simp [In] at h; simp [In, h])).trans_no k6).setCell (.inl (by simp [In])) _).setCell (.inl (by simp [In])) _
  exact R4.keep k7 (fun x hx h => by have := hX x hx; simp [In] at h; omega)
end Go.Proofs.YtjbbapodcngnaaaGreatDoor.G
