import Derived.Test.YtjbbapodcngnaaaDoorBufA
import Derived.Test.YtjbbapodcngnaaaDoorReg
import Derived.Deep.DeepCutAuto
namespace Go.Proofs.YtjbbapodcngnaaaDoor
open Go.RowKit

/-- The cells of a bufio.Reader at block b over the strings.Reader at block s, its buffer at block g. -/
def brc (g s r q : Nat) (err : Value) (lb lr : Int) : List Value :=
  [.slice (some ⟨g, 0, none⟩) 4096 4096, .iface 81 (.pointer (some ⟨s, 0, none⟩)), .int .i64 r, .int .i64 q, err, .int .i64 lb, .int .i64 lr]

/-- The cells of a strings.Reader. -/
def src3 (src : ByteArray) (i : Nat) (p : Int) : List Value := [.string src, .int .i64 i, .int .i64 p]

/-- What fill leaves: the bytes that were there ('rem', q1 of them) at the buffer's begin, and n more behind them. -/
def FillPost (b g s q1 i : Nat) (src : ByteArray) (err : Value) (ea : Addr) (lb lr : Int) (rem : List UInt8) (w w' : World) : Prop :=
  ∃ (data : List UInt8) (n : Nat) (err' : Value) (p : Int), data.length = 4096 ∧ q1 + n ≤ 4096 ∧ i + n ≤ src.size ∧ (i < src.size → 0 < n ∧ err' = err) ∧ (src.size ≤ i → n = 0 ∧ err' = (.iface 109 (.pointer (some ea)))) ∧
    Blk w' b (brc g s 0 (q1 + n) err' lb lr) 108 ∧ Blk w' g (u8s data) 5 ∧ Blk w' s (src3 src (i + n) p) 95 ∧ data.take (q1 + n) = rem ++ (src.data.toList.drop i).take n ∧
    Keeps (In [b, g, s]) w w'

theorem method_sr (s : Nat) (w : World) : (method 257 81 (.pointer (some ⟨s, 0, none⟩)) "Read").run Tryd.prog w = .ok (102, .pointer (some ⟨s, 0, none⟩)) w := by kernel_rfl

set_option maxRecDepth 100000 in
set_option maxHeartbeats 1000000 in
theorem fill_any (b g s r q i : Nat) (src : ByteArray) (err : Value) (ea : Addr) (lb lr p : Int) (data : List UInt8) (w : World) (hd : data.length = 4096) (hrq : r ≤ q) (hq : q ≤ 4096) (hf : q - r < 4096)
    (his : i ≤ src.size) (hsz : src.size ≤ 1000000000)
    (hb : Blk w b (brc g s r q err lb lr) 108) (hg : Blk w g (u8s data) 5) (hs : Blk w s (src3 src i p) 95) (heof : w.cell? ⟨2, 0, none⟩ = some (.iface 109 (.pointer (some ea)))) (hB : 7 ≤ b) (hG : 7 ≤ g) (_hS : 7 ≤ s) :
    Calls Tryd.prog 55 #[.pointer (some ⟨b, 0, none⟩)] w fun e w' => e = .returned (.tuple #[]) ∧ FillPost b g s (q - r) i src err ea lb lr ((data.drop r).take (q - r)) w w' := by
  have h0 := hb.cell 0
  have h2 := hb.cell 2
  have h3 := hb.cell 3
  simp only [brc, List.getElem?_cons_zero, List.getElem?_cons_succ] at h0 h2 h3
  have f2 := hb.frozen 2
  have f3 := hb.frozen 3
  have hbg : b ≠ g := hb.ne hg (by decide)
  have hsg : s ≠ g := hs.ne hg (by decide)
  have hbs : b ≠ s := hb.ne hs (by decide)
  have hq' : (q : Int) ≤ 4096 := by omega
  have HD := Lib.hid hd
  have HE := Lib.hid heof
  clear hd heof
  go_enter Tryd.func55, Tryd.ntmps55
  go_upto_if 9 with (fail)
  go_cut [] (fun wx => ∃ data1 : List UInt8, data1.length = 4096 ∧ Blk wx b (brc g s 0 (q - r) err lb lr) 108 ∧ Blk wx g (u8s data1) 5 ∧ data1.take (q - r) = (data.drop r).take (q - r) ∧ Keeps (In [b, g]) w wx)
  case first =>
    by_cases hr : r = 0
    · subst hr
      go_wp2
      go_meet
      exact ⟨data, HD.out, hb, hg, by simp, Keeps.refl _ _⟩
    · have hr' : decide (0 < r) = true := by simp; omega
      go_wp2
      refine region_tail 17 (by kernel_rfl) (by kernel_rfl) ?_
      simp only [List.take_succ_cons, List.take_zero, List.drop_succ_cons, List.drop_zero]
      repeat still_step
      refine wpStill_nil ?_
      refine wpList_copy_cells rfl (.tmp 13) (.tmp 26) 41 41 rfl 5 Tryd.underlying41 (by kernel_rfl) g 0 4096 4096 _ (q - r) (4096 - r) rfl rfl (u8s data) 5 hg.drew (u8s ((data.drop r).take (q - r))) ?hn ?hsrc ?hfit (u8s_one _) ?_
      case hn => have := HD.out; simp; omega
      case hfit => have := HD.out; simp; omega
      case hsrc =>
        have hb2 : BytesAt w g 0 data := BytesAt.of_blk hg (by simp [List.take_of_length_le])
        exact ⟨_, rfl, (hb2.cut r (q - r) (by have := HD.out; omega)).cells⟩
      intro W1 B1 K1
      have B2 := hb.drew.keep K1 (fun h => by simp only [In, List.mem_cons, List.not_mem_nil, or_false] at h; omega)
      clear h0 h2 h3 f2 f3
      have h2 := B2.cell 2
      have h3 := B2.cell 3
      simp only [brc, List.getElem?_cons_zero, List.getElem?_cons_succ] at h2 h3
      have f2 := B2.frozen 2
      have f3 := B2.frozen 3
      go_wp2
      refine region_tail 11 (by kernel_rfl) (by kernel_rfl) ?_
      simp only [List.take_succ_cons, List.take_zero, List.drop_succ_cons, List.drop_zero]
      repeat still_step
      refine wpStill_nil ?_
      go_wp2
      go_meet
      have hd := HD.out
      refine ⟨(data.drop r).take (q - r) ++ data.drop (q - r), by simp; omega, ?_, ?_, ?_, ?_⟩
      · exact ((B2.set 3 _).set 2 _).to (by simp [brc]; omega)
      · exact ((B1.out.set_other hbg _).set_other hbg _).to (by have hX : ((data.drop r).take (q - r)).length = q - r := (by simp; omega); rw [u8s_length, hX]; simp [u8s_drop])
      · rw [List.take_append_of_le_length (by simp; omega), List.take_of_length_le (by simp; omega)]
      · exact ((((Keeps.refl _ w).drew.trans K1 (fun _ _ h => by simp only [In, List.mem_cons, List.not_mem_nil, or_false] at h ⊢; omega)).setCell (.inl (by simp [In])) _).setCell (.inl (by simp [In])) _).drew
  case rest =>
    obtain ⟨data1, hd1, B1, B2, hr1, K1⟩ := hcut
    clear h0 h2 h3 f2 f3 hq'
    have HD1 := Lib.hid hd1
    have HR := Lib.hid hr1
    clear hd1 hr1
    have h0 := B1.cell 0
    have h1 := B1.cell 1
    have h2 := B1.cell 2
    have h3 := B1.cell 3
    simp only [brc, List.getElem?_cons_zero, List.getElem?_cons_succ] at h0 h1 h2 h3
    have f3 := B1.frozen 3
    have f4 := B1.frozen 4
    have hqr : (((q - r : Nat) : Int)) ≤ 4096 := by omega
    go_wp2
    go_quiet (fail)
    go_wp2
    refine wp_loop_rounds 1 ?_
    rw [rounds_succ]
    go_wp2
    refine region_mid 15 (by kernel_rfl) (by kernel_rfl) ?_
    simp only [List.take_succ_cons, List.take_zero, List.drop_succ_cons, List.drop_zero]
    repeat (quiet_step (fail))
    refine wpQuiet_nil ?_
    intro wq hwq
    obtain ⟨nq, rfl⟩ := hwq
    have hm := method_sr s
    have hcut : cutAt 0 (q - r) 4096 1 = q - r := by rw [cutAt_lt (by omega)]; omega
    have HC := Lib.hid hcut
    clear hcut
    have hs1 := hs.keep K1 (fun h => by simp only [In, List.mem_cons, List.not_mem_nil, or_false] at h; omega)
    go_wp2_with (fail)
    rw [HC.out]
    clear h0 h1 h2 h3 f3 f4
    by_cases hi : i < src.size
    · refine (sread_some s i g (q - r) (4096 - (q - r)) (4096 - (q - r)) _ p src (u8s data1) _ (hs1.drewN _) (B2.drewN _) hi hsz rfl (by have := HD1.out; simp; omega)).mono ?_
      generalize hn : min (src.size - i) (4096 - (q - r)) = n
      have hn1 : 0 < n := by omega
      have hn2 : n ≤ src.size - i := by omega
      have hn3 : n ≤ 4096 - (q - r) := by omega
      have hn1' : decide (0 < (n : Int)) = true := by simpa using hn1
      have hn0' : decide ((n : Int) < 0) = false := by simp
      clear hn
      rintro e w2 ⟨rfl, K2, B3, B4⟩
      have K2 := K2.drewN_left
      have B5 := B1.keep K2 (fun h => by simp only [In, List.mem_cons, List.not_mem_nil, or_false] at h; omega)
      have h3 := B5.cell 3
      have f3 := B5.frozen 3
      simp only [brc, List.getElem?_cons_zero, List.getElem?_cons_succ] at h3
      go_wp2
      refine bodyPost_ret (results_none rfl _ _ _) rfl ?_
      have hd1 := HD1.out
      have hsl := str_size src
      refine ⟨rfl, data1.take (q - r) ++ (src.data.toList.drop i).take n ++ data1.drop (q - r + n), n, err, -1, by rw [List.length_append, List.length_append, List.length_take, List.length_take, List.length_drop, List.length_drop, hd1, hsl]; omega, by omega, by omega, fun _ => ⟨hn1, rfl⟩, fun h => by omega, ?_, ?_, ?_, ?_, ?_⟩
      · exact (B5.set 3 _).to (by simp [brc])
      · exact (B4.set_other hbg _).to (by simp [u8s_take, u8s_drop])
      · exact B3.set_other hbs _
      · have hA : (data1.take (q - r) ++ (src.data.toList.drop i).take n).length = q - r + n := by
          rw [List.length_append, List.length_take, List.length_take, List.length_drop, hd1, hsl]; omega
        rw [List.take_left' hA, HR.out]
      · exact (((K1.mono (fun _ _ h => by simp only [In, List.mem_cons, List.not_mem_nil, or_false] at h ⊢; omega)).trans K2 (fun _ _ h => by simp only [In, List.mem_cons, List.not_mem_nil, or_false] at h ⊢; omega)).setCell (.inl (by simp [In])) _)
    · have he1 := K1.cell HE.out (fun h => by simp only [In, List.mem_cons, List.not_mem_nil, or_false] at h; omega)
      refine (sread_eof s i g (q - r) (4096 - (q - r)) (4096 - (q - r)) src ea _ ((hs1.drewN _).cell 0) ((hs1.drewN _).cell 1) he1 (by omega)).mono ?_
      rintro e w2 ⟨rfl, nn, rfl⟩
      have h3 := B1.cell 3
      have h4 := B1.cell 4
      have f3 := B1.frozen 3
      have f4 := B1.frozen 4
      simp only [brc, List.getElem?_cons_zero, List.getElem?_cons_succ] at h3 h4
      go_wp2
      refine bodyPost_ret (results_none rfl _ _ _) rfl ?_
      refine ⟨rfl, data1, 0, _, p, HD1.out, by omega, by omega, fun h => absurd h hi, fun _ => ⟨rfl, rfl⟩, ?_, ?_, ?_, ?_, ?_⟩
      · exact ((B1.set 3 _).set 4 _).to (by simp [brc])
      · exact (B2.set_other hbg _).set_other hbg _
      · exact ((hs1.set_other hbs _).set_other hbs _)
      · simpa using HR.out
      · exact (((K1.mono (fun _ _ h => by simp only [In, List.mem_cons, List.not_mem_nil, or_false] at h ⊢; omega)).drewN _).setCell (.inl (by simp [In])) _).setCell (.inl (by simp [In])) _
end Go.Proofs.YtjbbapodcngnaaaDoor
