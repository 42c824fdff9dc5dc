/- ReadHeader over any source: the loop. strings.NewReader, bufio.NewReader, ReadHeaderOf, headed. Regions that draw their order: looks and effects by turns. ReadHeaderOf, headed. ReadHeader, whole; bufio.NewReaderSize and bufio.Reader.Read over any source. bufio.Reader.Read over any source: bytes that stand in the buffer. bufio.Reader.Read over any source: whole; a bufio.Reader is a source. -/
import Derived.Test.YtjbbapodcngnaaaGreatDoorZsaf
import Derived.Test.YtjbbapodcngnaaaGreatDoorZsad
import Derived.Deep.OwnRows
namespace Go.Proofs.YtjbbapodcngnaaaGreatDoor.G
open Go.RowKit Hdr

set_option maxRecDepth 100000 in
set_option maxHeartbeats 1000000 in
theorem readHeader_some (b g : Nat) (X : Src) (w : World) (x : UInt8) (c : List UInt8) (h : Rd w b g X (x :: c)) (hx : sp x = false) (hs : Short (x :: c)) (hlen : c.length + 1 ≤ 1000000) {N : Nat} (E : Env N b g X w) :
    Calls Tryz.prog 81 #[.pointer (some ⟨b, 0, none⟩)] w (RhPost b g X (rh (x :: c)) w) := by
  have H := Lib.hid h
  have HE := Lib.hid E
  have HX := Lib.hid hx
  have HS := Lib.hid hs
  have hX := h.lt
  generalize hrr : rh (x :: c) = rr
  have HRR := Lib.hid hrr
  clear h E hx hs hrr
  go_enter Tryz.func81, Tryz.ntmps81
  go_wp2_with (at_make; refine wpList_make_p rfl (.const (.int .i64 0)) (.const (.int .i64 32)) rfl w.heap.size 32 32 rfl rfl (by decide) (by decide) (by simp) ?_; intro W0 O0 K0)
  rw [show (w.alloc (.cells #[.slice none 0 0, .map none] 74)).heap.size = w.heap.size + 1 by simp] at O0
  have K00 : Keeps No w W0 := ((Keeps.refl No w).alloc _).trans' K0
  have hB0 : Blk W0 w.heap.size [.slice none 0 0, .map none] 74 := (Blk.new w _ _).keep_no K0
  have R0 := H.out.keep_no K00
  have E0 := HE.out.keep_no K00
  refine (peek_some b g X W0 x c R0 E0).mono ?_
  rintro e w1 ⟨o1, cap1, rfl, hc1, R1, K1⟩
  unfold byt at hc1
  have O1 := O0.keep K1 (fun h => by have := hX _ h; omega)
  have hB1 := hB0.keep K1 (fun h => by have := hX _ h; omega)
  have HO1 := Lib.hid O1
  have HB1 := Lib.hid hB1
  have HR1 := Lib.hid R1
  have hsz0 : w.heap.size + 1 < W0.heap.size := O0.lt
  clear O0 O1 hB0 hB1 E0 R1
  go_wp2_with (fail)
  refine (isSpace_any x _).mono ?_
  rintro e w2 ⟨rfl, rfl⟩
  have hx := HX.out
  rw [hx]
  clear hx hc1
  go_wp2
  go_loopg [4] (c.length + 1) (fun n s4 wr => ∃ (lb cap : Nat) (fs : List Fd) (ps : List PF) (c' : List UInt8), s4 = .slice (some ⟨lb, 0, none⟩) fs.length cap ∧ PO wr w.heap.size lb cap (fs.map (·.blk)) ∧ w.heap.size < lb ∧ Fds wr w.heap.size wr.heap.size fs ∧ Tells fs ps ∧ Rd wr b g X c' ∧ Short c' ∧
    rr = (rh c').map (fun r => (ps ++ r.1, r.2)) ∧ Keeps (UpX w.heap.size b g X) w wr ∧ Blk wr w.heap.size [.slice none 0 0, .map none] 74 ∧ n = c'.length ∧ fs.length + c'.length ≤ c.length + 1 ∧ (fs.map (·.blk)).Nodup)
  case atStart =>
    have h1 : rr = (rh (x :: c)).map (fun r => ([] ++ r.1, r.2)) := by rw [← HRR.out]; simp
    exact ⟨w.heap.size + 1, 32, [], [], x :: c, rfl, HO1.out, by omega, Fds.nil _ _ _, trivial, HR1.out, HS.out, h1, K00.of_no.trans' (Keeps.upx K1), HB1.out, rfl, by simp, .nil⟩
  case round =>
    obtain ⟨lb, cap, fs, ps, c', rfl, hPO, hlb, hF, hT, hR, hS, hrr, K, hB, hnn, hbd, hnd⟩ := hrel
    have HND := Lib.hid hnd
    clear hnd
    have HPO := Lib.hid hPO
    have HF := Lib.hid hF
    have HT := Lib.hid hT
    have HRR2 := Lib.hid hrr
    have HNN := Lib.hid hnn
    have HBD := Lib.hid hbd
    have hlbs := hPO.lt
    have hfl : fs.length ≤ 1000000 := by omega
    have Er := HE.out.up K hX
    have hLl := kv_len c'
    have hLs := kv_Short hS
    have hc'l : c'.length ≤ 1000000 := by omega
    clear hPO hF hT hrr hnn hbd
    go_wp2_with (fail)
    refine (kv_any b g X wr c' hR hS (by omega) Er).mono ?_
    rintro e w4 ⟨a4, cap4, rfl, R4, K4, hO4⟩
    have PO4 := HPO.out.keep K4 (fun h => by have := hX _ h; omega)
    have F4 := (HF.out.keep K4 (fun x h => by have := hX _ h; omega)).mono K4.size
    have HB := Lib.hid (hB.keep K4 (fun h => by have := hX _ h; omega))
    have K14 : Keeps (UpX w.heap.size b g X) w w4 := K.trans' (Keeps.upx K4)
    have HPO4 := Lib.hid PO4
    have HF4 := Lib.hid F4
    clear PO4 F4 hB HPO HF Er hR
    by_cases hL : (kv c').1 = []
    · have hrh := rh_end hL
      have e1 : (kv c').1.length = 0 := by rw [hL]; rfl
      rw [e1]
      have HRH := Lib.hid hrh
      clear hrh hL hO4 e1
      generalize (kv c').2 = M at *
      go_wp2_with (fail)
      refine (newHeader_any lb cap w.heap.size w4.heap.size fs fs.length rfl w4 HPO4.out.own HF4.out (Nat.le_refl _) hfl).mono ?_
      rintro e w5 ⟨m5, rfl, hpo5, hm5, k5⟩
      have hB5 := HB.out.keep k5 (fun h => by simp [In] at h; omega)
      have fz5 := hB5.frozen
      have c50 : w5.cell? ⟨w.heap.size, 0, none⟩ = some (.slice none 0 0) := hB5.cell 0
      have c51 : w5.cell? ⟨w.heap.size, 1, none⟩ = some (.map none) := hB5.cell 1
      have HB5 := Lib.hid hB5
      clear hB5
      go_wp2
      refine bodyPost_ret (results_row_tmp rfl _ _ w.heap.size _ rfl (load_hdr _ _ _ _ ((HB5.out.set 0 _).set 1 _))) rfl ?_
      have hrr2 : rr = some (ps, M) := by rw [HRR2.out, HRH.out]; simp
      rw [hrr2]
      have hcap : NB fs cap := ⟨by have := HPO4.out.2.1; simpa using this, HND.out⟩
      exact rh_end_post hX (by omega) (by omega) hcap K14 R4 HF4.out HT.out HPO4.out.own.ptrs.typed HB.out hpo5 hm5 k5 _ _
    · obtain ⟨k, rfl, O4⟩ := hO4 hL
      have hlt := kv_lt hL
      have hL1 : 0 < (kv c').1.length := List.length_pos_iff.2 hL
      have hno := rh_no hL
      have hbad := fun b x => @rh_bad c' b x hL
      have hskip := fun b x => @rh_skip c' b x hL
      have hmore := fun b x => @rh_more c' b x hL
      have hrec : ∀ r, rh c' = r → rh c' = r := fun _ h => h
      generalize hkv1 : (kv c').1 = L at *
      generalize hkv2 : (kv c').2 = M at *
      have HNO := Lib.hid hno
      have HBAD := Lib.hid hbad
      have HSKIP := Lib.hid hskip
      have HMORE := Lib.hid hmore
      have HO4 := Lib.hid O4
      have hk := O4.ge
      have hkl := O4.lt
      have hL3 : ((L.length : Int) == 0) = false := by simp; omega
      have hL4 : (L.length == 0) = false := by simp; omega
      clear hno hbad hskip hmore O4 hO4 hL hkv1 hkv2 hrec
      go_wp2_with (fail)
      refine (indexByte_any k 0 cap4 L 58 w4 HO4.out.bytes).mono ?_
      rintro e w4' ⟨rfl, rfl⟩
      have hdw := colon_split L
      have hcn := colon_no L
      cases hdr : L.dropWhile (· != 58) with
      | nil =>
        have hcl : (58 : UInt8) ∉ L := by
          rw [hdr, List.append_nil] at hdw
          rw [← hdw] at hcn
          exact hcn
        have HRH := Lib.hid (HNO.out hdr)
        have hix := ixb_none hcl
        rw [hix]
        clear hdr hcl hix hdw hcn
        go_wp2_with (fail)
        refine (newHeader_any lb cap w.heap.size w4'.heap.size fs fs.length rfl w4' HPO4.out.own HF4.out (Nat.le_refl _) hfl).mono ?_
        rintro e w5 ⟨m5, rfl, hpo5, hm5, k5⟩
        have hB5 := HB.out.keep k5 (fun h => by simp [In] at h; omega)
        have HB5 := Lib.hid hB5
        clear hB5
        go_wp2_with (fail)
        refine (errorsNew_any _ w5).mono ?_
        rintro e w6 ⟨eb, rfl, k6⟩
        have hB6 := HB5.out.keep_no k6
        have fz6 := hB6.frozen
        have c60 : w6.cell? ⟨w.heap.size, 0, none⟩ = some (.slice none 0 0) := hB6.cell 0
        have c61 : w6.cell? ⟨w.heap.size, 1, none⟩ = some (.map none) := hB6.cell 1
        have HB6 := Lib.hid hB6
        clear hB6
        go_wp2
        refine bodyPost_ret (results_row_tmp rfl _ _ w.heap.size _ rfl (load_hdr _ _ _ _ ((HB6.out.set 0 _).set 1 _))) rfl ?_
        have hrr2 : rr = none := by rw [HRR2.out, HRH.out]; rfl
        rw [hrr2]
        have kk : Keeps (UpX w.heap.size b g X) w4' w5 := k5.mono (fun x _ h => .inr (by simp [In] at h; omega))
        refine rh_bad_post (c := M) ?_ ((((K14.trans' kk).trans_no k6).setCell (.inr (Nat.le_refl _)) _).setCell (.inr (Nat.le_refl _)) _)
        have k7 : Keeps (In [lb, w.heap.size]) w4' ((w6.setCell ⟨w.heap.size, 0, none⟩ (.slice (some ⟨lb, 0, none⟩) fs.length cap)).setCell ⟨w.heap.size, 1, none⟩ (.map m5)) :=
          (((k5.mono (fun x _ h => by simp [In] at h; simp [In, h])).trans_no k6).setCell (.inl (by simp [In])) _).setCell (.inl (by simp [In])) _
        exact R4.keep k7 (fun x hx h => by have := hX x hx; simp [In] at h; omega)
      | cons y B =>
        obtain rfl := colon_head hdr
        have HDR := Lib.hid hdr
        rw [hdr] at hdw
        generalize hA : L.takeWhile (· != 58) = A at *
        have hix : Lib.indexByte L 58 = A.length := by
          rw [hdw]
          exact ixb_some hcn
        rw [hix]
        have hLA : L.length = A.length + 1 + B.length := by rw [hdw]; simp; omega
        have hAt : L.take A.length = A := by rw [hdw, List.take_left]
        have hBd : L.drop (A.length + 1) = B := by rw [hdw, List.drop_append, List.drop_eq_nil_of_le (Nat.le_succ _)]; simp
        have hLc := HO4.out.le
        have hbA : BytesAt w4' k 0 A := by have := HO4.out.bytes.take A.length; rwa [hAt] at this
        have hBc : BytesAt w4' k (cutAt 0 (A.length + 1) cap4 1) B := by
          have := HO4.out.bytes.cut_l (A.length + 1) hLc
          rwa [hBd] at this
        have h1 : decide ((A.length : Int) < 0) = false := decide_eq_false (by omega)
        have h2 : (A.length : Int) ≤ (cap4 : Int) := by omega
        have h3 : IntKind.i64.wrap ((A.length : Int) + 1) = (A.length : Int) + 1 := by rw [IntKind.wrap_i64]; omega
        have h4 : (A.length : Int) + 1 ≤ (L.length : Int) := by omega
        have h0 : (0 : Int) ≤ (A.length : Int) := by omega
        have h5 : (0 : Int) ≤ (A.length : Int) + 1 := by omega
        have HBC := Lib.hid hBc
        have HLA := Lib.hid hLA
        have HDW := Lib.hid hdw
        have HA := Lib.hid hA
        have htl := trim_len A
        clear hdr hcn hdw hix hAt hBd hBc hA hLA
        go_wp2_with (fail)
        refine (trim_any k 0 cap4 A A.length rfl w4' hbA (by omega) (by omega)).mono ?_
        rintro e w4'' ⟨o5, cap5, rfl, hc5, hbT, rfl⟩
        have hbad2 := HBAD.out B 58 HDR.out
        have hskip2 := HSKIP.out B 58 HDR.out
        have hmore2 := HMORE.out B 58 HDR.out
        generalize hTT : trim A = T at *
        have HBT := Lib.hid hbT
        have HBAD2 := Lib.hid hbad2
        have HSKIP2 := Lib.hid hskip2
        have HMORE2 := Lib.hid hmore2
        clear hTT hbT hbad2 hskip2 hmore2 HBAD HSKIP HMORE HNO
        go_wp2
        go_loopg [69] T.length (fun n s69 wx => ∃ j : Nat, s69 = .int .i64 j ∧ j + n = T.length ∧ (T.take j).all keyb = true ∧ w4'' = wx)
        case atStart => exact ⟨0, rfl, by omega, by simp, rfl⟩
        case round =>
          obtain ⟨j, rfl, hjn, hjk, rfl⟩ := hrel
          have HJK := Lib.hid hjk
          have HJN := Lib.hid hjn
          have hjle : j ≤ T.length := by omega
          clear hjk hjn
          by_cases hj : j < T.length
          · have hxx := HBT.out.cell hj
            have htk : T.take (j + 1) = T.take j ++ [T[j]] := List.take_succ_eq_append_getElem hj
            have hall : T.all keyb = true → keyb T[j] = true := fun h => by
              rw [List.all_eq_true] at h
              exact h _ (List.getElem_mem _)
            have hjj : (j : Int) < (T.length : Int) := by omega
            generalize hcc : T[j] = cc at *
            have HTK := Lib.hid htk
            clear hcc htk
            unfold byt at hxx
            go_wp2_with (fail)
            refine (validKey_any cc _).mono ?_
            rintro e w4x ⟨rfl, rfl⟩
            cases hkb : keyb cc with
            | true =>
              have HKB := Lib.hid hkb
              clear hkb hall
              go_wp2
              go_roundg (gk - 1)
              case measure => have := HJN.out; omega
              case rel =>
                refine ⟨j + 1, by simp, by have := HJN.out; omega, ?_, rfl⟩
                rw [HTK.out, List.all_append, HJK.out]
                simp [HKB.out]
            | false =>
              have hf : T.all keyb = false := by
                cases h : T.all keyb with
                | false => rfl
                | true => rw [hall h] at hkb; cases hkb
              have HRH := Lib.hid (HBAD2.out hf)
              clear hkb hall hf
              go_wp2_with (fail)
              refine (newHeader_any lb cap w.heap.size w4x.heap.size fs fs.length rfl w4x HPO4.out.own HF4.out (Nat.le_refl _) hfl).mono ?_
              rintro e w5 ⟨m5, rfl, hpo5, hm5, k5⟩
              have hB5 := HB.out.keep k5 (fun h => by simp [In] at h; omega)
              have HB5 := Lib.hid hB5
              clear hB5
              go_wp2_with (fail)
              refine (errorsNew_any _ w5).mono ?_
              rintro e w6 ⟨eb, rfl, k6⟩
              have hB6 := HB5.out.keep_no k6
              have fz6 := hB6.frozen
              have c60 : w6.cell? ⟨w.heap.size, 0, none⟩ = some (.slice none 0 0) := hB6.cell 0
              have c61 : w6.cell? ⟨w.heap.size, 1, none⟩ = some (.map none) := hB6.cell 1
              have HB6 := Lib.hid hB6
              clear hB6
              go_wp2
              refine bodyPost_ret (results_row_tmp rfl _ _ w.heap.size _ rfl (load_hdr _ _ _ _ ((HB6.out.set 0 _).set 1 _))) rfl ?_
              have hrr2 : rr = none := by rw [HRR2.out, HRH.out]; rfl
              rw [hrr2]
              have kk : Keeps (UpX w.heap.size b g X) w4x w5 := k5.mono (fun x _ h => .inr (by simp [In] at h; omega))
              refine rh_bad_post (c := M) ?_ ((((K14.trans' kk).trans_no k6).setCell (.inr (Nat.le_refl _)) _).setCell (.inr (Nat.le_refl _)) _)
              have k7 : Keeps (In [lb, w.heap.size]) w4x ((w6.setCell ⟨w.heap.size, 0, none⟩ (.slice (some ⟨lb, 0, none⟩) fs.length cap)).setCell ⟨w.heap.size, 1, none⟩ (.map m5)) :=
                (((k5.mono (fun x _ h => by simp [In] at h; simp [In, h])).trans_no k6).setCell (.inl (by simp [In])) _).setCell (.inl (by simp [In])) _
              exact R4.keep k7 (fun x hx h => by have := hX x hx; simp [In] at h; omega)
          · have hjT : j = T.length := by omega
            have hall : T.all keyb = true := by have := HJK.out; rwa [hjT, List.take_length] at this
            have HALL := Lib.hid hall
            have e9 : decide (j < T.length) = false := decide_eq_false hj
            clear hjT hall
            have hcv := run_string_of w4'' k o5 cap5 T T.length rfl HBT.out
            have hcl := canon_len T
            unfold str at hcv
            go_wp2_with (fail)
            refine (canonicalKey_any T w4'' (by omega)).mono ?_
            rintro e w5 ⟨rfl, K5⟩
            by_cases hT0 : T = []
            · have hcT : canon T = [] := List.length_eq_zero_iff.1 (by rw [hcl, hT0]; rfl)
              have HRH := Lib.hid (HSKIP2.out hT0)
              have heq : (canon T).isEmpty = true := by rw [hcT]; rfl
              clear hT0 hcT
              go_wp2
              go_roundg M.length
              case measure => have := HNN.out; omega
              case rel =>
                have hsz5 := K5.size
                refine ⟨lb, cap, fs, ps, M, rfl, HPO4.out.keep K5 (fun h => h), hlb, (HF4.out.keep K5 (fun x h => h.elim)).mono hsz5, HT.out, R4.keep_no K5, hLs, by rw [HRR2.out, HRH.out], K14.trans_no K5, HB.out.keep_no K5, rfl, by have := HBD.out; omega, HND.out⟩
            · have hcT : canon T ≠ [] := fun h => hT0 (List.length_eq_zero_iff.1 (by rw [← hcl, h]; rfl))
              have heq : (canon T).isEmpty = false := by cases h : canon T with | nil => exact absurd h hcT | cons _ _ => rfl
              have HT0 := Lib.hid hT0
              clear hT0 hcT
              go_wp2_with (fail)
              have hbB : BytesAt w5 k (cutAt 0 (A.length + 1) cap4 1) B := HBC.out.keep K5 (fun h => h)
              refine (tan_any k (cutAt 0 (A.length + 1) cap4 1) (cap4 - (A.length + 1)) B (L.length - (A.length + 1)) (by have := HLA.out; omega) w5 hbB (by have := HLA.out; omega) (by have := HLA.out; omega)).mono ?_
              rintro e w6 ⟨rfl, K6⟩
              go_wp2_with (fail)
              refine (newHeaderField_any (canon T) (joins [] B) (.slice (some ⟨k, 0, none⟩) L.length cap4) ⟨_, _, _, rfl⟩ w6 (by omega)).mono ?_
              rintro e w7 ⟨fb, rfl, hfb1, hfb2, hBf, K7⟩
              have K47 : Keeps No w4'' w7 := (K5.trans' K6).trans' K7
              have PO7 := HPO4.out.keep K47 (fun h => h)
              have hsz7 := K47.size
              have hsz56 := (K5.trans' K6).size
              have HBf := Lib.hid hBf
              clear hBf
              have hc1 : ∀ j u, (ptrs [fb])[j]? = some u → (w7.alloc (.cells #[.pointer (some ⟨fb, 0, none⟩)] 160)).cell? ((⟨w7.heap.size, 0, none⟩ : Addr).add j) = some u := fun j u hj => by
                match j, hj with
                | 0, hj => simp [ptrs] at hj; subst hj; simp [Addr.add]
                | j + 1, hj => simp [ptrs] at hj
              have HC1 := Lib.hid hc1
              clear hc1
              go_wp2_with (at_builtin; refine wpList_append_p rfl (.tmp 92) (.tmp 97) rfl w.heap.size lb cap fs.length (fs.map (·.blk)) rfl (by simp) (PO7.keep ((Keeps.refl No _).alloc _) (fun h => h)) ⟨w7.heap.size, 0, none⟩ 1 1 [fb] rfl rfl HC1.out (by omega) (by have := K14.size; simp; omega) ?_; intro g8 cap8 W8 O8 K8 hg8)
              have HO8 := Lib.hid O8
              clear O8
              go_wp2
              go_roundg M.length
              case measure => have := HNN.out; omega
              case rel =>
                have hfl2 : fb ≠ lb := by omega
                have hkl2 : k ≠ lb := by omega
                have KA : Keeps No w4'' (w7.alloc (.cells #[.pointer (some ⟨fb, 0, none⟩)] 160)) := K47.alloc _
                have KB : Keeps (In [lb]) w4'' W8 := (KA.of_no).trans' K8
                have hszB := KB.size
                have hsz8 := K8.size
                have hszA : w7.heap.size + 1 ≤ W8.heap.size := by simpa using hsz8
                have hszr := K4.size
                have hsz0 := K.size
                have hFd : FdAt W8 w.heap.size W8.heap.size ⟨fb, canon (canon T), joins [] B, some L, .slice (some ⟨k, 0, none⟩) L.length cap4⟩ := by
                  refine ⟨?_, ?_, ?_, ?_⟩
                  · show w.heap.size ≤ fb; omega
                  · show fb < W8.heap.size; omega
                  · exact (HBf.out.alloc _).keep K8 (fun h => by simp [In] at h; omega)
                  · exact ⟨k, 0, cap4, rfl, hLc, by omega, by omega, HO4.out.bytes.keep KB (fun h => by simp [In] at h; omega), HO4.out.typed.keep KB (fun h => by simp [In] at h; omega)⟩
                have hF8 : Fds W8 w.heap.size W8.heap.size fs := (HF4.out.keep_lb HPO4.out.own.ptrs.typed (KB.mono (fun x _ h => by simp [In] at h; exact .inl h)) (Nat.le_refl _)).mono hszB
                refine ⟨g8, cap8, fs ++ [⟨fb, canon (canon T), joins [] B, some L, .slice (some ⟨k, 0, none⟩) L.length cap4⟩], ps ++ [⟨canon (canon T), joins [] B, L⟩], M, ?_, ?_, ?_, ?_, HT.out.snoc ⟨rfl, rfl, rfl⟩, ?_, hLs, ?_, ?_, ?_, rfl, ?_⟩
                · simp
                · simpa using HO8.out
                · rcases hg8 with rfl | hg8
                  · exact hlb
                  · simp at hg8; omega
                · intro f hf
                  rcases List.mem_append.1 hf with hf | hf
                  · exact hF8 f hf
                  · simp at hf; subst hf; exact hFd
                · exact R4.keep KB (fun x hx h => by have := hX x hx; simp [In] at h; omega)
                · rw [HRR2.out, HMORE2.out HALL.out HT0.out]
                  cases rh M with
                  | none => rfl
                  | some r => simp
                · exact K14.trans' (KB.mono (fun x _ h => .inr (by simp [In] at h; omega)))
                · exact HB.out.keep KB (fun h => by simp [In] at h; omega)
                · refine ⟨by have := HBD.out; simp; omega, ?_⟩
                  rw [List.map_append]
                  refine nodup_snoc HND.out (fun y hy => ?_)
                  obtain ⟨f, hf, rfl⟩ := List.mem_map.1 hy
                  have := (HF4.out f hf).lt
                  show f.blk < fb
                  omega
end Go.Proofs.YtjbbapodcngnaaaGreatDoor.G
namespace Go.Proofs.YtjbbapodcngnaaaGreatDoor
open Go.RowKit Hdr

theorem made_u8 (n : Nat) : madeCells #[Value.int .u8 0] n = (u8s (List.replicate n 0)).toArray := by
  apply Array.ext
  · simp [madeCells]
  · intro i h1 h2
    simp [madeCells, u8s, byt, Nat.mod_one]

end Go.Proofs.YtjbbapodcngnaaaGreatDoor
namespace Go.Proofs.YtjbbapodcngnaaaGreatDoor
open Go.RowKit

section
variable {P : Program} {ops : Array Oper} {md : Region.Mode} {C : World → Prop}

def looksM (md : Region.Mode) (ops : Array Oper) (n : Nat) (K : Array Bool → Bool) : List Nat → Array Bool → Bool
  | [], listed => K listed
  | k :: rd, listed => decide (k < n) && ((ops[k]?).map lookOp == some true) && (Region.ready md ops listed).contains k && Region.free md ops listed k && looksM md ops n K rd (listed.setIfInBounds k true)
def segsM (md : Region.Mode) (ops : Array Oper) (n g : Nat) (rl : List Nat) : List (List Nat × Nat) → Array Bool → Bool
  | [], listed => looksM md ops n (fun l => decide (Region.ready md ops l = [n]) && Region.lexFrom md ops g (n + 1) (l.setIfInBounds n true)) rl listed
  | s :: segs, listed => looksM md ops n (fun l => decide (s.2 < n) && decide (Region.ready md ops l = [s.2]) && segsM md ops n g rl segs (l.setIfInBounds s.2 true)) s.1 listed
def segsLen (rl : List Nat) : List (List Nat × Nat) → Nat
  | [] => rl.length
  | s :: segs => s.1.length + (1 + segsLen rl segs)
def segsB (md : Region.Mode) (ops : Array Oper) (segs : List (List Nat × Nat)) (rl : List Nat) (n : Nat) : Bool :=
  Region.noSelect ops && decide (n < ops.size) && decide (segsLen rl segs = n) && Region.sinkB md ops n && afterB md ops n && (ops.toList.drop (n + 1)).all pureOp && segsM md ops n (ops.size - n - 1) rl segs (Array.replicate ops.size false)

/-- Looks: whatever world of the class. -/
def wpLooks (P : Program) (ops : Array Oper) (C : World → Prop) (K : Act → Prop) (l : List Oper) (a : Act) : Prop :=
  ∀ (ι : Type) (F : ι → World), Nonempty ι → (∀ i, C (F i)) → wpQuiet P ops (fun w' => ∃ i, w' = F i) K l a
theorem wpLooks.quiet {K : Act → Prop} {l : List Oper} {a : Act} {w : World} (h : wpLooks P ops C K l a) (hw : C w) : wpQuiet P ops C K l a := by
  have h' := h {w' // C w'} Subtype.val ⟨⟨_, hw⟩⟩ (fun i => i.2)
  have hcc : (fun w' => ∃ i : {w' // C w'}, w' = i.val) = C := by
    funext w'
    exact propext ⟨fun ⟨i, h⟩ => h ▸ i.2, fun h => ⟨⟨w', h⟩, rfl⟩⟩
  rwa [hcc] at h'

def wpSegs (P : Program) (ops : Array Oper) (C : World → Prop) (Q : Exit → Act → World → Prop) (rl tl : List Oper) : List (List Oper × List Oper) → Act → World → Prop
  | [], a, w => wpLooks P ops C (fun a' => wpList P ops Q tl a' w) rl a
  | s :: segs, a, w => wpLooks P ops C (fun a' => wpList P ops (EffPost C (wpSegs P ops C Q rl tl segs)) s.2 a' w) s.1 a

theorem wpAnyE_lk {n f : Nat} {L : Array Bool → Act → World → Prop} {Q : Exit → Act → World → Prop} {KB : Array Bool → Bool} {K : Act → Prop} (hsel : Region.noSelect ops = true) (hs : Region.sinkB md ops n = true) (hc : afterB md ops n = true) (hn : n < ops.size)
    (hL : ∀ listed a w, L listed a w → ∀ j ∈ Region.ready md ops listed, n ≤ j) :
    ∀ (rd : List Nat) (listed : Array Bool) (a : Act) (w : World), HeadInv md ops n listed → looksM md ops n KB rd listed = true → C w → wpQuiet P ops C K (pick ops.toList rd) a →
      (∀ listed' a', HeadInv md ops n listed' → KB listed' = true → K a' → wpAnyE P md ops (NoP Q) C n L f listed' a' w) → wpAnyE P md ops (NoP Q) C n L (rd.length + f) listed a w
  | [], listed, a, w, inv, hB, _, h, hK => by
    rw [List.length_nil, Nat.zero_add]
    exact hK listed a inv hB h
  | k :: rd, listed, a, w, inv, hB, hw, h, hKK => by
    simp only [looksM, Bool.and_eq_true, decide_eq_true_eq, beq_iff_eq] at hB
    obtain ⟨⟨⟨⟨hkn, hl⟩, hr⟩, hf⟩, hB⟩ := hB
    have hks : k < ops.size := by omega
    have h0 : ops[k]? = some ops[k] := Array.getElem?_eq_getElem hks
    have hp : pick ops.toList (k :: rd) = ops[k] :: pick ops.toList rd := by
      unfold pick
      rw [List.filterMap_cons]
      simp [h0]
    rw [hp] at h
    rw [h0] at hl
    have hl' : lookOp ops[k] = true := by simpa using hl
    have hr' : k ∈ Region.ready md ops listed := by simpa using hr
    have hst : qOp P ops C k (wpQuiet P ops C K (pick ops.toList rd)) a := by unfold qOp; simp only [h0]; exact h
    obtain ⟨v, hy, hK⟩ := yieldsIn_of_qOp h0 hst
    rw [List.length_cons, show rd.length + 1 + f = (rd.length + f) + 1 by omega]
    exact wpAnyE_first h0 (Region.noSelect_spec hsel) hs hc hn hkn hL _ listed a w inv (Region.free_spec h0 hf) hr' (YieldsIn.looks hy hl') hw
      (wpAnyE_lk hsel hs hc hn hL rd _ _ w (inv.set hr' hkn) hB hw hK hKK)

def segPick (l : List Oper) (segs : List (List Nat × Nat)) : List (List Oper × List Oper) := segs.map fun s => (pick l s.1, pick l [s.2])

theorem wpAnyE_segs {n g : Nat} {Q : Exit → Act → World → Prop} (rl : List Nat) (hsel : Region.noSelect ops = true) (hs : Region.sinkB md ops n = true) (hc : afterB md ops n = true) (hn : n < ops.size) :
    ∀ (segs : List (List Nat × Nat)) (listed : Array Bool) (a : Act) (w : World), HeadInv md ops n listed → segsM md ops n g rl segs listed = true → C w →
      wpSegs P ops C Q (pick ops.toList rl) (ops.toList.drop n) (segPick ops.toList segs) a w →
      wpAnyE P md ops (NoP Q) C n (fun listed' a' w' => MidAt md ops n g listed' ∧ wpList P ops Q (ops.toList.drop n) a' w') (segsLen rl segs) listed a w
  | [], listed, a, w, inv, hB, hw, h => by
    have := wpAnyE_lk (f := 0) (Q := Q) (L := fun listed' a' w' => MidAt md ops n g listed' ∧ wpList P ops Q (ops.toList.drop n) a' w') hsel hs hc hn (fun listed' a' w' hL j hj => by rw [hL.1.1] at hj; simp at hj; omega) rl listed a w inv hB hw (wpLooks.quiet h hw)
      (fun listed' a' _ hB' hK => by
        simp only [Bool.and_eq_true, decide_eq_true_eq] at hB'
        exact ⟨hB', hK⟩)
    exact this
  | (rd, e) :: segs, listed, a, w, inv, hB, hw, h => by
    refine wpAnyE_lk (f := 1 + segsLen rl segs) (Q := Q) (L := fun listed' a' w' => MidAt md ops n g listed' ∧ wpList P ops Q (ops.toList.drop n) a' w') hsel hs hc hn (fun listed' a' w' hL j hj => by rw [hL.1.1] at hj; simp at hj; omega) rd listed a w inv hB hw (wpLooks.quiet h hw) ?_
    intro listed' a' inv' hB' hK
    simp only [Bool.and_eq_true, decide_eq_true_eq] at hB'
    obtain ⟨⟨hen, hr⟩, hB'⟩ := hB'
    have hks : e < ops.size := by omega
    have h0 : ops[e]? = some ops[e] := Array.getElem?_eq_getElem hks
    have hp : pick ops.toList [e] = [ops[e]] := by
      unfold pick
      rw [List.filterMap_cons]
      simp [h0]
    have hr' : e ∈ Region.ready md ops listed' := by rw [hr]; simp
    rw [Nat.add_comm 1]
    refine ⟨fun h0 => (by rw [hr] at h0; cases h0), fun i hi => ?_⟩
    rw [hr] at hi
    obtain rfl : i = e := by simpa using hi
    refine ⟨hen, ?_⟩
    change wpList P ops (EffPost C (wpSegs P ops C Q (pick ops.toList rl) (ops.toList.drop n) (segPick ops.toList segs))) (pick ops.toList [i]) a' w at hK
    rw [hp] at hK
    have hw2 : wpOp P ops (EffPost C (wpSegs P ops C Q (pick ops.toList rl) (ops.toList.drop n) (segPick ops.toList segs))) i (wpList P ops (EffPost C (wpSegs P ops C Q (pick ops.toList rl) (ops.toList.drop n) (segPick ops.toList segs))) []) a' w := by
      unfold wpOp; simp only [h0]; exact hK
    refine wpOp_mono (fun a'' w'' h' => ?_) (wpOp_post (fun e a w hne h => absurd h.1 hne) hw2)
    obtain ⟨_, hC, h'⟩ := h'
    exact ⟨hC, wpAnyE_segs rl hsel hs hc hn segs _ a'' w'' (inv'.set hr' hen) hB' hC h'⟩

theorem region_segs {id : Nat} {Q : Exit → Act → World → Prop} {a : Act} {w : World} {l : List Oper} (segs : List (List Nat × Nat)) (rl : List Nat) (n : Nat) (C : World → Prop) (hm : P.follows .mixedOrders = true) (hB : segsB .any l.toArray segs rl n = true) (hC : C w.drew)
    (h : wpSegs P l.toArray C Q (pick l rl) (l.drop n) (segPick l segs) a w.drew) : (Code.region id l.toArray true).wp P Q a w := by
  simp only [segsB, Bool.and_eq_true, decide_eq_true_eq] at hB
  obtain ⟨⟨⟨⟨⟨⟨hsel, hn⟩, hlen⟩, hs⟩, hc⟩, hp⟩, hlex⟩ := hB
  have hn' : n < l.length := by simpa using hn
  have inv0 : HeadInv .any l.toArray n (Array.replicate l.toArray.size false) :=
    ⟨by simp, fun j oj _ hl => (by rw [getD_replicate_false] at hl; cases hl), fun t _ ht => getD_in (by simpa using ht) (getD_replicate_false _ _)⟩
  have H := wpAnyE_segs (P := P) (md := .any) (C := C) (g := l.toArray.size - n - 1) (Q := Q) rl hsel hs hc hn segs _ a w.drew inv0 hlex hC (by simpa using h)
  refine wp_region_any hm ?_
  have hdrop : l.drop n = l[n] :: l.drop (n + 1) := List.drop_eq_getElem_cons hn'
  have := wpAny_of_E (P := P) (md := .any) (Q := Q) (g := l.toArray.size - n - 1 + 1) (fun listed a' w' hL => by
    have hw := hL.2
    rw [hdrop] at hw
    exact wpAny_mid (md := .any) hsel (l.drop (n + 1)) (by simp; omega) (fun j => by simp [List.getElem?_drop]) (by simp [hn']) hp listed a' hL.1 hw) _ _ _ _ H
  rw [hlen, show n + (l.toArray.size - n - 1 + 1) = l.toArray.size by simp; omega] at this
  exact this
end
end Go.Proofs.YtjbbapodcngnaaaGreatDoor
namespace Go.Proofs.YtjbbapodcngnaaaGreatDoor
open Go.RowKit Hdr

/-- A header as the program holds it: its slice, its map, its fields. -/
def HdrAt (w : World) (lo : Nat) (hv : Value) (fs : List Fd) : Prop :=
  ∃ (lb cap : Nat) (m : Option Nat), hv = .agg #[.slice (some ⟨lb, 0, none⟩) fs.length cap, .map m] ∧ lo ≤ lb ∧ NB fs cap ∧ POwn w lb cap (fs.reverse.map (·.blk)) ∧ HMap w (lb + 1) m fs.reverse ∧ Fds w lo w.heap.size fs

theorem HMap.to {S : Nat → Prop} {w w' : World} {lo lo' : Nat} {m : Option Nat} {fs : List Fd} (h : HMap w lo m fs) (k : Keeps S w w') (hS : ∀ x, S x → x < lo) (hl : lo' ≤ lo) : HMap w' lo' m fs := by
  rcases h with ⟨h1, h2⟩ | ⟨mb, gs, h1, h2, h3, h4⟩
  · exact .inl ⟨h1, h2⟩
  · refine .inr ⟨mb, gs, h1, by omega, h3.keep k (fun h => by have := hS _ h; omega), ?_⟩
    have h5 := h4.keep k (fun x hx b hb h => by
      have := ((h4.own x hx).lt b hb).1
      have := hS _ h
      omega)
    exact ⟨h5.keys, h5.apart, fun x hx => PS.mono (h5.own x hx) hl, h5.some_, h5.of, h5.all⟩
theorem FdAt.lower {w : World} {lo lo' hi : Nat} {f : Fd} (h : FdAt w lo hi f) (hl : lo' ≤ lo) : FdAt w lo' hi f := by
  refine ⟨Nat.le_trans hl h.ge, h.lt, h.B, ?_⟩
  have hR := h.R
  cases hr : f.raw with
  | none => rw [hr] at hR; exact hR
  | some l =>
    rw [hr] at hR
    obtain ⟨rb, ro, cp, e1, e2, e3, e4, e5, e6⟩ := hR
    exact ⟨rb, ro, cp, e1, e2, by omega, e4, e5, e6⟩
theorem Fds.lower {w : World} {lo lo' hi : Nat} {fs : List Fd} (h : Fds w lo hi fs) (hl : lo' ≤ lo) : Fds w lo' hi fs := fun f hf => (h f hf).lower hl

end Go.Proofs.YtjbbapodcngnaaaGreatDoor
namespace Go.Proofs.YtjbbapodcngnaaaGreatDoor.G
open Go.RowKit Hdr

/-- readHeader, whole. -/
theorem readHeader_any (b g : Nat) (X : Src) (w : World) (c : List UInt8) (h : Rd w b g X c) (hne : c ≠ []) (hs : Short c) (hlen : c.length ≤ 1000000) {N : Nat} (E : Env N b g X w) :
    Calls Tryz.prog 81 #[.pointer (some ⟨b, 0, none⟩)] w (RhPost b g X (rhd c) w) := by
  cases c with
  | nil => exact absurd rfl hne
  | cons x c =>
    cases hx : sp x with
    | true =>
      have : rhd (x :: c) = none := by unfold rhd; exact if_pos hx
      rw [this]
      exact readHeader_bad b g X w x c h hx hs E
    | false =>
      have : rhd (x :: c) = rh (x :: c) := by unfold rhd; exact if_neg (by show ¬ sp x = true; rw [hx]; decide)
      rw [this]
      exact readHeader_some b g X w x c h hx hs hlen E

set_option maxRecDepth 100000 in
set_option maxHeartbeats 400000 in
theorem bufReset_any (b g : Nat) (X : Src) (w : World) (cs : List Value) (hc : ∃ a0 a1 a2 a3 a4 a5 a6, cs = [a0, a1, a2, a3, a4, a5, a6]) (hb : Blk w b cs 201) :
    Calls Tryz.prog 138 #[.pointer (some ⟨b, 0, none⟩), .slice (some ⟨g, 0, none⟩) 4096 4096, .iface X.t X.v] w fun e w' => e = .returned (.tuple #[]) ∧ Blk w' b (brc g X 0 0 .nilIface (-1) (-1)) 201 ∧ Keeps (In [b]) w w' := by
  obtain ⟨a0, a1, a2, a3, a4, a5, a6, rfl⟩ := hc
  have fz := hb.frozen
  have c0 : w.cell? ⟨b, 0, none⟩ = some a0 := hb.cell 0
  have c1 : w.cell? ⟨b, 1, none⟩ = some a1 := hb.cell 1
  have c2 : w.cell? ⟨b, 2, none⟩ = some a2 := hb.cell 2
  have c3 : w.cell? ⟨b, 3, none⟩ = some a3 := hb.cell 3
  have c4 : w.cell? ⟨b, 4, none⟩ = some a4 := hb.cell 4
  have c5 : w.cell? ⟨b, 5, none⟩ = some a5 := hb.cell 5
  have c6 : w.cell? ⟨b, 6, none⟩ = some a6 := hb.cell 6
  have H := Lib.hid hb
  clear hb
  go_enter Tryz.func138, Tryz.ntmps138
  go_wp2
  go_end0
  have hb := ((((((H.out.set 0 (.slice (some ⟨g, 0, none⟩) 4096 4096)).set 1 (.iface X.t X.v)).set 2 (.int .i64 0)).set 3 (.int .i64 0)).set 4 .nilIface).set 5 (.int .i64 (-1))).set 6 (.int .i64 (-1))
  refine ⟨rfl, hb.to rfl, ?_⟩
  have k : ∀ (W : World) (i : Nat) (v : Value), Keeps (In [b]) w W → Keeps (In [b]) w (W.setCell ⟨b, i, none⟩ v) := fun W i v h => h.setCell (.inl (by simp [In])) v
  exact k _ _ _ (k _ _ _ (k _ _ _ (k _ _ _ (k _ _ _ (k _ _ _ (k _ _ _ (Keeps.refl _ _)))))))

/-- What bufio.NewReader leaves. -/
def BnPost (X : Src) (s : List UInt8) (w : World) (e : Ending) (w' : World) : Prop :=
  ∃ b g : Nat, e = .returned (.pointer (some ⟨b, 0, none⟩)) ∧ w.heap.size ≤ b ∧ w.heap.size ≤ g ∧ Rd w' b g X s ∧ Keeps No w w'

set_option maxRecDepth 100000 in
set_option maxHeartbeats 1000000 in
theorem bufNewSize_any (X : Src) (s : List UInt8) (w : World) (hs : X.S w s) (hnb : ∀ w, (Instr.typeAssert (.iface X.t X.v) 131 150 true).run Tryz.prog w = .ok (.tuple #[.pointer none, .bool false]) w) :
    Calls Tryz.prog 101 #[.iface X.t X.v, .int .i64 4096] w (BnPost X s w) := by
  have hmk := run_make_row' (P := Tryz.prog) 85 5 (.int .u8 0) 1 Tryz.underlying85 info_u8 rfl .i64 .i64 4096 (by decide) (by decide)
  rw [made_u8] at hmk
  have hmk2 : ∀ w : World, (Instr.makeSlice 85 (.int .i64 (max 4096 16)) (.int .i64 (max 4096 16))).run Tryz.prog w = .ok (.slice (some ⟨w.heap.size, 0, none⟩) 4096 4096) (w.alloc (.cells (u8s (List.replicate 4096 0)).toArray 5)) := by
    have e : (max (4096 : Int) 16) = ((4096 : Nat) : Int) := by decide
    rw [e]
    exact hmk
  clear hmk
  generalize hl : u8s (List.replicate 4096 0) = l0 at hmk2
  have HL := Lib.hid hl
  have HS := Lib.hid hs
  clear hl hs
  go_enter Tryz.func101, Tryz.ntmps101
  go_wp2_with (fail)
  refine (bufReset_any w.heap.size (w.heap.size + 1) X _ [.slice none 0 0, .nilIface, .int .i64 0, .int .i64 0, .nilIface, .int .i64 0, .int .i64 0] ⟨_, _, _, _, _, _, _, rfl⟩ ((Blk.new w _ _).alloc _)).mono ?_
  rintro e w2 ⟨rfl, hB, K⟩
  have HB := Lib.hid hB
  clear hB hmk2 hnb
  go_wp2
  go_ret
  have hG : Blk ((w.alloc (.cells #[.slice none 0 0, .nilIface, .int .i64 0, .int .i64 0, .nilIface, .int .i64 0, .int .i64 0] 201)).alloc (.cells l0.toArray 5)) (w.heap.size + 1) l0 5 := by
    have := Blk.new (w.alloc (.cells #[.slice none 0 0, .nilIface, .int .i64 0, .int .i64 0, .nilIface, .int .i64 0, .int .i64 0] 201)) l0 5
    simpa using this
  have hl := HL.out
  subst hl
  have KK : Keeps No w w2 := ((((Keeps.refl No w).alloc _).alloc _).of_no.trans' K).mono (fun i hi h => by
    simp [In] at h
    omega)
  have hlt : ∀ x, X.own x → x < w.heap.size := fun x hx => X.lt HS.out hx
  refine ⟨w.heap.size, w.heap.size + 1, rfl, Nat.le_refl _, Nat.le_succ _, ⟨0, 0, s, .nilIface, -1, -1, List.replicate 4096 0, ⟨List.length_replicate .., Nat.le_refl _, Nat.zero_le _, HB.out, hG.keep K (fun h => by simp [In] at h), X.keep_no HS.out KK, fun h => by have := hlt _ h; omega, fun h => by have := hlt _ h; omega, .inl rfl⟩, ?_⟩, KK⟩
  simp [rest]

theorem bufNew_any (X : Src) (s : List UInt8) (w : World) (hs : X.S w s) (hnb : ∀ w, (Instr.typeAssert (.iface X.t X.v) 131 150 true).run Tryz.prog w = .ok (.tuple #[.pointer none, .bool false]) w) :
    Calls Tryz.prog 80 #[.iface X.t X.v] w (BnPost X s w) := by
  go_enter Tryz.func80, Tryz.ntmps80
  go_wp2_with (fail)
  refine (bufNewSize_any X s w hs hnb).mono ?_
  rintro e w2 ⟨b, g, rfl, h⟩
  go_wp2
  go_ret
  exact ⟨b, g, rfl, h⟩
end Go.Proofs.YtjbbapodcngnaaaGreatDoor.G
namespace Go.Proofs.YtjbbapodcngnaaaGreatDoor.G
open Go.RowKit Hdr

/-- The blocks of a reader, and one more. -/
def InD (b g d : Nat) (X : Src) : Nat → Prop := fun k => InX b g X k ∨ k = d

/-- What a Read of bytes in the buffer leaves. -/
def BrPost (b g d o len : Nat) (X : Src) (cs : List Value) (c : List UInt8) (k : Nat) (w : World) (e : Ending) (w' : World) : Prop :=
  e = .returned (.tuple #[.int .i64 (min len k : Nat), .nilIface]) ∧ Bf w' b g X (c.drop (min len k)) (k - min len k) ∧
    Blk w' d (cs.take o ++ u8s (c.take (min len k)) ++ cs.drop (o + min len k)) 5 ∧ Keeps (InD b g d X) w w'

theorem rest_drop {w : World} {b g : Nat} {X : Src} {r q : Nat} {s : List UInt8} {err : Value} {lb lr : Int} {data : List UInt8} (h : RdD w b g X r q s err lb lr data) (n : Nat) (hn : n ≤ q - r) : (rest s r q data).drop n = rest s (r + n) q data := by
  have h1 := h.hd
  have h2 := h.hrq
  have h3 := h.hq
  unfold rest
  rw [List.drop_append_of_le_length (by simp; omega), List.drop_take, List.drop_drop, show q - r - n = q - (r + n) by omega]

set_option maxRecDepth 100000 in
set_option maxHeartbeats 1000000 in
theorem bufRead_buf (b g d o len cap : Nat) (X : Src) (cs : List Value) (w : World) (c : List UInt8) (k : Nat) (h : Bf w b g X c k) (hk : 0 < k) (hd : Blk w d cs 5) (hnd : ¬ InX b g X d) (hlen : 0 < len) (_hcap : len ≤ cap) (hfit : o + len ≤ cs.length) (hcs : cs.length ≤ 1000000) :
    Calls Tryz.prog 247 #[.pointer (some ⟨b, 0, none⟩), .slice (some ⟨d, o, none⟩) len cap] w (BrPost b g d o len X cs c k w) := by
  obtain ⟨r, q, s, err, lb, lr, data, h, hc, hkq⟩ := h
  obtain ⟨h0, h2, h3, h4, h5, h6⟩ := h.cells
  have fz := h.B.frozen
  have H := Lib.hid h
  have HC := Lib.hid hc
  have HKQ := Lib.hid hkq
  have HD := Lib.hid hd
  have hrq := h.hrq
  have hq := h.hq
  have hdd := h.hd
  have hbd : b ≠ d := fun e => hnd (e ▸ InX.b _ _ _)
  have hgd : g ≠ d := fun e => hnd (e ▸ InX.g _ _ _)
  have hxd : ¬ X.own d := fun e => hnd (InX.own e)
  have hbg := h.bg
  obtain ⟨m, hm⟩ : ∃ m, m = min len k := ⟨_, rfl⟩
  have hm1 : 0 < m := by omega
  have hm2 : m ≤ len := by omega
  have hm3 : r + m ≤ q := by omega
  have e1 : ((len : Int) == 0) = false := by simp; omega
  have e1' : (len == 0) = false := by simp; omega
  have e2 : ((r : Int) == (q : Int)) = false := by simp; omega
  have e2' : (r == q) = false := by simp; omega
  have b1 : (r : Int) ≤ q := by omega
  have b2 : (q : Int) ≤ 4096 := by omega
  have hnew : ((data.drop r).take m).length = m := by simp; omega
  have HN := Lib.hid hnew
  have HM := Lib.hid hm
  have HDD := Lib.hid hdd
  clear h hc hkq hd hnew hm hdd
  go_enter Tryz.func247, Tryz.ntmps247
  go_wp2
  go_quiet (fail)
  go_wp2
  refine region_tail 14 (by kernel_rfl) (by kernel_rfl) ?_
  simp only [List.take_succ_cons, List.take_zero, List.drop_succ_cons, List.drop_zero]
  repeat still_step
  refine wpStill_nil ?_
  refine wpList_copy_cells rfl (.tmp 109) (.tmp 122) 85 85 rfl 5 Tryz.underlying85 (by kernel_rfl) d o len cap _ (q - r) (4096 - r) rfl rfl cs 5 (HD.out.drewN _).drew (u8s ((data.drop r).take m)) ?hn ?hsrc ?hfit (u8s_one _) ?_
  case hn => have := HN.out; have := HM.out; have := HKQ.out; rw [u8s_length]; omega
  case hfit => have := HN.out; rw [u8s_length]; omega
  case hsrc =>
    have hb2 := H.out.bytes.cut r m (cap := 4096) (by rw [HDD.out]; exact Nat.le_refl _)
    exact ⟨_, rfl, (hb2.keep (S := No) (((Keeps.refl No w).drewN _).drew) (fun h => h)).cells⟩
  rw [u8s_length, HN.out]
  intro W1 B1 K1
  have K1' : Keeps (In [d]) w W1 := ((Keeps.refl _ w).drewN _).drew.trans' K1
  have R1 : RdD W1 b g X r q s err lb lr data := ⟨HDD.out, hrq, hq, H.out.B.keep K1' (fun h => by simp only [In, List.mem_cons, List.not_mem_nil, or_false] at h; omega), H.out.G.keep K1' (fun h => by simp only [In, List.mem_cons, List.not_mem_nil, or_false] at h; omega), X.keep H.out.S K1' (fun x hx hi => by simp only [In, List.mem_cons, List.not_mem_nil, or_false] at hi; subst hi; exact hxd hx), H.out.nb, H.out.ng, H.out.he⟩
  have HR := Lib.hid R1
  clear h0 h2 h3 h4 h5 h6 fz K1
  obtain ⟨h0, h2, h3, h4, h5, h6⟩ := R1.cells
  have fz := R1.B.frozen
  obtain ⟨t, ht⟩ : ∃ t : Nat, t = r + m := ⟨_, rfl⟩
  have hsum : (r : Int) + m = t := by omega
  have hsum2 : IntKind.i64.wrap ((r : Int) + m) = t := by rw [hsum]; exact IntWalk.i64_in _ (by omega)
  obtain ⟨t1, ht1⟩ : ∃ t1 : Nat, t = t1 + 1 := ⟨t - 1, by omega⟩
  have hsub : (t : Int) - 1 = t1 := by omega
  have hsub2 : IntKind.i64.wrap ((t : Int) - 1) = t1 := by rw [hsub]; exact IntWalk.i64_in _ (by omega)
  have ht1l : t1 < 4096 := by omega
  have hwt1 : IntKind.i64.wrap (t1 : Int) = t1 := IntWalk.i64_in _ (by omega)
  have hwt : IntKind.i64.wrap (t : Int) = t := IntWalk.i64_in _ (by omega)
  have hx := R1.at_ t1 ht1l
  generalize data[t1]'(by rw [R1.hd]; exact ht1l) = xx at hx
  unfold byt at hx
  have hw := w64_u8 xx
  have b3 : (t1 : Int) < 4096 := by omega
  have b4 : (0 : Int) ≤ (t1 : Int) := by omega
  have HT := Lib.hid ht
  have HT1 := Lib.hid ht1
  clear R1 ht ht1
  go_wp2
  refine region_mid 15 (by kernel_rfl) (by kernel_rfl) ?_
  simp only [List.take_succ_cons, List.take_zero, List.drop_succ_cons, List.drop_zero]
  repeat (quiet_step (fail))
  refine wpQuiet_nil ?_
  intro wq hwq
  obtain ⟨nq, rfl⟩ := hwq
  go_wp2
  go_ret2
  have ht := HT.out
  unfold BrPost
  rw [← HM.out]
  refine ⟨rfl, ⟨t, q, s, err, xx.toNat, -1, data, HR.out.to (by repeat (first | assumption | exact Keeps.refl _ _ | apply Keeps.drewN | apply Keeps.drew | apply Keeps.alloc | (refine Keeps.setCell ?_ (.inl (by simp [In])) _))) (by omega) hq ?_, ?_, ?_⟩, ?_, ?_⟩
  · exact ((((HR.out.B.set 2 _).drewN _).set 5 _).set 6 _).to (by simp [brc])
  · rw [← HC.out, rest_drop HR.out m (by omega), ht]
  · have := HKQ.out; omega
  · rw [← HC.out, rest_take HR.out m (by omega)]
    exact (((B1.out.set_other hbd _).drewN _).set_other hbd _).set_other hbd _
  · have k1 : Keeps (InD b g d X) w W1 := K1'.mono (fun x _ h => by simp [In] at h; exact .inr h)
    exact (((k1.setCell (.inl (.inl (InX.b _ _ _))) _).drewN _).setCell (.inl (.inl (InX.b _ _ _))) _).setCell (.inl (.inl (InX.b _ _ _))) _
end Go.Proofs.YtjbbapodcngnaaaGreatDoor.G
namespace Go.Proofs.YtjbbapodcngnaaaGreatDoor.G
open Go.RowKit Hdr

/-- What Read of a bufio.Reader leaves. -/
def BrAny (b g d o len : Nat) (X : Src) (cs : List Value) (c : List UInt8) (w : World) (e : Ending) (w' : World) : Prop :=
  ∃ (n : Nat) (err : Value), e = .returned (.tuple #[.int .i64 n, err]) ∧ n ≤ len ∧ n ≤ c.length ∧ (0 < n ∧ err = .nilIface ∨ n = c.length ∧ err = (.iface 203 (.pointer (some X.ea)))) ∧ Rd w' b g X (c.drop n) ∧
    Blk w' d (cs.take o ++ u8s (c.take n) ++ cs.drop (o + n)) 5 ∧ Keeps (InD b g d X) w w'

theorem rest_eq {s : List UInt8} {r : Nat} {data : List UInt8} {c : List UInt8} (h : rest s r r data = c) : s = c := by rw [← h, rest_same]

set_option maxRecDepth 100000 in
set_option maxHeartbeats 1000000 in
/-- The buffer is empty, and an end has been seen. -/
theorem bufRead_end (b g d o len cap : Nat) (X : Src) (cs : List Value) (w : World) (r : Nat) (s : List UInt8) (lb lr : Int) (data : List UInt8) (h : RdD w b g X r r s (.iface 203 (.pointer (some X.ea))) lb lr data) (hs : s = []) (hd : Blk w d cs 5) (hnd : ¬ InX b g X d) (hlen : 0 < len) :
    Calls Tryz.prog 247 #[.pointer (some ⟨b, 0, none⟩), .slice (some ⟨d, o, none⟩) len cap] w (BrAny b g d o len X cs [] w) := by
  obtain ⟨h0, h2, h3, h4, h5, h6⟩ := h.cells
  have fz := h.B.frozen
  have H := Lib.hid h
  have HD := Lib.hid hd
  have HS := Lib.hid hs
  have hbd : b ≠ d := fun e => hnd (e ▸ InX.b _ _ _)
  have e1 : ((len : Int) == 0) = false := by simp; omega
  have e1' : (len == 0) = false := by simp; omega
  have hrq := h.hrq
  have hq := h.hq
  clear h hd hs
  go_enter Tryz.func247, Tryz.ntmps247
  go_wp2
  go_quiet (fail)
  go_wp2_with (go_at_call 140; refine (readErr_any b _ _ _ (H.out.B.drewN _) rfl).mono ?_; rintro e w3 ⟨rfl, rfl⟩)
  go_ret2
  refine ⟨0, _, rfl, by omega, by simp, .inr ⟨rfl, rfl⟩, ⟨r, r, s, .nilIface, lb, lr, data, H.out.clear (by repeat (first | assumption | exact Keeps.refl _ _ | apply Keeps.drewN | apply Keeps.drew | apply Keeps.alloc | (refine Keeps.setCell ?_ (.inl (by simp [In])) _))) hrq hq (((H.out.B.drewN _).set 4 _).to rfl), by rw [HS.out, rest_same]; rfl⟩, ?_, ?_⟩
  · have := (HD.out.drewN nq).set_other (p := ⟨b, 4, none⟩) hbd .nilIface
    simpa using this
  · exact ((Keeps.refl _ w).drewN _).setCell (.inl (.inl (InX.b _ _ _))) _

set_option maxRecDepth 100000 in
set_option maxHeartbeats 1000000 in
/-- The buffer is empty: a great read goes past it. -/
theorem bufRead_great (b g d o len cap : Nat) (X : Src) (cs : List Value) (w : World) (r : Nat) (s : List UInt8) (lb lr : Int) (data : List UInt8) (h : RdD w b g X r r s .nilIface lb lr data) (hd : Blk w d cs 5) (hnd : ¬ InX b g X d) (hlen : 4096 ≤ len) (hcap : len ≤ cap) (hfit : o + len ≤ cs.length) (hcs : cs.length ≤ 1000000)
    {N : Nat} (E : Env N b g X w) (hdN : N ≤ d) :
    Calls Tryz.prog 247 #[.pointer (some ⟨b, 0, none⟩), .slice (some ⟨d, o, none⟩) len cap] w (BrAny b g d o len X cs s w) := by
  obtain ⟨h0, h2, h3, h4, h5, h6⟩ := h.cells
  have h1 : w.cell? ⟨b, 1, none⟩ = some (.iface X.t X.v) := h.B.cell 1
  have fz := h.B.frozen
  have H := Lib.hid h
  have HD := Lib.hid hd
  have HE := Lib.hid E
  have hbd : b ≠ d := fun e => hnd (e ▸ InX.b _ _ _)
  have hgd : g ≠ d := fun e => hnd (e ▸ InX.g _ _ _)
  have hxd : ¬ X.own d := fun e => hnd (InX.own e)
  have hbg := h.bg
  have e1 : ((len : Int) == 0) = false := by simp; omega
  have e1' : (len == 0) = false := by simp; omega
  have e2 : decide ((4096 : Int) ≤ (len : Int)) = true := decide_eq_true (by omega)
  have hrq := h.hrq
  have hq := h.hq
  have hm := E.ok.meth
  have hen := E.ok.enter
  clear h hd E
  go_enter Tryz.func247, Tryz.ntmps247
  go_wp2
  go_quiet (fail)
  go_wp2_with (fail)
  refine (HE.out.ok.read (o := o) (len := len) (cap := cap) (X.drewN H.out.S _) (HE.out.laid.keep_no ((Keeps.refl No _).drewN _)) (HD.out.drewN _) hxd hdN (by omega) hcap hfit hcs).mono ?_
  rintro e w2 ⟨n, errv, rfl, hn3, hn2, hcase, hS2, B4, K2⟩
  have K2 := K2.drewN_left
  have B5 := H.out.B.keep K2 (fun h => by rcases h with h | h; exact H.out.nb h; exact hbd h)
  have G5 := H.out.G.keep K2 (fun h => by rcases h with h | h; exact H.out.ng h; exact hgd h)
  have KD : Keeps (InD b g d X) w w2 := K2.mono (fun x _ h => by rcases h with h | h; exact .inl (InX.own h); exact .inr h)
  have hn0 : decide ((n : Int) < 0) = false := by simp
  have hwn : IntKind.i64.wrap (n : Int) = n := IntWalk.i64_in _ (by omega)
  have HSS := Lib.hid hS2
  have HB5 := Lib.hid B5
  have HG5 := Lib.hid G5
  have HB4 := Lib.hid B4
  have HC := Lib.hid hcase
  have hev : errv = .nilIface ∨ errv = (.iface 203 (.pointer (some X.ea))) := by rcases hcase with ⟨_, h⟩ | ⟨_, h⟩; exact .inl h; exact .inr h
  have hRD : ∀ (W : World) (k : Keeps (In [b]) w2 W) (e' : Value) (lb' lr' : Int), e' = .nilIface → Blk W b (brc g X r r e' lb' lr') 201 → RdD W b g X r r (s.drop n) e' lb' lr' data := fun W k e' lb' lr' he B =>
    ⟨H.out.hd, hrq, hq, B, HG5.out.keep k (fun h => by simp only [In, List.mem_cons, List.not_mem_nil, or_false] at h; omega), X.keep HSS.out k (fun x hx hi => by simp only [In, List.mem_cons, List.not_mem_nil, or_false] at hi; subst hi; exact H.out.nb hx), H.out.nb, H.out.ng, .inl he⟩
  have HRD := Lib.hid hRD
  clear hRD hS2 B4 h0 h1 h2 h3 h4 h5 h6 fz hcase
  have fz := B5.frozen
  have h0 := B5.cell 0
  have h2 := B5.cell 2
  have h3 := B5.cell 3
  have h4 := B5.cell 4
  have h5 := B5.cell 5
  have h6 := B5.cell 6
  simp only [brc, List.getElem?_cons_zero, List.getElem?_cons_succ] at h0 h2 h3 h4 h5 h6
  clear B5 G5
  rcases hev with rfl | rfl
  all_goals
    by_cases hn : n = 0
    · subst hn
      go_wp2_with (go_at_call 140; refine (readErr_any b _ _ _ (HB5.out.set 4 _) rfl).mono ?_; rintro e w3 ⟨rfl, rfl⟩)
      go_ret2
      refine ⟨0, _, rfl, by omega, by omega, (by rcases HC.out with h | h <;> first | exact .inl ⟨h.1, rfl⟩ | exact .inr ⟨h.1, rfl⟩ | exact absurd h.2 (by simp)), ⟨r, r, _, _, lb, lr, data, HRD.out _ (by repeat (first | assumption | exact Keeps.refl _ _ | apply Keeps.drewN | apply Keeps.drew | apply Keeps.alloc | (refine Keeps.setCell ?_ (.inl (by simp [In])) _))) .nilIface lb lr rfl (((HB5.out.set 4 _).set 4 _).to rfl), rest_same⟩, ?_, ?_⟩
      · exact (HB4.out.set_other hbd _).set_other hbd _
      · exact (KD.setCell (.inl (.inl (InX.b _ _ _))) _).setCell (.inl (.inl (InX.b _ _ _))) _
    · have e3 : decide ((0 : Int) < (n : Int)) = true := decide_eq_true (by omega)
      obtain ⟨t1, ht1⟩ : ∃ t1 : Nat, n = t1 + 1 := ⟨n - 1, by omega⟩
      have hsub : (n : Int) - 1 = t1 := by omega
      have hwt1 : IntKind.i64.wrap (t1 : Int) = t1 := IntWalk.i64_in _ (by omega)
      have hsub2 : IntKind.i64.wrap ((n : Int) - 1) = t1 := by rw [hsub]; exact hwt1
      have b3 : (t1 : Int) < (len : Int) := by omega
      have b4 : (0 : Int) ≤ (t1 : Int) := by omega
      have hcl : (cs.take o).length = o := by rw [List.length_take]; omega
      have ht1s : t1 < s.length := by omega
      have hx : w2.cell? ⟨d, o + t1, none⟩ = some (byt s[t1]) := by
        rw [HB4.out.cell (o + t1), List.append_assoc, List.getElem?_append_right (by omega), hcl, List.getElem?_append_left (by rw [u8s_length, List.length_take]; omega), show o + t1 - o = t1 by omega, u8s_get, List.getElem?_take, if_pos (by omega), List.getElem?_eq_getElem ht1s]
        rfl
      generalize s[t1] = xx at hx
      unfold byt at hx
      have hw := w64_u8 xx
      have HN := Lib.hid ht1
      clear ht1 ht1s hcl
      go_wp2_with (go_at_call 140; refine (readErr_any b _ _ _ (((HB5.out.set 4 _).set 5 _).set 6 _) rfl).mono ?_; rintro e w3 ⟨rfl, rfl⟩)
      go_ret2
      refine ⟨n, _, rfl, by omega, by omega, (by rcases HC.out with h | h <;> first | exact .inl ⟨h.1, rfl⟩ | exact .inr ⟨h.1, rfl⟩ | exact absurd h.2 (by simp)), ⟨r, r, _, _, _, _, data, HRD.out _ (by repeat (first | assumption | exact Keeps.refl _ _ | apply Keeps.drewN | apply Keeps.drew | apply Keeps.alloc | (refine Keeps.setCell ?_ (.inl (by simp [In])) _))) .nilIface xx.toNat (-1) rfl (((((HB5.out.set 4 _).set 5 _).set 6 _).set 4 _).to rfl), rest_same⟩, ?_, ?_⟩
      · exact (((HB4.out.set_other hbd _).set_other hbd _).set_other hbd _).set_other hbd _
      · exact (((KD.setCell (.inl (.inl (InX.b _ _ _))) _).setCell (.inl (.inl (InX.b _ _ _))) _).setCell (.inl (.inl (InX.b _ _ _))) _).setCell (.inl (.inl (InX.b _ _ _))) _
end Go.Proofs.YtjbbapodcngnaaaGreatDoor.G
