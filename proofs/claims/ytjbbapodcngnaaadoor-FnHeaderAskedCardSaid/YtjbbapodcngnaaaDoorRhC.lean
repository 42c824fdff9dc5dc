/- ReadHeader: the loop. -/
import Derived.Test.YtjbbapodcngnaaaDoorRhB
namespace Go.Proofs.YtjbbapodcngnaaaDoor
open Go.RowKit Hdr

theorem kv_Short {c : List UInt8} (h : Short c) : Short (kv c).2 := h.tail (kv_suffix c)

theorem Fds.nil (w : World) (lo hi : Nat) : Fds w lo hi [] := fun f hf => by cases hf
theorem OwnS.typed {w : World} {base g cap : Nat} {l : List UInt8} (h : OwnS w base g cap l) : Typed w g 5 := by
  obtain ⟨_, _, _, cur, hb, _, _⟩ := h
  exact hb.typed

set_option maxRecDepth 100000 in
set_option maxHeartbeats 1000000 in
theorem readHeader_some (b g s : Nat) (src : ByteArray) (ea : Addr) (w : World) (x : UInt8) (c : List UInt8) (h : Rd w b g s src (x :: c)) (hx : sp x = false) (hs : Short (x :: c)) (hlen : c.length + 1 ≤ 1000000) {N : Nat} (E : Env N b g s src ea w) :
    Calls Tryd.prog 34 #[.pointer (some ⟨b, 0, none⟩)] w (RhPost b g s src (rh (x :: c)) w) := by
  have H := Lib.hid h
  have HE := Lib.hid E
  have HX := Lib.hid hx
  have HS := Lib.hid hs
  obtain ⟨hb, hg, hs'⟩ := h.lt
  generalize hrr : rh (x :: c) = rr
  have HRR := Lib.hid hrr
  clear h E hx hs hrr
  go_enter Tryd.func34, Tryd.ntmps34
  go_wp2_with (at_make; refine wpList_make_p rfl (.const (.int .i64 0)) (.const (.int .i64 32)) rfl w.heap.size 32 32 rfl rfl (by decide) (by decide) (by simp) ?_; intro W0 O0 K0)
  rw [show (w.alloc (.cells #[.slice none 0 0, .map none] 45)).heap.size = w.heap.size + 1 by simp] at O0
  have K00 : Keeps No w W0 := ((Keeps.refl No w).alloc _).trans' K0
  have hB0 : Blk W0 w.heap.size [.slice none 0 0, .map none] 45 := (Blk.new w _ _).keep_no K0
  have R0 := H.out.keep K00 (fun h => h) (fun h => h) (fun h => h)
  have E0 := HE.out.keep_no K00
  refine (peek_some b g s src ea W0 x c R0 E0).mono ?_
  rintro e w1 ⟨o1, cap1, rfl, hc1, R1, K1⟩
  unfold byt at hc1
  have O1 := O0.keep K1 (fun h => by simp [In] at h; omega)
  have hB1 := hB0.keep K1 (fun h => by simp [In] at h; omega)
  have HO1 := Lib.hid O1
  have HB1 := Lib.hid hB1
  have HR1 := Lib.hid R1
  have hsz0 : w.heap.size + 1 < W0.heap.size := O0.lt
  clear O0 O1 hB0 hB1 E0 R1
  go_wp2_with (fail)
  refine (isSpace_any x _).mono ?_
  rintro e w2 ⟨rfl, rfl⟩
  have hx := HX.out
  rw [hx]
  clear hx hc1
  go_wp2
  go_loopg [4] (c.length + 1) (fun n s4 wr => ∃ (lb cap : Nat) (fs : List Fd) (ps : List PF) (c' : List UInt8), s4 = .slice (some ⟨lb, 0, none⟩) fs.length cap ∧ PO wr w.heap.size lb cap (fs.map (·.blk)) ∧ w.heap.size < lb ∧ Fds wr w.heap.size wr.heap.size fs ∧ Tells fs ps ∧ Rd wr b g s src c' ∧ Short c' ∧
    rr = (rh c').map (fun r => (ps ++ r.1, r.2)) ∧ Keeps (Up w.heap.size [b, g, s]) w wr ∧ Blk wr w.heap.size [.slice none 0 0, .map none] 45 ∧ n = c'.length ∧ fs.length + c'.length ≤ c.length + 1)
  case atStart =>
    have h1 : rr = (rh (x :: c)).map (fun r => ([] ++ r.1, r.2)) := by rw [← HRR.out]; simp
    exact ⟨w.heap.size + 1, 32, [], [], x :: c, rfl, HO1.out, by omega, Fds.nil _ _ _, trivial, HR1.out, HS.out, h1, K00.of_no.trans' K1.up, HB1.out, rfl, by simp⟩
  case round =>
    obtain ⟨lb, cap, fs, ps, c', rfl, hPO, hlb, hF, hT, hR, hS, hrr, K, hB, hnn, hbd⟩ := hrel
    have HPO := Lib.hid hPO
    have HF := Lib.hid hF
    have HT := Lib.hid hT
    have HRR2 := Lib.hid hrr
    have HNN := Lib.hid hnn
    have HBD := Lib.hid hbd
    have hlbs := hPO.lt
    have hfl : fs.length ≤ 1000000 := by omega
    have Er := HE.out.up K hb
    have hLl := kv_len c'
    have hLs := kv_Short hS
    have hc'l : c'.length ≤ 1000000 := by omega
    clear hPO hF hT hrr hnn hbd
    go_wp2_with (fail)
    refine (kv_any b g s src ea wr c' hR hS (by omega) Er).mono ?_
    rintro e w4 ⟨a4, cap4, rfl, R4, K4, hO4⟩
    have PO4 := HPO.out.keep K4 (fun h => by simp [In] at h; omega)
    have F4 := (HF.out.keep K4 (fun x h => by simp [In] at h; omega)).mono K4.size
    have HB := Lib.hid (hB.keep K4 (fun h => by simp [In] at h; omega))
    have K14 : Keeps (Up w.heap.size [b, g, s]) w w4 := K.trans' K4.up
    have HPO4 := Lib.hid PO4
    have HF4 := Lib.hid F4
    clear PO4 F4 hB HPO HF Er hR
    by_cases hL : (kv c').1 = []
    · have hrh := rh_end hL
      have e1 : (kv c').1.length = 0 := by rw [hL]; rfl
      rw [e1]
      have HRH := Lib.hid hrh
      clear hrh hL hO4 e1
      generalize (kv c').2 = M at *
      go_wp2_with (fail)
      refine (newHeader_any lb cap w.heap.size w4.heap.size fs fs.length rfl w4 HPO4.out.own HF4.out (Nat.le_refl _) hfl).mono ?_
      rintro e w5 ⟨m5, rfl, hpo5, hm5, k5⟩
      have hB5 := HB.out.keep k5 (fun h => by simp [In] at h; omega)
      have fz5 := hB5.frozen
      have c50 : w5.cell? ⟨w.heap.size, 0, none⟩ = some (.slice none 0 0) := hB5.cell 0
      have c51 : w5.cell? ⟨w.heap.size, 1, none⟩ = some (.map none) := hB5.cell 1
      have HB5 := Lib.hid hB5
      clear hB5
      go_wp2
      refine bodyPost_ret (results_row_tmp rfl _ _ w.heap.size _ rfl (load_hdr _ _ _ _ ((HB5.out.set 0 _).set 1 _))) rfl ?_
      have hrr2 : rr = some (ps, M) := by rw [HRR2.out, HRH.out]; simp
      rw [hrr2]
      have hcap : fs.length ≤ cap := by have := HPO4.out.2.1; simpa using this
      exact rh_end_post hb hg hs' (by omega) (by omega) hcap K14 R4 HF4.out HT.out HPO4.out.own.ptrs.typed HB.out hpo5 hm5 k5 _ _
    · obtain ⟨k, rfl, O4⟩ := hO4 hL
      have hlt := kv_lt hL
      have hL1 : 0 < (kv c').1.length := List.length_pos_iff.2 hL
      have hno := rh_no hL
      have hbad := fun b x => @rh_bad c' b x hL
      have hskip := fun b x => @rh_skip c' b x hL
      have hmore := fun b x => @rh_more c' b x hL
      have hrec : ∀ r, rh c' = r → rh c' = r := fun _ h => h
      generalize hkv1 : (kv c').1 = L at *
      generalize hkv2 : (kv c').2 = M at *
      have HNO := Lib.hid hno
      have HBAD := Lib.hid hbad
      have HSKIP := Lib.hid hskip
      have HMORE := Lib.hid hmore
      have HO4 := Lib.hid O4
      have hk := O4.ge
      have hkl := O4.lt
      have hL3 : ((L.length : Int) == 0) = false := by simp; omega
      have hL4 : (L.length == 0) = false := by simp; omega
      clear hno hbad hskip hmore O4 hO4 hL hkv1 hkv2 hrec
      go_wp2_with (fail)
      refine (indexByte_any k 0 cap4 L 58 w4 HO4.out.bytes).mono ?_
      rintro e w4' ⟨rfl, rfl⟩
      have hdw := colon_split L
      have hcn := colon_no L
      cases hdr : L.dropWhile (· != 58) with
      | nil =>
        have hcl : (58 : UInt8) ∉ L := by
          rw [hdr, List.append_nil] at hdw
          rw [← hdw] at hcn
          exact hcn
        have HRH := Lib.hid (HNO.out hdr)
        have hix := ixb_none hcl
        rw [hix]
        clear hdr hcl hix hdw hcn
        go_wp2_with (fail)
        refine (newHeader_any lb cap w.heap.size w4'.heap.size fs fs.length rfl w4' HPO4.out.own HF4.out (Nat.le_refl _) hfl).mono ?_
        rintro e w5 ⟨m5, rfl, hpo5, hm5, k5⟩
        have hB5 := HB.out.keep k5 (fun h => by simp [In] at h; omega)
        have HB5 := Lib.hid hB5
        clear hB5
        go_wp2_with (fail)
        refine (errorsNew_any _ w5).mono ?_
        rintro e w6 ⟨eb, rfl, k6⟩
        have hB6 := HB5.out.keep_no k6
        have fz6 := hB6.frozen
        have c60 : w6.cell? ⟨w.heap.size, 0, none⟩ = some (.slice none 0 0) := hB6.cell 0
        have c61 : w6.cell? ⟨w.heap.size, 1, none⟩ = some (.map none) := hB6.cell 1
        have HB6 := Lib.hid hB6
        clear hB6
        go_wp2
        refine bodyPost_ret (results_row_tmp rfl _ _ w.heap.size _ rfl (load_hdr _ _ _ _ ((HB6.out.set 0 _).set 1 _))) rfl ?_
        have hrr2 : rr = none := by rw [HRR2.out, HRH.out]; rfl
        rw [hrr2]
        have kk : Keeps (Up w.heap.size [b, g, s]) w4' w5 := k5.mono (fun x _ h => .inr (by simp [In] at h; omega))
        refine rh_bad_post (c := M) ?_ ((((K14.trans' kk).trans_no k6).setCell (.inr (Nat.le_refl _)) _).setCell (.inr (Nat.le_refl _)) _)
        have k7 : Keeps (In [lb, w.heap.size]) w4' ((w6.setCell ⟨w.heap.size, 0, none⟩ (.slice (some ⟨lb, 0, none⟩) fs.length cap)).setCell ⟨w.heap.size, 1, none⟩ (.map m5)) :=
          (((k5.mono (fun x _ h => by simp [In] at h; simp [In, h])).trans_no k6).setCell (.inl (by simp [In])) _).setCell (.inl (by simp [In])) _
        exact R4.keep k7 (fun h => by simp [In] at h; omega) (fun h => by simp [In] at h; omega) (fun h => by simp [In] at h; omega)
      | cons y B =>
        obtain rfl := colon_head hdr
        have HDR := Lib.hid hdr
        rw [hdr] at hdw
        generalize hA : L.takeWhile (· != 58) = A at *
        have hix : Lib.indexByte L 58 = A.length := by
          rw [hdw]
          exact ixb_some hcn
        rw [hix]
        have hLA : L.length = A.length + 1 + B.length := by rw [hdw]; simp; omega
        have hAt : L.take A.length = A := by rw [hdw, List.take_left]
        have hBd : L.drop (A.length + 1) = B := by rw [hdw, List.drop_append, List.drop_eq_nil_of_le (Nat.le_succ _)]; simp
        have hLc := HO4.out.le
        have hbA : BytesAt w4' k 0 A := by have := HO4.out.bytes.take A.length; rwa [hAt] at this
        have hBc : BytesAt w4' k (cutAt 0 (A.length + 1) cap4 1) B := by
          have := HO4.out.bytes.cut_l (A.length + 1) hLc
          rwa [hBd] at this
        have h1 : decide ((A.length : Int) < 0) = false := decide_eq_false (by omega)
        have h2 : (A.length : Int) ≤ (cap4 : Int) := by omega
        have h3 : IntKind.i64.wrap ((A.length : Int) + 1) = (A.length : Int) + 1 := by rw [IntKind.wrap_i64]; omega
        have h4 : (A.length : Int) + 1 ≤ (L.length : Int) := by omega
        have h0 : (0 : Int) ≤ (A.length : Int) := by omega
        have h5 : (0 : Int) ≤ (A.length : Int) + 1 := by omega
        have HBC := Lib.hid hBc
        have HLA := Lib.hid hLA
        have HDW := Lib.hid hdw
        have HA := Lib.hid hA
        have htl := trim_len A
        clear hdr hcn hdw hix hAt hBd hBc hA hLA
        go_wp2_with (fail)
        refine (trim_any k 0 cap4 A A.length rfl w4' hbA (by omega) (by omega)).mono ?_
        rintro e w4'' ⟨o5, cap5, rfl, hc5, hbT, rfl⟩
        have hbad2 := HBAD.out B 58 HDR.out
        have hskip2 := HSKIP.out B 58 HDR.out
        have hmore2 := HMORE.out B 58 HDR.out
        generalize hTT : trim A = T at *
        have HBT := Lib.hid hbT
        have HBAD2 := Lib.hid hbad2
        have HSKIP2 := Lib.hid hskip2
        have HMORE2 := Lib.hid hmore2
        clear hTT hbT hbad2 hskip2 hmore2 HBAD HSKIP HMORE HNO
        go_wp2
        go_loopg [69] T.length (fun n s69 wx => ∃ j : Nat, s69 = .int .i64 j ∧ j + n = T.length ∧ (T.take j).all keyb = true ∧ w4'' = wx)
        case atStart => exact ⟨0, rfl, by omega, by simp, rfl⟩
        case round =>
          obtain ⟨j, rfl, hjn, hjk, rfl⟩ := hrel
          have HJK := Lib.hid hjk
          have HJN := Lib.hid hjn
          have hjle : j ≤ T.length := by omega
          clear hjk hjn
          by_cases hj : j < T.length
          · have hxx := HBT.out.cell hj
            have htk : T.take (j + 1) = T.take j ++ [T[j]] := List.take_succ_eq_append_getElem hj
            have hall : T.all keyb = true → keyb T[j] = true := fun h => by
              rw [List.all_eq_true] at h
              exact h _ (List.getElem_mem _)
            have hjj : (j : Int) < (T.length : Int) := by omega
            generalize hcc : T[j] = cc at *
            have HTK := Lib.hid htk
            clear hcc htk
            unfold byt at hxx
            go_wp2_with (fail)
            refine (validKey_any cc _).mono ?_
            rintro e w4x ⟨rfl, rfl⟩
            cases hkb : keyb cc with
            | true =>
              have HKB := Lib.hid hkb
              clear hkb hall
              go_wp2
              go_roundg (gk - 1)
              case measure => have := HJN.out; omega
              case rel =>
                refine ⟨j + 1, by simp, by have := HJN.out; omega, ?_, rfl⟩
                rw [HTK.out, List.all_append, HJK.out]
                simp [HKB.out]
            | false =>
              have hf : T.all keyb = false := by
                cases h : T.all keyb with
                | false => rfl
                | true => rw [hall h] at hkb; cases hkb
              have HRH := Lib.hid (HBAD2.out hf)
              clear hkb hall hf
              go_wp2_with (fail)
              refine (newHeader_any lb cap w.heap.size w4x.heap.size fs fs.length rfl w4x HPO4.out.own HF4.out (Nat.le_refl _) hfl).mono ?_
              rintro e w5 ⟨m5, rfl, hpo5, hm5, k5⟩
              have hB5 := HB.out.keep k5 (fun h => by simp [In] at h; omega)
              have HB5 := Lib.hid hB5
              clear hB5
              go_wp2_with (fail)
              refine (errorsNew_any _ w5).mono ?_
              rintro e w6 ⟨eb, rfl, k6⟩
              have hB6 := HB5.out.keep_no k6
              have fz6 := hB6.frozen
              have c60 : w6.cell? ⟨w.heap.size, 0, none⟩ = some (.slice none 0 0) := hB6.cell 0
              have c61 : w6.cell? ⟨w.heap.size, 1, none⟩ = some (.map none) := hB6.cell 1
              have HB6 := Lib.hid hB6
              clear hB6
              go_wp2
              refine bodyPost_ret (results_row_tmp rfl _ _ w.heap.size _ rfl (load_hdr _ _ _ _ ((HB6.out.set 0 _).set 1 _))) rfl ?_
              have hrr2 : rr = none := by rw [HRR2.out, HRH.out]; rfl
              rw [hrr2]
              have kk : Keeps (Up w.heap.size [b, g, s]) w4x w5 := k5.mono (fun x _ h => .inr (by simp [In] at h; omega))
              refine rh_bad_post (c := M) ?_ ((((K14.trans' kk).trans_no k6).setCell (.inr (Nat.le_refl _)) _).setCell (.inr (Nat.le_refl _)) _)
              have k7 : Keeps (In [lb, w.heap.size]) w4x ((w6.setCell ⟨w.heap.size, 0, none⟩ (.slice (some ⟨lb, 0, none⟩) fs.length cap)).setCell ⟨w.heap.size, 1, none⟩ (.map m5)) :=
                (((k5.mono (fun x _ h => by simp [In] at h; simp [In, h])).trans_no k6).setCell (.inl (by simp [In])) _).setCell (.inl (by simp [In])) _
              exact R4.keep k7 (fun h => by simp [In] at h; omega) (fun h => by simp [In] at h; omega) (fun h => by simp [In] at h; omega)
          · have hjT : j = T.length := by omega
            have hall : T.all keyb = true := by have := HJK.out; rwa [hjT, List.take_length] at this
            have HALL := Lib.hid hall
            have e9 : decide (j < T.length) = false := decide_eq_false hj
            clear hjT hall
            have hcv := run_string_of w4'' k o5 cap5 T T.length rfl HBT.out
            have hcl := canon_len T
            unfold str at hcv
            go_wp2_with (fail)
            refine (canonicalKey_any T w4'' (by omega)).mono ?_
            rintro e w5 ⟨rfl, K5⟩
            by_cases hT0 : T = []
            · have hcT : canon T = [] := List.length_eq_zero_iff.1 (by rw [hcl, hT0]; rfl)
              have HRH := Lib.hid (HSKIP2.out hT0)
              have heq : (canon T).isEmpty = true := by rw [hcT]; rfl
              clear hT0 hcT
              go_wp2
              go_roundg M.length
              case measure => have := HNN.out; omega
              case rel =>
                have hsz5 := K5.size
                refine ⟨lb, cap, fs, ps, M, rfl, HPO4.out.keep K5 (fun h => h), hlb, (HF4.out.keep K5 (fun x h => h.elim)).mono hsz5, HT.out, R4.keep K5 (fun h => h) (fun h => h) (fun h => h), hLs, by rw [HRR2.out, HRH.out], K14.trans_no K5, HB.out.keep_no K5, rfl, by have := HBD.out; omega⟩
            · have hcT : canon T ≠ [] := fun h => hT0 (List.length_eq_zero_iff.1 (by rw [← hcl, h]; rfl))
              have heq : (canon T).isEmpty = false := by cases h : canon T with | nil => exact absurd h hcT | cons _ _ => rfl
              have HT0 := Lib.hid hT0
              clear hT0 hcT
              go_wp2_with (fail)
              have hbB : BytesAt w5 k (cutAt 0 (A.length + 1) cap4 1) B := HBC.out.keep K5 (fun h => h)
              refine (tan_any k (cutAt 0 (A.length + 1) cap4 1) (cap4 - (A.length + 1)) B (L.length - (A.length + 1)) (by have := HLA.out; omega) w5 hbB (by have := HLA.out; omega) (by have := HLA.out; omega)).mono ?_
              rintro e w6 ⟨rfl, K6⟩
              go_wp2_with (fail)
              refine (newHeaderField_any (canon T) (joins [] B) (.slice (some ⟨k, 0, none⟩) L.length cap4) ⟨_, _, _, rfl⟩ w6 (by omega)).mono ?_
              rintro e w7 ⟨fb, rfl, hfb1, hfb2, hBf, K7⟩
              have K47 : Keeps No w4'' w7 := (K5.trans' K6).trans' K7
              have PO7 := HPO4.out.keep K47 (fun h => h)
              have hsz7 := K47.size
              have hsz56 := (K5.trans' K6).size
              have HBf := Lib.hid hBf
              clear hBf
              have hc1 : ∀ j u, (ptrs [fb])[j]? = some u → (w7.alloc (.cells #[.pointer (some ⟨fb, 0, none⟩)] 67)).cell? ((⟨w7.heap.size, 0, none⟩ : Addr).add j) = some u := fun j u hj => by
                match j, hj with
                | 0, hj => simp [ptrs] at hj; subst hj; simp [Addr.add]
                | j + 1, hj => simp [ptrs] at hj
              have HC1 := Lib.hid hc1
              clear hc1
              go_wp2_with (at_builtin; refine wpList_append_p rfl (.tmp 92) (.tmp 97) rfl w.heap.size lb cap fs.length (fs.map (·.blk)) rfl (by simp) (PO7.keep ((Keeps.refl No _).alloc _) (fun h => h)) ⟨w7.heap.size, 0, none⟩ 1 1 [fb] rfl rfl HC1.out (by omega) (by have := K14.size; simp; omega) ?_; intro g8 cap8 W8 O8 K8 hg8)
              have HO8 := Lib.hid O8
              clear O8
              go_wp2
              go_roundg M.length
              case measure => have := HNN.out; omega
              case rel =>
                have hfl2 : fb ≠ lb := by omega
                have hkl2 : k ≠ lb := by omega
                have KA : Keeps No w4'' (w7.alloc (.cells #[.pointer (some ⟨fb, 0, none⟩)] 67)) := K47.alloc _
                have KB : Keeps (In [lb]) w4'' W8 := (KA.of_no).trans' K8
                have hszB := KB.size
                have hsz8 := K8.size
                have hszA : w7.heap.size + 1 ≤ W8.heap.size := by simpa using hsz8
                have hszr := K4.size
                have hsz0 := K.size
                have hFd : FdAt W8 w.heap.size W8.heap.size ⟨fb, canon (canon T), joins [] B, some L, .slice (some ⟨k, 0, none⟩) L.length cap4⟩ := by
                  refine ⟨?_, ?_, ?_, ?_⟩
                  · show w.heap.size ≤ fb; omega
                  · show fb < W8.heap.size; omega
                  · exact (HBf.out.alloc _).keep K8 (fun h => by simp [In] at h; omega)
                  · exact ⟨k, 0, cap4, rfl, hLc, by omega, by omega, HO4.out.bytes.keep KB (fun h => by simp [In] at h; omega), HO4.out.typed.keep KB (fun h => by simp [In] at h; omega)⟩
                have hF8 : Fds W8 w.heap.size W8.heap.size fs := (HF4.out.keep_lb HPO4.out.own.ptrs.typed (KB.mono (fun x _ h => by simp [In] at h; exact .inl h)) (Nat.le_refl _)).mono hszB
                refine ⟨g8, cap8, fs ++ [⟨fb, canon (canon T), joins [] B, some L, .slice (some ⟨k, 0, none⟩) L.length cap4⟩], ps ++ [⟨canon (canon T), joins [] B, L⟩], M, ?_, ?_, ?_, ?_, HT.out.snoc ⟨rfl, rfl, rfl⟩, ?_, hLs, ?_, ?_, ?_, rfl, ?_⟩
                · simp
                · simpa using HO8.out
                · rcases hg8 with rfl | hg8
                  · exact hlb
                  · simp at hg8; omega
                · intro f hf
                  rcases List.mem_append.1 hf with hf | hf
                  · exact hF8 f hf
                  · simp at hf; subst hf; exact hFd
                · exact R4.keep KB (fun h => by simp [In] at h; omega) (fun h => by simp [In] at h; omega) (fun h => by simp [In] at h; omega)
                · rw [HRR2.out, HMORE2.out HALL.out HT0.out]
                  cases rh M with
                  | none => rfl
                  | some r => simp
                · exact K14.trans' (KB.mono (fun x _ h => .inr (by simp [In] at h; omega)))
                · exact HB.out.keep KB (fun h => by simp [In] at h; omega)
                · have := HBD.out; simp; omega
end Go.Proofs.YtjbbapodcngnaaaDoor
