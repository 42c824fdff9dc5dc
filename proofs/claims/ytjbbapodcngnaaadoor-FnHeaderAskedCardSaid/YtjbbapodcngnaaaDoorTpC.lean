import Derived.Test.YtjbbapodcngnaaaDoorTpB
namespace Go.Proofs.YtjbbapodcngnaaaDoor
open Go.RowKit Hdr

theorem Rd.lt {w : World} {b g s : Nat} {src : ByteArray} {c : List UInt8} (h : Rd w b g s src c) : b < w.heap.size ∧ g < w.heap.size ∧ s < w.heap.size := by
  obtain ⟨r, q, i, lb, lr, p, data, h, _⟩ := h
  exact ⟨h.B.lt, h.G.lt, h.S.lt⟩

/-- What readContinuedLineSlice leaves. -/
def KvPost (b g s : Nat) (src : ByteArray) (l c : List UInt8) (w : World) (e : Ending) (w' : World) : Prop :=
  ∃ k cap : Nat, e = .returned (.tuple #[.slice (some ⟨k, 0, none⟩) l.length cap, .nilIface]) ∧ OwnS w' w.heap.size k cap l ∧ Rd w' b g s src c ∧ Keeps (In [b, g, s]) w w'

/-- .. at the end of the bytes. -/
def KvEnd (b g s : Nat) (src : ByteArray) (w : World) (e : Ending) (w' : World) : Prop :=
  e = .returned (.tuple #[.slice none 0 0, .nilIface]) ∧ Rd w' b g s src [] ∧ Keeps (In [b, g, s]) w w'

set_option maxRecDepth 100000 in
set_option maxHeartbeats 1000000 in
theorem kv_end (b g s : Nat) (src : ByteArray) (ea : Addr) (w : World) (h : Rd w b g s src []) {N : Nat} (E : Env N b g s src ea w) :
    Calls Tryd.prog 47 #[.pointer (some ⟨b, 0, none⟩)] w (KvEnd b g s src w) := by
  have H := Lib.hid h
  have HE := Lib.hid E
  obtain ⟨hb, hg, hs⟩ := h.lt
  clear h E
  go_enter Tryd.func47, Tryd.ntmps47
  go_wp2_with (at_make; refine wpList_make_b rfl (.const (.int .i64 0)) (.const (.int .i64 256)) rfl w.heap.size 256 256 rfl rfl (by decide) (by decide) (Nat.le_refl _) ?_; intro W0 O0 K0)
  refine (readLineSlice_end w.heap.size b g s src ea _ (H.out.keep K0 (fun h => h) (fun h => h) (fun h => h)) (HE.out.keep_no K0) w.heap.size 256 0 [] rfl O0 hb hg hs).mono ?_
  rintro e w1 ⟨k, cap, rfl, O1, R1, K1⟩
  have hq := eql_err_same w1 ea
  have he := (HE.out.keep_no K0).laid.keep K1 (fun x hx => by
    have := HE.out.hB
    have := HE.out.hG
    have := HE.out.hS
    rcases hx with hx | hx
    · simp at hx; omega
    · omega)
  have h1 := he.eof
  clear he O1
  go_wp2
  go_ret2
  exact ⟨rfl, R1, ((Keeps.of_no K0).trans' K1).down (Nat.le_refl _)⟩

theorem Env.up {N b g s : Nat} {src : ByteArray} {ea : Addr} {w w' : World} (h : Env N b g s src ea w) {base : Nat} (k : Keeps (Up base [b, g, s]) w w') (hb : b < base) : Env N b g s src ea w' :=
  ⟨h.hsz, h.hB, h.hG, h.hS, h.laid.keep k (fun x hx => by
    have := h.hB
    have := h.hG
    have := h.hS
    rcases hx with hx | hx
    · simp at hx; omega
    · omega)⟩

set_option maxRecDepth 100000 in
set_option maxHeartbeats 1000000 in
theorem kv_some (b g s : Nat) (src : ByteArray) (ea : Addr) (w : World) (c : List UInt8) (h : Rd w b g s src c) (hc : c ≠ []) (hsh : Short c) (hlen : c.length ≤ 1000000000) {N : Nat} (E : Env N b g s src ea w) :
    Calls Tryd.prog 47 #[.pointer (some ⟨b, 0, none⟩)] w (KvPost b g s src (kv c).1 (kv c).2 w) := by
  have H := Lib.hid h
  have HE := Lib.hid E
  have HS := Lib.hid hsh
  obtain ⟨hb, hg, hs⟩ := h.lt
  have hll : (line1 c).1.length ≤ 1000000000 := by have := line1_len c; omega
  have hll2 : (line1 c).2.length ≤ 1000000000 := by have := line1_len c; omega
  have hkl := (kv_len c).1
  generalize hkv : kv c = kk at *
  have HK := Lib.hid hkv
  clear h E hsh hkv
  go_enter Tryd.func47, Tryd.ntmps47
  go_wp2_with (at_make; refine wpList_make_b rfl (.const (.int .i64 0)) (.const (.int .i64 256)) rfl w.heap.size 256 256 rfl rfl (by decide) (by decide) (Nat.le_refl _) ?_; intro W0 O0 K0)
  refine (readLineSlice_some w.heap.size b g s src ea _ c (H.out.keep K0 (fun h => h) (fun h => h) (fun h => h)) hc HS.out (HE.out.keep_no K0) w.heap.size 256 0 [] rfl O0 hb hg hs K0.size (by simp)).mono ?_
  rintro e w1 ⟨k, cap, rfl, O1, R1, K1⟩
  have K2 := (Keeps.of_no (T := Up w.heap.size [b, g, s]) K0).trans' K1
  have h1 := (HE.out.up K2 hb).laid.eof
  have hq := fun (w : World) (v : Value) => run_eql_iface_nil_left (P := Tryd.prog) w 109 v Tryd.underlying49
  rw [List.nil_append] at O1 ⊢
  have HS2 := Lib.hid HS.out.line
  clear HS K1
  have hkv : (if (line1 c).1 = [] then ([], (line1 c).2) else ((line1 c).1 ++ [13, 10] ++ (conts (line1 c).2).1, (conts (line1 c).2).2)) = kk := HK.out
  clear HK
  generalize (line1 c).1 = L at *
  generalize (line1 c).2 = M at *
  by_cases hL : L = []
  · subst hL
    rw [if_pos rfl] at hkv
    subst hkv
    go_wp2
    go_ret2
    exact ⟨k, cap, rfl, O1, R1, K2.down (Nat.le_refl _)⟩
  · rw [if_neg hL] at hkv
    have HK := Lib.hid hkv
    clear hkv
    have hL1 : 0 < L.length := List.length_pos_iff.2 hL
    have hL2 : ((L.length : Int) == 0) = false := by simp; omega
    have hL3 : (L.length == 0) = false := by simp; omega
    have HL := Lib.hid hL
    clear hL
    have HO := Lib.hid O1
    clear O1
    go_wp2_with (at_builtin; refine wpList_append_b rfl (.tmp 27) (.tmp 28) rfl w.heap.size k cap L.length L rfl rfl (HO.out.keep ((Keeps.refl No _).alloc _) (fun h => h)) ⟨w1.heap.size, 0, none⟩ 2 2 [13, 10] rfl rfl (BytesAt.of_blk (Blk.new w1 [.int .u8 13, .int .u8 10] 5) (by rfl)).cells (by omega) (by have := K2.size; simp; omega) ?_; intro k2 cap2 W2 O2 K3)
    have K4 : Keeps (Up w.heap.size [b, g, s]) w W2 := ((K2.alloc _).trans' (K3.up_one HO.out.ge))
    have hkk := HO.out.ge
    have R2 := (R1.keep ((Keeps.refl No _).alloc _) (fun h => h) (fun h => h) (fun h => h)).keep K3 (fun h => by simp only [In, List.mem_cons, List.not_mem_nil, or_false] at h; omega) (fun h => by simp only [In, List.mem_cons, List.not_mem_nil, or_false] at h; omega) (fun h => by simp only [In, List.mem_cons, List.not_mem_nil, or_false] at h; omega)
    go_loopg [4, 5] M.length (fun n s4 s5 wr => ∃ (k3 cap3 : Nat) (l c' : List UInt8), s4 = .slice (some ⟨k3, 0, none⟩) l.length cap3 ∧ s5 = .nilIface ∧ OwnS wr w.heap.size k3 cap3 l ∧ Rd wr b g s src c' ∧ Short c' ∧ l ++ (conts c').1 = kk.1 ∧ (conts c').2 = kk.2 ∧ n = c'.length ∧
      c'.length ≤ 1000000000 ∧ Keeps (Up w.heap.size [b, g, s]) w wr)
    case atStart => exact ⟨k2, cap2, L ++ [13, 10], M, by simp, rfl, O2, R2, HS2.out, by rw [← HK.out], by rw [← HK.out], rfl, hll2, K4⟩
    case round =>
      obtain ⟨k3, cap3, l, c', rfl, rfl, O3, R3, S3, e1, e2, hn, hc', K5⟩ := hrel
      have HO3 := Lib.hid O3
      have HR3 := Lib.hid R3
      have HS3 := Lib.hid S3
      have HE1 := Lib.hid e1
      have HE2 := Lib.hid e2
      have HN := Lib.hid hn
      have HEnv := Lib.hid (HE.out.up K5 hb)
      clear O3 R3 S3 e1 e2 hn
      go_wp2_with (fail)
      refine (hasCont b g s src ea wr c' HR3.out HEnv.out).mono ?_
      rintro e w3 ⟨rfl, R4, K6⟩
      have O4 := HO3.out.keep K6 (by have := HO3.out.ge; exact (fun h => by simp only [In, List.mem_cons, List.not_mem_nil, or_false] at h; omega))
      have HR4 := Lib.hid R4
      have HO4 := Lib.hid O4
      clear R4 O4
      cases hsp : spHead c' with
      | false =>
        have HSP := Lib.hid hsp
        clear hsp
        go_wp2
        go_ret2
        have h1 := HE1.out
        have h2 := HE2.out
        rw [conts_no HSP.out] at h1 h2
        simp only [List.append_nil] at h1
        subst h1
        simp only [] at h2
        subst h2
        exact ⟨k3, cap3, rfl, HO4.out, HR4.out, (K5.trans' K6.up).down (Nat.le_refl _)⟩
      | true =>
        have HSP := Lib.hid hsp
        clear hsp
        go_wp2_with (fail)
        have hl3 : l.length ≤ 3000000002 := by
          have h1 := congrArg List.length HE1.out
          simp at h1
          omega
        have hll3 : (line1 c').1.length ≤ 1000000000 := by have := line1_len c'; omega
        have hlt := line1_lt (spHead_ne HSP.out)
        refine (readLineSlice_some w.heap.size b g s src ea _ c' HR4.out (spHead_ne HSP.out) HS3.out (HEnv.out.keep3 K6) k3 cap3 l.length l rfl HO4.out hb hg hs (by have := K5.size; have := K6.size; omega) (by omega)).mono ?_
        rintro e w4 ⟨k4, cap4, rfl, O5, R5, K7⟩
        have hC := conts_yes HSP.out
        have HS4 := Lib.hid HS3.out.line
        generalize (line1 c').1 = L' at *
        generalize (line1 c').2 = M' at *
        have HC := Lib.hid hC
        clear hC
        have K8 : Keeps (Up w.heap.size [b, g, s]) w w4 := (K5.trans' K6.up).trans' K7
        have hk4 := O5.ge
        have HO5 := Lib.hid O5
        clear O5
        go_wp2_with (at_builtin; refine wpList_append_b rfl (.tmp 40) (.tmp 41) rfl w.heap.size k4 cap4 (l.length + L'.length) (l ++ L') rfl (by simp) (HO5.out.keep ((Keeps.refl No _).alloc _) (fun h => h)) ⟨w4.heap.size, 0, none⟩ 2 2 [13, 10] rfl rfl (BytesAt.of_blk (Blk.new w4 [.int .u8 13, .int .u8 10] 5) (by rfl)).cells (by omega) (by have := K8.size; simp; omega) ?_; intro k5 cap5 W5 O6 K9)
        have K10 : Keeps (Up w.heap.size [b, g, s]) w W5 := ((K8.alloc _).trans' (K9.up_one hk4))
        have R6 := (R5.keep ((Keeps.refl No _).alloc _) (fun h => h) (fun h => h) (fun h => h)).keep K9 (fun h => by simp only [In, List.mem_cons, List.not_mem_nil, or_false] at h; omega) (fun h => by simp only [In, List.mem_cons, List.not_mem_nil, or_false] at h; omega) (fun h => by simp only [In, List.mem_cons, List.not_mem_nil, or_false] at h; omega)
        go_roundg M'.length
        case measure => have := HN.out; omega
        case rel =>
          have h1 := HE1.out
          have h2 := HE2.out
          rw [HC.out] at h1 h2
          exact ⟨k5, cap5, l ++ L' ++ [13, 10], M', by simp; omega, rfl, O6, R6, HS4.out, by rw [← h1]; simp, h2, rfl, by omega, K10⟩
end Go.Proofs.YtjbbapodcngnaaaDoor
