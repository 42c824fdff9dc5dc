/- Readers over any source: what a source is, and fill over it.    -/
import Derived.Test.YtjbbapodcngnaaaGreatDoorZsac
import Derived.Deep.CutBlock
namespace Go.Proofs.YtjbbapodcngnaaaGreatDoor.G
open Go.RowKit Hdr

/-- What hands out bytes behind an io.Reader: the value in the interface, the method, the blocks that are its own, and what is still to come of it. -/
structure Src where
  ea : Addr
  t : TypeId
  v : Value
  f : FuncId
  recv : Value
  own : Nat → Prop
  S : World → List UInt8 → Prop
  keep : ∀ {T : Nat → Prop} {w w' : World} {s : List UInt8}, S w s → Keeps T w w' → (∀ x, own x → ¬ T x) → S w' s
  lt : ∀ {w : World} {s : List UInt8} {x : Nat}, S w s → own x → x < w.heap.size
  small : ∀ {w : World} {s : List UInt8}, S w s → s.length ≤ 1000000000

/-- What a call of Read leaves. -/
def ReadPost (X : Src) (g o len : Nat) (cs : List Value) (s : List UInt8) (w : World) (e : Ending) (w' : World) : Prop :=
  ∃ (n : Nat) (err : Value), e = .returned (.tuple #[.int .i64 n, err]) ∧ n ≤ len ∧ n ≤ s.length ∧ (0 < n ∧ err = .nilIface ∨ n = s.length ∧ err = (.iface 203 (.pointer (some X.ea)))) ∧ X.S w' (s.drop n) ∧
    Blk w' g (cs.take o ++ u8s (s.take n) ++ cs.drop (o + n)) 5 ∧ Keeps (fun k => X.own k ∨ k = g) w w'

/-- A source that behaves. -/
structure Src.Ok (X : Src) (N : Nat) : Prop where
  meth : ∀ w, (method 477 X.t X.v "Read").run Tryz.prog w = .ok (X.f, X.recv) w
  enter : ∀ args w, (callFunc X.f args).run Tryz.prog w = .ok (.enter X.f args) w
  old : ∀ {x : Nat}, X.own x → N ≤ x
  read : ∀ {w : World} {s : List UInt8} {g o len cap : Nat} {cs : List Value}, X.S w s → Laid N X.ea w → Blk w g cs 5 → ¬ X.own g → N ≤ g → 0 < len → len ≤ cap → o + len ≤ cs.length → cs.length ≤ 1000000 →
    Calls Tryz.prog X.f #[X.recv, .slice (some ⟨g, o, none⟩) len cap] w (ReadPost X g o len cs s w)

/-- The blocks of a bufio.Reader over a source. -/
def InX (b g : Nat) (X : Src) : Nat → Prop := fun k => k = b ∨ k = g ∨ X.own k
theorem InX.b (b g : Nat) (X : Src) : InX b g X b := .inl rfl
theorem InX.g (b g : Nat) (X : Src) : InX b g X g := .inr (.inl rfl)
theorem InX.own {b g : Nat} {X : Src} {k : Nat} (h : X.own k) : InX b g X k := .inr (.inr h)
theorem Keeps.x1 {b g : Nat} {X : Src} {w w' : World} (h : Keeps (In [b]) w w') : Keeps (InX b g X) w w' := h.mono (fun _ _ h => .inl (by simpa [In] using h))
theorem Keeps.x2 {b g : Nat} {X : Src} {w w' : World} (h : Keeps (In [b, g]) w w') : Keeps (InX b g X) w w' := h.mono (fun _ _ h => by simp only [In, List.mem_cons, List.not_mem_nil, or_false] at h; rcases h with h | h; exact .inl h; exact .inr (.inl h))
theorem Keeps.xr {b g : Nat} {X : Src} {w w' : World} (h : Keeps (fun k => X.own k ∨ k = g) w w') : Keeps (InX b g X) w w' := h.mono (fun _ _ h => by rcases h with h | h; exact .inr (.inr h); exact .inr (.inl h))

theorem Src.keep_no (X : Src) {w w' : World} {s : List UInt8} (h : X.S w s) (k : Keeps No w w') : X.S w' s := X.keep h k (fun _ _ h => h)
theorem Src.drewN (X : Src) {w : World} {s : List UInt8} (h : X.S w s) (n : Nat) : X.S (w.drewN n) s := X.keep_no h ((Keeps.refl No w).drewN n)
theorem Src.set (X : Src) {w : World} {s : List UInt8} (h : X.S w s) {p : Addr} (hp : ¬ X.own p.block) (v : Value) : X.S (w.setCell p v) s :=
  X.keep h (Keeps.cell_one w p v) (fun x hx hi => by simp only [In, List.mem_cons, List.not_mem_nil, or_false] at hi; subst hi; exact hp hx)

/-- The cells of a bufio.Reader over a source, its buffer at block g. -/
def brc (g : Nat) (X : Src) (r q : Nat) (err : Value) (lb lr : Int) : List Value :=
  [.slice (some ⟨g, 0, none⟩) 4096 4096, .iface X.t X.v, .int .i64 r, .int .i64 q, err, .int .i64 lb, .int .i64 lr]

/-- What fill leaves: the bytes that were there ('rem', q1 of them) at the buffer's begin, and n more behind them. -/
def FillPost (X : Src) (b g q1 : Nat) (s : List UInt8) (err : Value) (lb lr : Int) (rem : List UInt8) (w w' : World) : Prop :=
  ∃ (data : List UInt8) (n : Nat) (err' : Value), data.length = 4096 ∧ q1 + n ≤ 4096 ∧ n ≤ s.length ∧ (0 < n ∧ err' = err ∨ n = s.length ∧ err' = (.iface 203 (.pointer (some X.ea)))) ∧
    Blk w' b (brc g X 0 (q1 + n) err' lb lr) 201 ∧ Blk w' g (u8s data) 5 ∧ X.S w' (s.drop n) ∧ data.take (q1 + n) = rem ++ s.take n ∧
    Keeps (InX b g X) w w'

set_option maxRecDepth 100000 in
set_option maxHeartbeats 1000000 in
theorem fill_any {N : Nat} (X : Src) (O : X.Ok N) (b g r q : Nat) (s : List UInt8) (err : Value) (lb lr : Int) (data : List UInt8) (w : World) (hd : data.length = 4096) (hrq : r ≤ q) (hq : q ≤ 4096) (hf : q - r < 4096)
    (hb : Blk w b (brc g X r q err lb lr) 201) (hg : Blk w g (u8s data) 5) (hs : X.S w s) (nb : ¬ X.own b) (ng : ¬ X.own g) (L : Laid N X.ea w) (hB : N ≤ b) (hG : N ≤ g) :
    Calls Tryz.prog 139 #[.pointer (some ⟨b, 0, none⟩)] w fun e w' => e = .returned (.tuple #[]) ∧ FillPost X b g (q - r) s err lb lr ((data.drop r).take (q - r)) w w' := by
  have h0 := hb.cell 0
  have h2 := hb.cell 2
  have h3 := hb.cell 3
  simp only [brc, List.getElem?_cons_zero, List.getElem?_cons_succ] at h0 h2 h3
  have f2 := hb.frozen 2
  have f3 := hb.frozen 3
  have hbg : b ≠ g := hb.ne hg (by decide)
  have hq' : (q : Int) ≤ 4096 := by omega
  have HD := Lib.hid hd
  have HO := Lib.hid O
  have HLa := Lib.hid L
  have HS := Lib.hid hs
  have HNB := Lib.hid nb
  have HNG := Lib.hid ng
  clear hd O L hs nb ng
  go_enter Tryz.func139, Tryz.ntmps139
  go_upto_if 9 with (fail)
  go_cut [] (fun wx => ∃ data1 : List UInt8, data1.length = 4096 ∧ Blk wx b (brc g X 0 (q - r) err lb lr) 201 ∧ Blk wx g (u8s data1) 5 ∧ data1.take (q - r) = (data.drop r).take (q - r) ∧ Keeps (In [b, g]) w wx)
  case first =>
    by_cases hr : r = 0
    · subst hr
      go_wp2
      go_meet
      exact ⟨data, HD.out, hb, hg, by simp, Keeps.refl _ _⟩
    · have hr' : decide (0 < r) = true := by simp; omega
      go_wp2
      refine region_tail 17 (by kernel_rfl) (by kernel_rfl) ?_
      simp only [List.take_succ_cons, List.take_zero, List.drop_succ_cons, List.drop_zero]
      repeat still_step
      refine wpStill_nil ?_
      refine wpList_copy_cells rfl (.tmp 13) (.tmp 26) 85 85 rfl 5 Tryz.underlying85 (by kernel_rfl) g 0 4096 4096 _ (q - r) (4096 - r) rfl rfl (u8s data) 5 hg.drew (u8s ((data.drop r).take (q - r))) ?hn ?hsrc ?hfit (u8s_one _) ?_
      case hn => have := HD.out; simp; omega
      case hfit => have := HD.out; simp; omega
      case hsrc =>
        have hb2 : BytesAt w g 0 data := BytesAt.of_blk hg (by simp [List.take_of_length_le])
        exact ⟨_, rfl, (hb2.cut r (q - r) (by have := HD.out; omega)).cells⟩
      intro W1 B1 K1
      have B2 := hb.drew.keep K1 (fun h => by simp only [In, List.mem_cons, List.not_mem_nil, or_false] at h; omega)
      clear h0 h2 h3 f2 f3
      have h2 := B2.cell 2
      have h3 := B2.cell 3
      simp only [brc, List.getElem?_cons_zero, List.getElem?_cons_succ] at h2 h3
      have f2 := B2.frozen 2
      have f3 := B2.frozen 3
      go_wp2
      refine region_tail 11 (by kernel_rfl) (by kernel_rfl) ?_
      simp only [List.take_succ_cons, List.take_zero, List.drop_succ_cons, List.drop_zero]
      repeat still_step
      refine wpStill_nil ?_
      go_wp2
      go_meet
      have hd := HD.out
      refine ⟨(data.drop r).take (q - r) ++ data.drop (q - r), by simp; omega, ?_, ?_, ?_, ?_⟩
      · exact ((B2.set 3 _).set 2 _).to (by simp [brc]; omega)
      · exact ((B1.out.set_other hbg _).set_other hbg _).to (by have hX : ((data.drop r).take (q - r)).length = q - r := (by simp; omega); rw [u8s_length, hX]; simp [u8s_drop])
      · rw [List.take_append_of_le_length (by simp; omega), List.take_of_length_le (by simp; omega)]
      · exact ((((Keeps.refl _ w).drew.trans K1 (fun _ _ h => by simp only [In, List.mem_cons, List.not_mem_nil, or_false] at h ⊢; omega)).setCell (.inl (by simp [In])) _).setCell (.inl (by simp [In])) _).drew
  case rest =>
    obtain ⟨data1, hd1, B1, B2, hr1, K1⟩ := hcut
    clear h0 h2 h3 f2 f3 hq'
    have HD1 := Lib.hid hd1
    have HR := Lib.hid hr1
    clear hd1 hr1
    have h0 := B1.cell 0
    have h1 := B1.cell 1
    have h2 := B1.cell 2
    have h3 := B1.cell 3
    simp only [brc, List.getElem?_cons_zero, List.getElem?_cons_succ] at h0 h1 h2 h3
    have f3 := B1.frozen 3
    have f4 := B1.frozen 4
    have hqr : (((q - r : Nat) : Int)) ≤ 4096 := by omega
    go_wp2
    go_quiet (fail)
    go_wp2
    refine wp_loop_rounds 1 ?_
    rw [rounds_succ]
    go_wp2
    refine region_mid 15 (by kernel_rfl) (by kernel_rfl) ?_
    simp only [List.take_succ_cons, List.take_zero, List.drop_succ_cons, List.drop_zero]
    repeat (quiet_step (fail))
    refine wpQuiet_nil ?_
    intro wq hwq
    obtain ⟨nq, rfl⟩ := hwq
    have hm := HO.out.meth
    have hen := HO.out.enter
    have hcut : cutAt 0 (q - r) 4096 1 = q - r := by rw [cutAt_lt (by omega)]; omega
    have HC := Lib.hid hcut
    clear hcut
    have hs1 : X.S _ s := X.keep HS.out K1 (fun x hx h => by
      simp only [In, List.mem_cons, List.not_mem_nil, or_false] at h
      rcases h with rfl | rfl
      · exact HNB.out hx
      · exact HNG.out hx)
    have HS1 := Lib.hid hs1
    have hL1 := HLa.out.keep K1 (fun x h => by simp only [In, List.mem_cons, List.not_mem_nil, or_false] at h; omega)
    have HL1 := Lib.hid hL1
    clear hs1 hL1
    go_wp2_with (fail)
    rw [HC.out]
    clear h0 h1 h2 h3 f3 f4
    refine (HO.out.read (o := q - r) (len := 4096 - (q - r)) (cap := 4096 - (q - r)) (X.drewN HS1.out _) (HL1.out.keep_no ((Keeps.refl No _).drewN _)) (B2.drewN _) HNG.out hG (by omega) (by omega) (by have := HD1.out; simp; omega) (by have := HD1.out; simp; omega)).mono ?_
    rintro e w2 ⟨n, errv, rfl, hn3, hn2, hcase, hS2, B4, K2⟩
    have K2 := K2.drewN_left
    have hn0' : decide ((n : Int) < 0) = false := by simp
    have B5 := B1.keep K2 (fun h => by rcases h with h | h; exact HNB.out h; exact hbg h)
    have h3 := B5.cell 3
    have h4 := B5.cell 4
    have f3 := B5.frozen 3
    have f4 := B5.frozen 4
    simp only [brc, List.getElem?_cons_zero, List.getElem?_cons_succ] at h3 h4
    have hd1 := HD1.out
    have HSS := Lib.hid hS2
    clear hS2
    have hA : (data1.take (q - r) ++ s.take n).length = q - r + n := by
      rw [List.length_append, List.length_take, List.length_take, hd1]; omega
    have hAll : (data1.take (q - r) ++ s.take n ++ data1.drop (q - r + n)).length = 4096 := by
      rw [List.length_append, hA, List.length_drop, hd1]; omega
    have HA := Lib.hid hA
    have HAll := Lib.hid hAll
    clear hA hAll
    rcases hcase with ⟨hn1, rfl⟩ | ⟨hn1, rfl⟩
    · have hn1' : decide (0 < (n : Int)) = true := by simpa using hn1
      go_wp2
      refine bodyPost_ret (results_none rfl _ _ _) rfl ?_
      refine ⟨rfl, data1.take (q - r) ++ s.take n ++ data1.drop (q - r + n), n, err, HAll.out, by omega, hn2, .inl ⟨hn1, rfl⟩, ?_, ?_, ?_, ?_, ?_⟩
      · exact (B5.set 3 _).to (by simp [brc])
      · exact (B4.set_other hbg _).to (by simp [u8s_take, u8s_drop])
      · exact X.set HSS.out HNB.out _
      · rw [List.take_left' HA.out, HR.out]
      · exact ((Keeps.x2 K1).trans' (Keeps.xr K2)).setCell (.inl (InX.b _ _ _)) _
    · have HN1 := Lib.hid hn1
      clear hn1
      go_wp2
      refine bodyPost_ret (results_none rfl _ _ _) rfl ?_
      refine ⟨rfl, data1.take (q - r) ++ s.take n ++ data1.drop (q - r + n), n, _, HAll.out, by omega, hn2, .inr ⟨HN1.out, rfl⟩, ?_, ?_, ?_, ?_, ?_⟩
      · exact ((B5.set 3 _).set 4 _).to (by simp [brc])
      · exact ((B4.set_other hbg _).set_other hbg _).to (by simp [u8s_take, u8s_drop])
      · exact X.set (X.set HSS.out HNB.out _) HNB.out _
      · rw [List.take_left' HA.out, HR.out]
      · exact (((Keeps.x2 K1).trans' (Keeps.xr K2)).setCell (.inl (InX.b _ _ _)) _).setCell (.inl (InX.b _ _ _)) _
end Go.Proofs.YtjbbapodcngnaaaGreatDoor.G
namespace Go.Proofs.YtjbbapodcngnaaaGreatDoor.G
open Go.RowKit Hdr

/-- A bufio.Reader at block b over a source, laid open. -/
structure RdD (w : World) (b g : Nat) (X : Src) (r q : Nat) (s : List UInt8) (err : Value) (lb lr : Int) (data : List UInt8) : Prop where
  hd : data.length = 4096
  hrq : r ≤ q
  hq : q ≤ 4096
  B : Blk w b (brc g X r q err lb lr) 201
  G : Blk w g (u8s data) 5
  S : X.S w s
  nb : ¬ X.own b
  ng : ¬ X.own g
  he : err = .nilIface ∨ err = (.iface 203 (.pointer (some X.ea))) ∧ s = []

/-- What is still to be read. -/
def rest (s : List UInt8) (r q : Nat) (data : List UInt8) : List UInt8 := (data.drop r).take (q - r) ++ s

/-- What lies around a reader. -/
structure Env (N b g : Nat) (X : Src) (w : World) : Prop where
  ok : X.Ok N
  hB : N ≤ b
  hG : N ≤ g
  laid : Laid N X.ea w

theorem Env.keep {N b g : Nat} {X : Src} {w w' : World} (h : Env N b g X w) {l : List Nat} (k : Keeps (In l) w w') (hl : ∀ x ∈ l, N ≤ x) : Env N b g X w' :=
  ⟨h.ok, h.hB, h.hG, h.laid.keep k (fun x hx => hl x hx)⟩
theorem Env.keepb {N b g : Nat} {X : Src} {w w' : World} (h : Env N b g X w) (k : Keeps (In [b]) w w') : Env N b g X w' := h.keep k (by simpa using h.hB)
theorem Env.low {N b g : Nat} {X : Src} {w : World} (h : Env N b g X w) {x : Nat} (hx : InX b g X x) : N ≤ x := by
  rcases hx with rfl | rfl | hx
  · exact h.hB
  · exact h.hG
  · exact h.ok.old hx
theorem Env.keep3 {N b g : Nat} {X : Src} {w w' : World} (h : Env N b g X w) (k : Keeps (InX b g X) w w') : Env N b g X w' :=
  ⟨h.ok, h.hB, h.hG, h.laid.keep k (fun _ hx => h.low hx)⟩
theorem Env.keep_no {N b g : Nat} {X : Src} {w w' : World} (h : Env N b g X w) (k : Keeps No w w') : Env N b g X w' := ⟨h.ok, h.hB, h.hG, h.laid.keep_no k⟩
theorem Env.drewN {N b g : Nat} {X : Src} {w : World} (h : Env N b g X w) (n : Nat) : Env N b g X (w.drewN n) := h.keep_no ((Keeps.refl _ _).drewN n)

section
variable {w : World} {b g : Nat} {X : Src} {r q : Nat} {s : List UInt8} {err : Value} {lb lr : Int} {data : List UInt8}
theorem RdD.bg (h : RdD w b g X r q s err lb lr data) : b ≠ g := h.B.ne h.G (by decide)
theorem RdD.cells (h : RdD w b g X r q s err lb lr data) : w.cell? ⟨b, 0, none⟩ = some (.slice (some ⟨g, 0, none⟩) 4096 4096) ∧ w.cell? ⟨b, 2, none⟩ = some (.int .i64 r) ∧ w.cell? ⟨b, 3, none⟩ = some (.int .i64 q) ∧
    w.cell? ⟨b, 4, none⟩ = some err ∧ w.cell? ⟨b, 5, none⟩ = some (.int .i64 lb) ∧ w.cell? ⟨b, 6, none⟩ = some (.int .i64 lr) :=
  ⟨h.B.cell 0, h.B.cell 2, h.B.cell 3, h.B.cell 4, h.B.cell 5, h.B.cell 6⟩
theorem RdD.drewN (h : RdD w b g X r q s err lb lr data) (n : Nat) : RdD (w.drewN n) b g X r q s err lb lr data := ⟨h.hd, h.hrq, h.hq, h.B, h.G, X.drewN h.S n, h.nb, h.ng, h.he⟩
/-- Other cells of the reader itself. -/
theorem RdD.to' (h : RdD w b g X r q s err lb lr data) {w' : World} (k : Keeps (In [b]) w w') {r' q' : Nat} {err' : Value} {lb' lr' : Int} (hrq : r' ≤ q') (hq : q' ≤ 4096) (he : err' = .nilIface ∨ err' = (.iface 203 (.pointer (some X.ea))) ∧ s = [])
    (B : Blk w' b (brc g X r' q' err' lb' lr') 201) : RdD w' b g X r' q' s err' lb' lr' data :=
  have h1 := h.bg
  ⟨h.hd, hrq, hq, B, h.G.keep k (fun h => by simp only [In, List.mem_cons, List.not_mem_nil, or_false] at h; omega), X.keep h.S k (fun x hx hi => by simp only [In, List.mem_cons, List.not_mem_nil, or_false] at hi; subst hi; exact h.nb hx), h.nb, h.ng, he⟩
theorem RdD.to (h : RdD w b g X r q s err lb lr data) {w' : World} (k : Keeps (In [b]) w w') {r' q' : Nat} {lb' lr' : Int} (hrq : r' ≤ q') (hq : q' ≤ 4096)
    (B : Blk w' b (brc g X r' q' err lb' lr') 201) : RdD w' b g X r' q' s err lb' lr' data := h.to' k hrq hq h.he B
theorem RdD.clear (h : RdD w b g X r q s err lb lr data) {w' : World} (k : Keeps (In [b]) w w') {r' q' : Nat} {lb' lr' : Int} (hrq : r' ≤ q') (hq : q' ≤ 4096)
    (B : Blk w' b (brc g X r' q' .nilIface lb' lr') 201) : RdD w' b g X r' q' s .nilIface lb' lr' data := h.to' k hrq hq (.inl rfl) B
theorem RdD.at_ (h : RdD w b g X r q s err lb lr data) (j : Nat) (hj : j < 4096) : w.cell? ⟨g, j, none⟩ = some (byt (data[j]'(by rw [h.hd]; exact hj))) := by
  rw [h.G.cell j, u8s_get]
  simp [h.hd, hj]
theorem RdD.err_nil (h : RdD w b g X r q s err lb lr data) (hs : s ≠ []) : err = .nilIface := by
  rcases h.he with h | ⟨_, h⟩
  · exact h
  · exact absurd h hs
end

theorem rest_end {s : List UInt8} {r q : Nat} {data : List UInt8} (hs : s = []) : rest s r q data = (data.drop r).take (q - r) := by
  subst hs
  unfold rest
  rw [List.append_nil]

theorem rest_fill {s : List UInt8} {r q n : Nat} {data data' : List UInt8} (h : data'.take (q - r + n) = (data.drop r).take (q - r) ++ s.take n) :
    rest (s.drop n) 0 (q - r + n) data' = rest s r q data := by
  unfold rest
  rw [List.drop_zero, Nat.sub_zero, h, List.append_assoc]
  congr 1
  rw [List.take_append_drop]

theorem rest_nil {s : List UInt8} {r q : Nat} {data : List UInt8} (hd : data.length = 4096) (hrq : r ≤ q) (hq : q ≤ 4096) (h : rest s r q data = []) : r = q ∧ s = [] := by
  unfold rest at h
  rw [List.append_eq_nil_iff] at h
  have h1 := congrArg List.length h.1
  simp at h1
  exact ⟨by omega, h.2⟩

theorem fill_rd (b g r q : Nat) (X : Src) (s : List UInt8) (lb lr : Int) (data : List UInt8) (w : World) (h : RdD w b g X r q s .nilIface lb lr data) (hf : q - r < 4096) {N : Nat} (E : Env N b g X w) :
    Calls Tryz.prog 139 #[.pointer (some ⟨b, 0, none⟩)] w fun e w' => e = .returned (.tuple #[]) ∧
      ∃ (data' : List UInt8) (n : Nat) (err' : Value), RdD w' b g X 0 (q - r + n) (s.drop n) err' lb lr data' ∧ (s ≠ [] → 0 < n) ∧ n ≤ s.length ∧ (s = [] → n = 0 ∧ err' = (.iface 203 (.pointer (some X.ea)))) ∧
        rest (s.drop n) 0 (q - r + n) data' = rest s r q data ∧ data'.take (q - r) = (data.drop r).take (q - r) ∧ Keeps (InX b g X) w w' := by
  refine (fill_any X E.ok b g r q s .nilIface lb lr data w h.hd h.hrq h.hq hf h.B h.G h.S h.nb h.ng E.laid E.hB E.hG).mono ?_
  rintro e w' ⟨rfl, data', n, err', h1, h2, h3, h4, B, G, S, ht, K⟩
  have hs := h.S
  refine ⟨rfl, data', n, err', ⟨h1, Nat.zero_le _, h2, B, G, S, h.nb, h.ng, ?_⟩, ?_, h3, ?_, rest_fill ht, ?_, K⟩
  · rcases h4 with ⟨_, h4⟩ | ⟨h4, h5⟩
    · exact .inl h4
    · exact .inr ⟨h5, List.drop_eq_nil_of_le (by omega)⟩
  · intro hne
    rcases h4 with ⟨h4, _⟩ | ⟨h4, h5⟩
    · exact h4
    · have := List.length_pos_iff.2 hne; omega
  · rintro rfl
    rcases h4 with ⟨h4, _⟩ | ⟨h4, h5⟩
    · simp at h3; omega
    · exact ⟨by simpa using h4, h5⟩
  · have h6 : (data'.take (q - r + n)).take (q - r) = data'.take (q - r) := by rw [List.take_take]; congr 1; omega
    have hl : ((data.drop r).take (q - r)).length = q - r := by have := h.hd; have := h.hq; simp; omega
    rw [← h6, ht, List.take_left' hl]

theorem rest_cons {s : List UInt8} {r q : Nat} {data : List UInt8} (hd : data.length = 4096) (hrq : r < q) (hq : q ≤ 4096) : rest s r q data = data[r]'(by omega) :: rest s (r + 1) q data := by
  unfold rest
  rw [List.drop_eq_getElem_cons (by omega), show q - r = (q - (r + 1)) + 1 by omega, List.take_succ_cons, List.cons_append]
theorem rest_same {s : List UInt8} {r : Nat} {data : List UInt8} : rest s r r data = s := by simp [rest]

set_option maxRecDepth 100000 in
set_option maxHeartbeats 400000 in
theorem readByte_some (b g r q : Nat) (X : Src) (s : List UInt8) (err : Value) (lb lr : Int) (data : List UInt8) (w : World) (h : RdD w b g X r q s err lb lr data) {N : Nat} (E : Env N b g X w) (c : UInt8) (c' : List UInt8) (hc : rest s r q data = c :: c') :
    Calls Tryz.prog 186 #[.pointer (some ⟨b, 0, none⟩)] w fun e w' => e = .returned (.tuple #[.int .u8 c.toNat, .nilIface]) ∧
      ∃ (r' q' : Nat) (s' : List UInt8) (err' : Value) (data' : List UInt8), RdD w' b g X (r' + 1) q' s' err' c.toNat (-1) data' ∧ rest s' (r' + 1) q' data' = c' ∧ data'[r']? = some c ∧ Keeps (InX b g X) w w' := by
  obtain ⟨h0, h2, h3, h4, h5, h6⟩ := h.cells
  have fz := h.B.frozen
  have H := Lib.hid h
  have HE := Lib.hid E
  have HC := Lib.hid hc
  have hrq := h.hrq
  have hq := h.hq
  have hbg := h.bg
  clear h hc E
  go_enter Tryz.func186, Tryz.ntmps186
  go_upto_block 0 with (fail)
  go_cut [] (fun wx => ∃ (r' q' : Nat) (s' : List UInt8) (err' : Value) (data' : List UInt8), RdD wx b g X r' q' s' err' lb (-1) data' ∧ r' < q' ∧ rest s' r' q' data' = c :: c' ∧ Keeps (InX b g X) w wx)
  case first =>
    by_cases hlt : r < q
    · have e1 : ((r : Int) == (q : Int)) = false := by simp; omega
      have e2 : (r == q) = false := by simp; omega
      go_wp2
      refine wp_loop_rounds 1 ?_
      rw [rounds_succ]
      go_wp2
      go_quiet (fail)
      go_wp2
      go_meet
      exact ⟨r, q, s, err, data, H.out.to (by repeat (first | assumption | exact Keeps.refl _ _ | apply Keeps.drewN | apply Keeps.drew | apply Keeps.alloc | (refine Keeps.setCell ?_ (.inl (by simp [In])) _))) hrq hq (((H.out.B.set 6 _).drewN _).to rfl), hlt, HC.out, Keeps.x1 (by repeat (first | assumption | exact Keeps.refl _ _ | apply Keeps.drewN | apply Keeps.drew | apply Keeps.alloc | (refine Keeps.setCell ?_ (.inl (by simp [In])) _)))⟩
    · obtain rfl : r = q := by omega
      have hne : s ≠ [] := by have h1 := HC.out; rw [rest_same] at h1; rw [h1]; simp
      have herr := H.out.err_nil hne
      subst herr
      go_wp2
      refine wp_loop_rounds 2 ?_
      rw [rounds_succ]
      go_wp2
      go_quiet (fail)
      go_wp2_with (fail)
      refine calls_as fun W1 hW1 => ?_
      obtain ⟨R1, K1⟩ : RdD W1 b g X r r s .nilIface lb (-1) data ∧ Keeps (In [b]) w W1 := by
        subst hW1
        exact ⟨H.out.to (by repeat (first | assumption | exact Keeps.refl _ _ | apply Keeps.drewN | apply Keeps.drew | apply Keeps.alloc | (refine Keeps.setCell ?_ (.inl (by simp [In])) _))) hrq hq (((H.out.B.set 6 _).drewN _).to rfl), (by repeat (first | assumption | exact Keeps.refl _ _ | apply Keeps.drewN | apply Keeps.drew | apply Keeps.alloc | (refine Keeps.setCell ?_ (.inl (by simp [In])) _)))⟩
      clear hW1 h0 h2 h3 h4 h5 h6 fz
      refine (fill_rd b g r r X s lb (-1) data W1 R1 (by omega) (HE.out.keepb K1)).mono ?_
      rintro e W2 ⟨rfl, data', n, err', R2, hn, -, -, hr, -, K2⟩
      have hn := hn hne
      obtain ⟨h0, h2, h3, h4, h5, h6⟩ := R2.cells
      have HR := Lib.hid R2
      have HC2 := Lib.hid hr
      have e1 : ((0 : Int) == ((r - r + n : Nat) : Int)) = false := by simp; omega
      clear R2 hr
      go_wp2
      rw [rounds_succ]
      go_wp2
      go_quiet (fail)
      go_wp2
      go_meet
      exact ⟨0, _, _, _, data', HR.out.drewN _, by omega, HC2.out.trans HC.out, ((Keeps.x1 K1).trans' K2).drewN _⟩
  case rest =>
    obtain ⟨r', q', s', err', data', R1, hlt, hr1, K1⟩ := hcut
    clear h0 h2 h3 h4 h5 h6 fz hrq hq
    obtain ⟨h0, h2, h3, h4, h5, h6⟩ := R1.cells
    have fz := R1.B.frozen
    have hq := R1.hq
    rw [rest_cons R1.hd hlt hq] at hr1
    have hr4 : r' < 4096 := by omega
    have hx := R1.at_ r' hr4
    injection hr1 with hr2 hr3
    rw [hr2] at hx
    unfold byt at hx
    have HR := Lib.hid R1
    have hx' : data'[r']? = some c := by rw [List.getElem?_eq_getElem (by rw [R1.hd]; exact hr4), hr2]
    have HX := Lib.hid hx'
    have HY := Lib.hid hr3
    have b1 : (r' : Int) < 4096 := by omega
    have hw := w64_u8 c
    clear hx' hr2 hr3
    clear R1
    go_wp2
    go_quiet (fail)
    go_wp2
    go_ret2
    refine ⟨rfl, r', q', s', err', data', HR.out.to (by repeat (first | assumption | exact Keeps.refl _ _ | apply Keeps.drewN | apply Keeps.drew | apply Keeps.alloc | (refine Keeps.setCell ?_ (.inl (by simp [In])) _))) hlt hq (((HR.out.B.set 2 _).set 5 _).to (by simp [brc])), HY.out, HX.out, K1.trans' (Keeps.x1 (by repeat (first | assumption | exact Keeps.refl _ _ | apply Keeps.drewN | apply Keeps.drew | apply Keeps.alloc | (refine Keeps.setCell ?_ (.inl (by simp [In])) _))))⟩

set_option maxRecDepth 100000 in
set_option maxHeartbeats 400000 in
theorem readByte_none (b g r q : Nat) (X : Src) (s : List UInt8) (err : Value) (lb lr : Int) (data : List UInt8) (w : World) (h : RdD w b g X r q s err lb lr data) {N : Nat} (E : Env N b g X w) (hc : rest s r q data = []) :
    Calls Tryz.prog 186 #[.pointer (some ⟨b, 0, none⟩)] w fun e w' => e = .returned (.tuple #[.int .u8 0, (.iface 203 (.pointer (some X.ea)))]) ∧
      ∃ (r' q' : Nat) (s' : List UInt8) (data' : List UInt8), RdD w' b g X r' q' s' .nilIface lb (-1) data' ∧ rest s' r' q' data' = [] ∧ Keeps (InX b g X) w w' := by
  obtain ⟨h0, h2, h3, h4, h5, h6⟩ := h.cells
  have fz := h.B.frozen
  have hd := h.hd
  have hrq := h.hrq
  have hq := h.hq
  have hbg := h.bg
  obtain ⟨hq0, hi0⟩ := rest_nil hd hrq hq hc
  subst hq0
  have H := Lib.hid h
  have HE := Lib.hid E
  have HC := Lib.hid hc
  have hcase := h.he
  clear h hc E hd
  rcases hcase with rfl | ⟨rfl, -⟩
  · go_enter Tryz.func186, Tryz.ntmps186
    go_wp2
    refine wp_loop_rounds 2 ?_
    rw [rounds_succ]
    go_wp2
    go_quiet (fail)
    go_wp2_with (fail)
    refine calls_as fun W1 hW1 => ?_
    obtain ⟨R1, K1⟩ : RdD W1 b g X r r s .nilIface lb (-1) data ∧ Keeps (In [b]) w W1 := by
      subst hW1
      exact ⟨H.out.to (by repeat (first | assumption | exact Keeps.refl _ _ | apply Keeps.drewN | apply Keeps.drew | apply Keeps.alloc | (refine Keeps.setCell ?_ (.inl (by simp [In])) _))) hrq hq (((H.out.B.set 6 _).drewN _).to rfl), (by repeat (first | assumption | exact Keeps.refl _ _ | apply Keeps.drewN | apply Keeps.drew | apply Keeps.alloc | (refine Keeps.setCell ?_ (.inl (by simp [In])) _)))⟩
    clear hW1 h0 h2 h3 h4 h5 h6 fz
    refine (fill_rd b g r r X s lb (-1) data W1 R1 (by omega) (HE.out.keepb K1)).mono ?_
    rintro e W2 ⟨rfl, data', n, err', R2, -, -, hn, hr, -, K2⟩
    obtain ⟨rfl, rfl⟩ := hn hi0
    obtain ⟨h0, h2, h3, h4, h5, h6⟩ := R2.cells
    have fz := R2.B.frozen
    have HR := Lib.hid R2
    have HC2 := Lib.hid hr
    have e1 : ((0 : Int) == ((r - r + 0 : Nat) : Int)) = true := by simp
    clear R2 hr
    go_wp2
    rw [rounds_succ]
    go_wp2
    go_quiet (fail)
    go_wp2_with (go_at_call 140; refine (readErr_any b _ _ _ (HR.out.B.drewN _) rfl).mono ?_; rintro e w3 ⟨rfl, rfl⟩)
    go_ret2
    refine ⟨rfl, 0, r - r + 0, _, data', HR.out.clear (by repeat (first | assumption | exact Keeps.refl _ _ | apply Keeps.drewN | apply Keeps.drew | apply Keeps.alloc | (refine Keeps.setCell ?_ (.inl (by simp [In])) _))) (by omega) (by omega) (((HR.out.B.drewN _).set 4 _).to rfl), HC2.out.trans HC.out, ?_⟩
    exact (((Keeps.x1 K1).trans' K2).drewN _).setCell (.inl (InX.b _ _ _)) _
  · go_enter Tryz.func186, Tryz.ntmps186
    go_wp2
    refine wp_loop_rounds 1 ?_
    rw [rounds_succ]
    go_wp2
    go_quiet (fail)
    go_wp2_with (fail)
    refine (readErr_any b _ _ _ ((H.out.B.set 6 _).drewN _) rfl).mono ?_
    rintro e w3 ⟨rfl, rfl⟩
    go_wp2
    go_ret2
    refine ⟨rfl, r, r, s, data, H.out.clear (by repeat (first | assumption | exact Keeps.refl _ _ | apply Keeps.drewN | apply Keeps.drew | apply Keeps.alloc | (refine Keeps.setCell ?_ (.inl (by simp [In])) _))) (by omega) (by omega) ((((H.out.B.set 6 _).drewN _).set 4 _).to rfl), HC.out, Keeps.x1 (by repeat (first | assumption | exact Keeps.refl _ _ | apply Keeps.drewN | apply Keeps.drew | apply Keeps.alloc | (refine Keeps.setCell ?_ (.inl (by simp [In])) _)))⟩
end Go.Proofs.YtjbbapodcngnaaaGreatDoor.G
namespace Go.Proofs.YtjbbapodcngnaaaGreatDoor.G
open Go.RowKit Hdr

/-! ### UnreadByte, hasContinuationLine -/
set_option maxRecDepth 100000 in
theorem unreadByte_any (b g r q : Nat) (X : Src) (s : List UInt8) (err : Value) (lr : Int) (data : List UInt8) (c : UInt8) (w : World) (h : RdD w b g X (r + 1) q s err c.toNat lr data) (hc : data[r]? = some c) :
    Calls Tryz.prog 187 #[.pointer (some ⟨b, 0, none⟩)] w fun e w' => e = .returned .nilIface ∧ RdD w' b g X r q s err (-1) (-1) data ∧ Keeps (InX b g X) w w' := by
  obtain ⟨h0, h2, h3, h4, h5, h6⟩ := h.cells
  have fz := h.B.frozen
  have fg := h.G.frozen
  have hq := h.hq
  have hrq := h.hrq
  have hbg := h.bg
  have hr4 : r < 4096 := by omega
  have hx := h.at_ r hr4
  have hcc : data[r]'(by rw [h.hd]; exact hr4) = c := by
    rw [List.getElem?_eq_getElem (by rw [h.hd]; exact hr4)] at hc; exact Option.some.inj hc
  rw [hcc] at hx
  unfold byt at hx
  have H := Lib.hid h
  have HC := Lib.hid hc
  have b1 : (r : Int) < 4096 := by omega
  have b0 : (0 : Int) ≤ (c.toNat : Int) := by omega
  have e0 : decide ((c.toNat : Int) < 0) = false := by simp
  have e1 : (((r : Int) + 1) == 0) = false := by simp; omega
  have e2 : decide ((0 : Int) < (r : Int) + 1) = true := decide_eq_true (by omega)
  have e4 : (c.toNat : Int) < 256 := by have := c.toNat_lt; omega
  have e3 : ((r + 1 : Nat) : Int) = (r : Int) + 1 := by omega
  rw [e3] at h2
  clear h hcc hc e3
  go_enter Tryz.func187, Tryz.ntmps187
  go_wp2
  refine region_mid 14 (by kernel_rfl) (by kernel_rfl) ?_
  simp only [List.take_succ_cons, List.take_zero, List.drop_succ_cons, List.drop_zero]
  repeat (quiet_step (fail))
  refine wpQuiet_nil ?_
  intro wq hwq
  obtain ⟨nq, rfl⟩ := hwq
  go_wp2
  go_ret
  have hH := H.out
  refine ⟨rfl, ⟨hH.hd, by omega, hq, ?_, ?_, ?_, hH.nb, hH.ng, hH.he⟩, ?_⟩
  · exact ((((hH.B.set 2 _).drewN _).set_other (Ne.symm hbg) _).set 5 _).set 6 _
  · exact (((((hH.G.set_other hbg _).drewN nq).set_same (by rw [u8s_get, HC.out]; rfl)).set_other hbg _).set_other hbg _)
  · exact X.set (X.set (X.set (X.drewN (X.set hH.S hH.nb _) _) hH.ng _) hH.nb _) hH.nb _
  · exact (((((Keeps.refl (InX b g X) w).setCell (.inl (InX.b _ _ _)) _).drewN _).setCell (.inl (InX.g _ _ _)) _).setCell (.inl (InX.b _ _ _)) _).setCell (.inl (InX.b _ _ _)) _

/-- A bufio.Reader at block b; c is still to be read. -/
def Rd (w : World) (b g : Nat) (X : Src) (c : List UInt8) : Prop :=
  ∃ (r q : Nat) (s : List UInt8) (err : Value) (lb lr : Int) (data : List UInt8), RdD w b g X r q s err lb lr data ∧ rest s r q data = c

theorem Rd.drewN {w : World} {b g : Nat} {X : Src} {c : List UInt8} (h : Rd w b g X c) (n : Nat) : Rd (w.drewN n) b g X c := by
  obtain ⟨r, q, s, err, lb, lr, data, h, hr⟩ := h
  exact ⟨r, q, s, err, lb, lr, data, h.drewN n, hr⟩
theorem Rd.keep {w w' : World} {b g : Nat} {X : Src} {c : List UInt8} {S : Nat → Prop} (h : Rd w b g X c) (k : Keeps S w w') (hS : ∀ x, InX b g X x → ¬ S x) : Rd w' b g X c := by
  obtain ⟨r, q, s, err, lb, lr, data, h, hr⟩ := h
  exact ⟨r, q, s, err, lb, lr, data, ⟨h.hd, h.hrq, h.hq, h.B.keep k (hS _ (InX.b _ _ _)), h.G.keep k (hS _ (InX.g _ _ _)), X.keep h.S k (fun x hx => hS x (InX.own hx)), h.nb, h.ng, h.he⟩, hr⟩
theorem Rd.keep_no {w w' : World} {b g : Nat} {X : Src} {c : List UInt8} (h : Rd w b g X c) (k : Keeps No w w') : Rd w' b g X c := h.keep k (fun _ _ h => h)
theorem Rd.lt {w : World} {b g : Nat} {X : Src} {c : List UInt8} (h : Rd w b g X c) : ∀ x, InX b g X x → x < w.heap.size := by
  obtain ⟨r, q, s, err, lb, lr, data, h, _⟩ := h
  rintro x (rfl | rfl | hx)
  · exact h.B.lt
  · exact h.G.lt
  · exact X.lt h.S hx

set_option maxRecDepth 100000 in
theorem hasCont_none (b g : Nat) (X : Src) (w : World) (h : Rd w b g X []) {N : Nat} (E : Env N b g X w) :
    Calls Tryz.prog 142 #[.pointer (some ⟨b, 0, none⟩)] w fun e w' => e = .returned (.bool false) ∧ Rd w' b g X [] ∧ Keeps (InX b g X) w w' := by
  obtain ⟨r, q, s, err, lb, lr, data, h, hr⟩ := h
  have H := readByte_none b g r q X s err lb lr data w h E hr
  clear h hr E
  go_enter Tryz.func142, Tryz.ntmps142
  go_wp2_with (fail)
  refine H.mono ?_
  rintro e w1 ⟨rfl, r', q', s', data', R, hr, K⟩
  have HR := Lib.hid hr
  clear hr
  go_wp2
  go_ret
  exact ⟨rfl, ⟨r', q', s', _, lb, -1, data', R, HR.out⟩, K⟩

set_option maxRecDepth 100000 in
theorem hasCont_some (b g : Nat) (X : Src) (w : World) (x : UInt8) (c : List UInt8) (h : Rd w b g X (x :: c)) {N : Nat} (E : Env N b g X w) :
    Calls Tryz.prog 142 #[.pointer (some ⟨b, 0, none⟩)] w fun e w' => e = .returned (.bool (sp x)) ∧ Rd w' b g X (x :: c) ∧ Keeps (InX b g X) w w' := by
  obtain ⟨r, q, s, err, lb, lr, data, h, hr⟩ := h
  have H := readByte_some b g r q X s err lb lr data w h E x c hr
  clear h hr E
  go_enter Tryz.func142, Tryz.ntmps142
  go_wp2_with (fail)
  refine H.mono ?_
  rintro e w1 ⟨rfl, r', q', s', err', data', R, hr, hx, K⟩
  have HR := Lib.hid hr
  have HX := Lib.hid hx
  clear hr hx
  go_wp2_with (fail)
  refine (unreadByte_any b g r' q' X s' err' (-1) data' x w1 R HX.out).mono ?_
  rintro e w2 ⟨rfl, R2, K2⟩
  go_wp2_with (fail)
  refine (isSpace_any x _).mono ?_
  rintro e w3 ⟨rfl, rfl⟩
  go_wp2
  go_ret
  refine ⟨rfl, ⟨r', q', s', err', -1, -1, data', R2, ?_⟩, K.trans' K2⟩
  rw [rest_cons R2.hd (by have := R.hrq; omega) R2.hq, HR.out]
  congr 1
  have := HX.out
  rw [List.getElem?_eq_getElem (by rw [R2.hd]; have := R.hrq; have := R.hq; omega)] at this
  exact Option.some.inj this

/-- hasContinuationLine: does the next line begin with a blank? Nothing is taken. -/
theorem hasCont (b g : Nat) (X : Src) (w : World) (c : List UInt8) (h : Rd w b g X c) {N : Nat} (E : Env N b g X w) :
    Calls Tryz.prog 142 #[.pointer (some ⟨b, 0, none⟩)] w fun e w' => e = .returned (.bool (spHead c)) ∧ Rd w' b g X c ∧ Keeps (InX b g X) w w' := by
  cases c with
  | nil => exact hasCont_none b g X w h E
  | cons x c => exact hasCont_some b g X w x c h E
end Go.Proofs.YtjbbapodcngnaaaGreatDoor.G
namespace Go.Proofs.YtjbbapodcngnaaaGreatDoor.G
open Go.RowKit Hdr

/-- A bufio.Reader at block b; c is still to be read, and k bytes of it stand in the buffer. -/
def Bf (w : World) (b g : Nat) (X : Src) (c : List UInt8) (k : Nat) : Prop :=
  ∃ (r q : Nat) (s : List UInt8) (err : Value) (lb lr : Int) (data : List UInt8), RdD w b g X r q s err lb lr data ∧ rest s r q data = c ∧ k = q - r

theorem Bf.rd {w : World} {b g : Nat} {X : Src} {c : List UInt8} {k : Nat} (h : Bf w b g X c k) : Rd w b g X c := by
  obtain ⟨r, q, s, err, lb, lr, data, h, hr, _⟩ := h
  exact ⟨r, q, s, err, lb, lr, data, h, hr⟩
theorem Rd.bf {w : World} {b g : Nat} {X : Src} {c : List UInt8} (h : Rd w b g X c) : ∃ k, Bf w b g X c k := by
  obtain ⟨r, q, s, err, lb, lr, data, h, hr⟩ := h
  exact ⟨q - r, r, q, s, err, lb, lr, data, h, hr, rfl⟩
theorem Bf.keep {w w' : World} {b g : Nat} {X : Src} {c : List UInt8} {k : Nat} {S : Nat → Prop} (h : Bf w b g X c k) (K : Keeps S w w') (hS : ∀ x, InX b g X x → ¬ S x) : Bf w' b g X c k := by
  obtain ⟨r, q, s, err, lb, lr, data, h, hr⟩ := h
  exact ⟨r, q, s, err, lb, lr, data, ⟨h.hd, h.hrq, h.hq, h.B.keep K (hS _ (InX.b _ _ _)), h.G.keep K (hS _ (InX.g _ _ _)), X.keep h.S K (fun x hx => hS x (InX.own hx)), h.nb, h.ng, h.he⟩, hr⟩
theorem Bf.drewN {w : World} {b g : Nat} {X : Src} {c : List UInt8} {k : Nat} (h : Bf w b g X c k) (n : Nat) : Bf (w.drewN n) b g X c k := h.keep ((Keeps.refl No w).drewN n) (fun _ _ h => h)
theorem Bf.le {w : World} {b g : Nat} {X : Src} {c : List UInt8} {k : Nat} (h : Bf w b g X c k) : k ≤ c.length ∧ k ≤ 4096 := by
  obtain ⟨r, q, s, err, lb, lr, data, h, hr, rfl⟩ := h
  have h1 := h.hd
  have h2 := h.hq
  rw [← hr]
  unfold rest
  rw [List.length_append, List.length_take, List.length_drop]
  omega

/-- Peek(n), where so many bytes are still to come. -/
def PeekNPost (b g : Nat) (X : Src) (n k : Nat) (c : List UInt8) (w : World) (e : Ending) (w' : World) : Prop :=
  ∃ o cap k' : Nat, e = .returned (.tuple #[.slice (some ⟨g, o, none⟩) n cap, .nilIface]) ∧ n ≤ cap ∧ BytesAt w' g o (c.take n) ∧ Bf w' b g X c k' ∧ n ≤ k' ∧ k ≤ k' ∧ (n ≤ k → k' = k) ∧ Keeps (InX b g X) w w'

theorem rest_len {w : World} {b g : Nat} {X : Src} {r q : Nat} {s : List UInt8} {err : Value} {lb lr : Int} {data : List UInt8} (h : RdD w b g X r q s err lb lr data) : (rest s r q data).length = s.length + (q - r) := by
  have h1 := h.hd
  have h2 := h.hrq
  have h3 := h.hq
  unfold rest
  rw [List.length_append, List.length_take, List.length_drop]
  omega
theorem rest_take {w : World} {b g : Nat} {X : Src} {r q : Nat} {s : List UInt8} {err : Value} {lb lr : Int} {data : List UInt8} (h : RdD w b g X r q s err lb lr data) (n : Nat) (hn : n ≤ q - r) : (rest s r q data).take n = (data.drop r).take n := by
  have h1 := h.hd
  have h2 := h.hrq
  have h3 := h.hq
  unfold rest
  rw [List.take_append_of_le_length (by simp; omega), List.take_take, Nat.min_eq_left hn]
theorem RdD.bytes {w : World} {b g : Nat} {X : Src} {r q : Nat} {s : List UInt8} {err : Value} {lb lr : Int} {data : List UInt8} (h : RdD w b g X r q s err lb lr data) : BytesAt w g 0 data :=
  BytesAt.of_blk h.G (by simp [List.take_of_length_le])

set_option maxRecDepth 100000 in
set_option maxHeartbeats 1000000 in
theorem peek_n (b g : Nat) (X : Src) (n k : Nat) (w : World) (c : List UInt8) (h : Bf w b g X c k) (hn : n ≤ c.length) (hn4 : n ≤ 4096) {N : Nat} (E : Env N b g X w) :
    Calls Tryz.prog 102 #[.pointer (some ⟨b, 0, none⟩), .int .i64 n] w (PeekNPost b g X n k c w) := by
  obtain ⟨r, q, s, err, lb, lr, data, h, hc, hk⟩ := h
  obtain ⟨h0, h2, h3, h4, h5, h6⟩ := h.cells
  have fz := h.B.frozen
  have H := Lib.hid h
  have HE := Lib.hid E
  have HC := Lib.hid hc
  have HK := Lib.hid hk
  have hrq := h.hrq
  have hq := h.hq
  have en0 : decide ((n : Int) < 0) = false := decide_eq_false (by omega)
  have en4 : decide ((4096 : Int) < (n : Int)) = false := decide_eq_false (by omega)
  have en : (0 : Int) ≤ (n : Int) := by omega
  clear h hc E hk
  go_enter Tryz.func102, Tryz.ntmps102
  go_upto_block 0 with (fail)
  go_cut [] (fun wx => ∃ (r' q' : Nat) (s' : List UInt8) (err' : Value) (data' : List UInt8), RdD wx b g X r' q' s' err' (-1) (-1) data' ∧ n ≤ q' - r' ∧ k ≤ q' - r' ∧ (n ≤ k → q' - r' = k) ∧ rest s' r' q' data' = c ∧ Keeps (InX b g X) w wx)
  case first =>
    go_wp2
    go_loopg [] s.length (fun m wx => ∃ (r' q' : Nat) (s' : List UInt8) (err' : Value) (data' : List UInt8), RdD wx b g X r' q' s' err' (-1) (-1) data' ∧ m = s'.length ∧ k ≤ q' - r' ∧ (n ≤ k → q' - r' = k) ∧ rest s' r' q' data' = c ∧ Keeps (InX b g X) w wx)
    case atStart =>
      exact ⟨r, q, s, err, data, H.out.to (by repeat (first | assumption | exact Keeps.refl _ _ | apply Keeps.drewN | apply Keeps.drew | apply Keeps.alloc | (refine Keeps.setCell ?_ (.inl (by simp [In])) _))) hrq hq (((H.out.B.set 5 _).set 6 _).to rfl), rfl, by have := HK.out; omega, fun _ => HK.out.symm, HC.out, Keeps.x1 (by repeat (first | assumption | exact Keeps.refl _ _ | apply Keeps.drewN | apply Keeps.drew | apply Keeps.alloc | (refine Keeps.setCell ?_ (.inl (by simp [In])) _)))⟩
    case round =>
      obtain ⟨r', q', s', err', data', R1, hm, hk1, hk2, hr1, K1⟩ := hrel
      clear h0 h2 h3 h4 h5 h6 fz hrq hq
      obtain ⟨h0, h2, h3, h4, h5, h6⟩ := R1.cells
      have hq := R1.hq
      have hrq := R1.hrq
      have HR := Lib.hid R1
      have HY := Lib.hid hr1
      have HM := Lib.hid hm
      have HK2 := Lib.hid hk2
      have b2 : (0 : Int) ≤ (q' : Int) - r' := by omega
      clear R1 hr1 hm hk2
      by_cases hin : n ≤ q' - r'
      · have e1 : decide ((q' : Int) - r' < n) = false := decide_eq_false (by omega)
        have e2 : (n : Int) ≤ (q' : Int) - r' := by omega
        go_wp2
        go_quiet (fail)
        go_wp2
        go_meet
        exact ⟨r', q', s', err', data', HR.out.drewN _, hin, hk1, HK2.out, HY.out, K1.drewN _⟩
      · have hne : s' ≠ [] := by
          rintro rfl
          have h1 := rest_len HR.out
          rw [HY.out] at h1
          simp at h1
          omega
        have herr := HR.out.err_nil hne
        subst herr
        have e1 : decide ((q' : Int) - r' < n) = true := decide_eq_true (by omega)
        have e3 : decide ((q' : Int) - r' < 4096) = true := decide_eq_true (by omega)
        have e4 : (q' : Int) - r' < n := by omega
        have e5 : (q' : Int) - r' < 4096 := by omega
        go_wp2
        go_quiet (fail)
        go_wp2_with (fail)
        refine (fill_rd b g r' q' X s' (-1) (-1) data' _ (HR.out.drewN _) (by omega) (HE.out.keep3 (K1.drewN _))).mono ?_
        rintro e W2 ⟨rfl, data2, n2, err2, R2, hn2, hn3, -, hr2, -, K2⟩
        have hn2 := hn2 hne
        have K2 := K2.drewN_left
        clear h0 h2 h3 h4 h5 h6
        go_wp2
        go_roundg (s'.drop n2).length
        case measure => have := HM.out; rw [List.length_drop]; omega
        case rel => exact ⟨0, _, _, err2, data2, R2, rfl, by omega, fun hh => by omega, hr2.trans HY.out, K1.trans' K2⟩
  case rest =>
    obtain ⟨r', q', s', err', data', R1, hin, hk1, hk2, hr1, K1⟩ := hcut
    clear h0 h2 h3 h4 h5 h6 fz hrq hq
    obtain ⟨h0, h2, h3, h4, h5, h6⟩ := R1.cells
    have hq := R1.hq
    have hrq := R1.hrq
    have HR := Lib.hid R1
    have HY := Lib.hid hr1
    have HK2 := Lib.hid hk2
    obtain ⟨t, ht⟩ : ∃ t : Nat, t = r' + n := ⟨_, rfl⟩
    have hsum : (r' : Int) + n = t := by omega
    have hsum2 : IntKind.i64.wrap ((r' : Int) + n) = t := by rw [hsum]; exact IntWalk.i64_in _ (by omega)
    have b1 : (r' : Int) ≤ t := by omega
    have b2 : (t : Int) ≤ 4096 := by omega
    have e1 : decide ((q' : Int) - r' < n) = false := decide_eq_false (by omega)
    have e2 : (n : Int) ≤ (q' : Int) - r' := by omega
    have HT := Lib.hid ht
    clear hr1 R1 hk2 ht
    go_wp2
    go_quiet (fail)
    go_wp2
    go_quiet (fail)
    go_wp2
    go_ret2
    have ht := HT.out
    have hb := HR.out.bytes.cut r' n (cap := 4096) (by rw [HR.out.hd]; exact Nat.le_refl _)
    have hc := rest_take HR.out n hin
    rw [HY.out] at hc
    refine ⟨cutAt 0 r' 4096 1, 4096 - r', q' - r', ?_, by omega, ?_, ⟨r', q', s', err', -1, -1, data', (HR.out.drewN _).drewN _, HY.out, rfl⟩, hin, hk1, HK2.out, (K1.drewN _).drewN _⟩
    · have e9 : t - r' = n := by omega
      exact congrArg (fun m => Ending.returned (.tuple #[.slice (some ⟨g, cutAt 0 r' 4096 1, none⟩) m (4096 - r'), .nilIface])) e9
    · rw [hc]; exact hb.keep (S := No) (((Keeps.refl _ _).drewN _).drewN _) (fun h => h)

/-- Peek(1): the next byte. -/
def PeekPost (b g : Nat) (X : Src) (x : UInt8) (c : List UInt8) (w : World) (e : Ending) (w' : World) : Prop :=
  ∃ o cap : Nat, e = .returned (.tuple #[.slice (some ⟨g, o, none⟩) 1 cap, .nilIface]) ∧ w'.cell? ⟨g, o, none⟩ = some (byt x) ∧ Rd w' b g X (x :: c) ∧ Keeps (InX b g X) w w'

theorem peek_some (b g : Nat) (X : Src) (w : World) (x : UInt8) (c : List UInt8) (h : Rd w b g X (x :: c)) {N : Nat} (E : Env N b g X w) :
    Calls Tryz.prog 102 #[.pointer (some ⟨b, 0, none⟩), .int .i64 1] w (PeekPost b g X x c w) := by
  obtain ⟨k, hk⟩ := h.bf
  refine (peek_n b g X 1 k w (x :: c) hk (by simp) (by decide) E).mono ?_
  rintro e w' ⟨o, cap, k', rfl, -, hb, R, -, -, -, K⟩
  have h1 := hb.cell (i := 0) (by simp)
  exact ⟨o, cap, rfl, by simpa using h1, R.rd, K⟩

theorem buffered (b g : Nat) (X : Src) (k : Nat) (w : World) (c : List UInt8) (h : Bf w b g X c k) :
    Calls Tryz.prog 83 #[.pointer (some ⟨b, 0, none⟩)] w fun e w' => e = .returned (.int .i64 k) ∧ ∃ n, w' = w.drewN n := by
  obtain ⟨r, q, s, err, lb, lr, data, h, hc, hk⟩ := h
  refine (Go.Proofs.YtjbbapodcngnaaaGreatDoor.buffered b _ r q w h.B rfl rfl h.hrq h.hq).mono ?_
  rintro e w' ⟨rfl, hn⟩
  refine ⟨?_, hn⟩
  have := h.hrq
  rw [hk, Int.ofNat_sub this]
end Go.Proofs.YtjbbapodcngnaaaGreatDoor.G
