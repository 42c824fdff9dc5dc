/- spec: HeaderOf, SameHFields. -/
import Derived.Test.YtjbbapodcngnaaaDoorSpH
namespace Go.Proofs.YtjbbapodcngnaaaDoor
open Go.RowKit Hdr

theorem results_tmp4 {fn : Func} {t u v x : Tmp} (h : fn.results = #[.tmp t, .tmp u, .tmp v, .tmp x]) (tmps : Array Value) (P : Program) (w : World) :
    (results fn tmps).run P w = .ok (.tuple #[tmps.getD t undef, tmps.getD u undef, tmps.getD v undef, tmps.getD x undef]) w := by
  simp [results, h]

/-- What the specification's HeaderOf leaves. -/
def SHoPost (r : H9) (w : World) (e : Ending) (w' : World) : Prop :=
  ∃ v, e = .returned (.tuple #[v, .int .i64 r.taken, .bool r.ok, .bool r.sure]) ∧ w'.ownsRow w.heap.size 28 3 v r.fs.length (hfs r.fs) ∧ Keeps No w w' ∧ r.fs.length ≤ 100000

set_option maxRecDepth 100000 in
set_option maxHeartbeats 1000000 in
theorem specHeaderOf_any (l : List UInt8) (w : World) (hlen : l.length ≤ 100000) :
    Calls Tryd.prog 6 #[str l] w (SHoPost (h9 l) w) := by
  have H := header9_any l w hlen
  generalize h9 l = r at *
  obtain ⟨fs, taken, ok, sure⟩ := r
  have HH := Lib.hid H
  clear H
  go_enter Tryd.func6, Tryd.ntmps6
  go_wp2_with (fail)
  refine HH.out.mono ?_
  rintro e w1 ⟨v, rfl, hrow, K, hn⟩
  simp only at hrow hn
  rw [f9s_f9c, ← List.length_map (f := rawF)] at hrow
  have hr9 := Row9.of_row hrow
  have HT := told9_any (fun p => p.raw) (fs.map rawF) v w1 hr9 (by simpa using hn) (fun p hp w => by
    simp only [List.mem_map] at hp
    obtain ⟨q, _, rfl⟩ := hp
    exact bytes9_raw q.k q.v q.raw w)
  have e1 : ((fs.map rawF).map fun p : F9 => (⟨p.k, p.v, p.raw⟩ : PF)) = fs := by
    rw [List.map_map]
    conv => rhs; rw [← List.map_id fs]
    rfl
  rw [e1] at HT
  have HHT := Lib.hid HT
  obtain ⟨va, vc, hv⟩ := ownsRow_shape hrow
  rw [List.length_map] at hv
  subst hv
  clear HT hrow hr9 e1 HH
  go_wp2_with (fail)
  refine HHT.out.mono ?_
  rintro e w2 ⟨v2, rfl, hrow2, K2⟩
  have HR2 := Lib.hid hrow2
  clear hrow2
  go_wp2
  (try simp only [Exit.inBlock, Exit.then])
  refine bodyPost_ret (results_tmp4 rfl _ _ _) rfl ?_
  exact ⟨_, rfl, ownsRow_mono HR2.out K.size, K.trans' K2, hn⟩

/-- A row of told fields, somewhere. -/
def Row3 (w : World) (v : Value) (l : List PF) : Prop :=
  (v = .slice none 0 0 ∧ l = []) ∨ ∃ g cap, v = .slice (some ⟨g, 0, none⟩) l.length cap ∧ l.length ≤ cap ∧ ∃ cs f, w.heap[g]? = some (.cells cs 28 f) ∧ cs.toList.take (l.length * 3) = hfs l
theorem Row3.of_row {w : World} {base : Nat} {v : Value} {l : List PF} (h : w.ownsRow base 28 3 v l.length (hfs l)) : Row3 w v l := by
  obtain ⟨h1, h2⟩ := h
  rcases h2 with ⟨rfl, h2⟩ | ⟨g, cap, cur, rfl, hb, hg, hc, hm, hs, ht⟩
  · exact .inl ⟨rfl, List.length_eq_zero_iff.1 (by simpa using h2)⟩
  · exact .inr ⟨g, cap, rfl, hc, cur, (0, 0), hg, ht⟩
theorem hfs_at : ∀ (l : List PF) (i : Nat) (h : i < l.length), (hfs l)[i * 3]? = some (str l[i].k) ∧ (hfs l)[i * 3 + 1]? = some (str l[i].v) ∧ (hfs l)[i * 3 + 2]? = some (str l[i].raw)
  | p :: l, 0, _ => ⟨rfl, rfl, rfl⟩
  | p :: l, i + 1, h => by
    have ih := hfs_at l i (by simpa using h)
    have e : hfs (p :: l) = str p.k :: str p.v :: str p.raw :: hfs l := rfl
    rw [e, show (i + 1) * 3 = i * 3 + 1 + 1 + 1 by omega]
    simp only [List.getElem?_cons_succ, List.getElem_cons_succ]
    exact ih
theorem Row3.shape {w : World} {v : Value} {l : List PF} (h : Row3 w v l) : ∃ a cap, v = .slice a l.length cap := by
  rcases h with ⟨rfl, rfl⟩ | ⟨g, cap, rfl, _⟩
  · exact ⟨none, 0, rfl⟩
  · exact ⟨_, _, rfl⟩
theorem Row3.at {w : World} {a : Option Addr} {n cap : Nat} {l : List PF} (h : Row3 w (.slice a n cap) l) {j : Nat} (hj : j < l.length) :
    ∃ g, a = some ⟨g, 0, none⟩ ∧ n = l.length ∧ w.cell? ⟨g, j * 3, none⟩ = some (str l[j].k) ∧ w.cell? ⟨g, j * 3 + 1, none⟩ = some (str l[j].v) ∧ w.cell? ⟨g, j * 3 + 2, none⟩ = some (str l[j].raw) := by
  rcases h with ⟨_, rfl⟩ | ⟨g, cap', h1, h2, cs, f, hg, ht⟩
  · simp at hj
  · injection h1 with h1 h3 h4
    have hc : ∀ i u, (hfs l)[i]? = some u → w.cell? ⟨g, i, none⟩ = some u := fun i u hu => by
      have hil : i < (hfs l).length := (List.getElem?_eq_some_iff.1 hu).1
      rw [← ht] at hu hil
      rw [List.length_take] at hil
      rw [List.getElem?_take, if_pos (by omega)] at hu
      simp only [World.cell?, hg]
      simpa using hu
    obtain ⟨a1, a2, a3⟩ := hfs_at l j hj
    exact ⟨g, h1, h3, hc _ _ a1, hc _ _ a2, hc _ _ a3⟩
theorem Row3.keep {S : Nat → Prop} {w w' : World} {v : Value} {l : List PF} (h : Row3 w v l) (k : Keeps S w w') (hS : ∀ b, v.ownBlock = some b → ¬ S b) : Row3 w' v l := by
  rcases h with h | ⟨g, cap, rfl, h2, cs, f, hg, ht⟩
  · exact .inl h
  · exact .inr ⟨g, cap, rfl, h2, cs, f, (k.block g (Array.getElem?_eq_some_iff.1 hg).1 (hS g rfl)).trans hg, ht⟩

/-- What SameHFields leaves. -/
def SamePost (q : Prop) (w : World) (e : Ending) (w' : World) : Prop := ∃ t : Bool, e = .returned (.bool t) ∧ (t = true ↔ q) ∧ ∃ n, w' = w.drewN n

instance : DecidableEq PF := fun a b => by
  cases a; cases b
  exact decidable_of_iff (_ ∧ _ ∧ _) (by rw [PF.mk.injEq])

theorem beq_str (a b : List UInt8) : (((⟨a.toArray⟩ : ByteArray).toList == (⟨b.toArray⟩ : ByteArray).toList)) = decide (a = b) := by
  rw [← beq_toListBytes, str_beq]
theorem run_neq_hf (w : World) (p q : PF) : (Go.binOp .neq 28 (.agg #[str p.k, str p.v, str p.raw]) (.agg #[str q.k, str q.v, str q.raw])).run Tryd.prog w = .ok (.bool (!decide (p = q))) w := by
  have hf : (Tryd.prog.fieldsOf 28).toList.map (fun f => (f.name, f.type, f.offset)) = [("Key", 9, 0), ("Value", 9, 1), ("Raw", 9, 2)] := by kernel_rfl
  rw [run_neq_struct, run_equalIn_struct w 9999 28 _ _ (by kernel_rfl) Tryd.stoodInHeld28]
  generalize (Tryd.prog.fieldsOf 28).toList = fl at hf
  have hl := congrArg List.length hf
  rcases fl with _ | ⟨f1, _ | ⟨f2, _ | ⟨f3, _ | ⟨f4, r⟩⟩⟩⟩ <;> simp at hl
  · simp only [List.map_cons, List.map_nil, List.cons.injEq, Prod.mk.injEq, and_true] at hf
    obtain ⟨⟨a1, a2, a3⟩, ⟨b1, b2, b3⟩, ⟨c1, c2, c3⟩⟩ := hf
    have e : decide (p = q) = (decide (p.k = q.k) && (decide (p.v = q.v) && decide (p.raw = q.raw))) := by
      rw [Bool.eq_iff_iff]
      obtain ⟨pk, pv, pr⟩ := p
      obtain ⟨qk, qv, qr⟩ := q
      simp
    rw [e]
    by_cases h1 : p.k = q.k <;> by_cases h2 : p.v = q.v <;> by_cases h3 : p.raw = q.raw <;>
      simp [Op.eqFields, a1, a2, a3, b1, b2, b3, c1, c2, c3, part, run_equalIn_string, h1, h2, h3]

set_option maxRecDepth 100000 in
set_option maxHeartbeats 1000000 in
theorem sameHFields_any (a b : List PF) (va vb : Value) (w : World) (ha : Row3 w va a) (hb : Row3 w vb b) (_hna : a.length ≤ 100000) (hnb : b.length ≤ 100000) :
    Calls Tryd.prog 10 #[va, vb] w (SamePost (a = b) w) := by
  obtain ⟨aa, ac, rfl⟩ := ha.shape
  obtain ⟨ba, bc, rfl⟩ := hb.shape
  have HA := Lib.hid ha
  have HB := Lib.hid hb
  clear ha hb
  by_cases hl : a.length = b.length
  · have HL := Lib.hid hl
    rw [← hl]
    generalize hn : a.length = n at *
    have HN := Lib.hid hn
    clear hl hn
    go_enter Tryd.func10, Tryd.ntmps10
    go_wp2
    go_loopg [13] n (fun q s13 wr => ∃ j : Nat, s13 = .int .i64 (j : Int) ∧ j + q = n ∧ a.take j = b.take j ∧ ∃ m, wr = w.drewN m)
    case atStart => exact ⟨0, rfl, by omega, rfl, 0, rfl⟩
    case round =>
      obtain ⟨j, rfl, hjn, htk, m, rfl⟩ := hrel
      have HJN := Lib.hid hjn
      have HTK := Lib.hid htk
      have hjl : j ≤ n := by omega
      clear hjn htk
      by_cases hj : j < n
      · have hjj : (j : Int) < (n : Int) := by omega
        have hja : j < a.length := by have := HN.out; omega
        have hjb : j < b.length := by have := HL.out; omega
        obtain ⟨ga, rfl, -, a1, a2, a3⟩ := HA.out.at hja
        obtain ⟨gb, rfl, -, b1, b2, b3⟩ := HB.out.at hjb
        have hta : a.take (j + 1) = a.take j ++ [a[j]] := List.take_succ_eq_append_getElem hja
        have htb : b.take (j + 1) = b.take j ++ [b[j]] := List.take_succ_eq_append_getElem hjb
        have hne : a[j] ≠ b[j] → a ≠ b := fun h h2 => by subst h2; exact h rfl
        generalize a[j] = p at *
        generalize b[j] = p' at *
        have HTA := Lib.hid hta
        have HTB := Lib.hid htb
        have HNE := Lib.hid hne
        clear hta htb hne
        have hG := Tryd.eqGuardType28
        have hrun := fun W => run_neq_hf W p p'
        go_upto_region 6 with (fail)
        go_quiet (fail)
        generalize hd : decide (p = p') = dd
        have HD := Lib.hid hd
        clear hd
        cases dd with
        | true =>
          go_wp2
          go_roundg (gk - 1)
          case measure => have := HJN.out; omega
          case rel =>
            exact ⟨j + 1, by simp, by have := HJN.out; omega, by rw [HTA.out, HTB.out, HTK.out, of_decide_eq_true HD.out], m + nq, rfl⟩
        | false =>
          go_wp2
          go_ret
          exact ⟨false, rfl, ⟨fun h => (by cases h), fun h => absurd h (HNE.out (of_decide_eq_false HD.out))⟩, m + nq, World.drewN_drewN _ _ _⟩
      · have hjn : j = n := by omega
        have e1 : decide ((j : Int) < (n : Int)) = false := decide_eq_false (by omega)
        have heq : a = b := by
          have h1 := HTK.out
          have h2 := HN.out
          have h3 := HL.out
          rwa [List.take_of_length_le (by omega), List.take_of_length_le (by omega)] at h1
        have HEQ := Lib.hid heq
        clear hjn heq
        go_wp2
        go_ret
        exact ⟨true, rfl, ⟨fun _ => HEQ.out, fun _ => rfl⟩, m, rfl⟩
  · have e1 : ((a.length : Int) != (b.length : Int)) = true := by simp; omega
    have e2 : (a.length == b.length) = false := by simpa using hl
    have e3 : ((a.length : Int) == (b.length : Int)) = false := by simp; omega
    have HL := Lib.hid hl
    clear hl
    go_enter Tryd.func10, Tryd.ntmps10
    go_wp2
    go_ret
    exact ⟨false, rfl, ⟨fun h => (by cases h), fun h => absurd (congrArg List.length h) HL.out⟩, 0, rfl⟩

/-- What a law leaves. -/
def TruePost (w : World) (e : Ending) (w' : World) : Prop := e = .returned (.bool true) ∧ Keeps No w w'
end Go.Proofs.YtjbbapodcngnaaaDoor
