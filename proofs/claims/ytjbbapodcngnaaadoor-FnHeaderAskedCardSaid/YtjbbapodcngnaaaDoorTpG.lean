/- CanonicalKey. -/
import Derived.Test.YtjbbapodcngnaaaDoorTpF
import Derived.Lib.ConvBytes
import Derived.Laws.IdiomStrings
namespace Go.Proofs.YtjbbapodcngnaaaDoor
open Go.RowKit Hdr

/-- A string of bytes. -/
abbrev str (l : List UInt8) : Value := .string ⟨l.toArray⟩

/-- Block b begins with these bytes; no cell of it is frozen. -/
def Row (w : World) (b : Nat) (l : List UInt8) : Prop :=
  ∃ cs f, w.heap[b]? = some (.cells cs 5 f) ∧ cs.toList.take l.length = u8s l ∧ cs.size ≤ f.1 ∧ l.length ≤ cs.size

theorem Row.bytes {w : World} {b : Nat} {l : List UInt8} (h : Row w b l) : BytesAt w b 0 l := by
  obtain ⟨cs, f, h1, h2, _⟩ := h
  exact ⟨cs, 5, f, h1, by rw [List.drop_zero]; exact h2⟩
theorem Row.frozen {w : World} {b : Nat} {l : List UInt8} (h : Row w b l) {i : Nat} (hi : i < l.length) : w.frozen? ⟨b, i, none⟩ = false := by
  obtain ⟨cs, f, h1, h2, h3, h4⟩ := h
  obtain ⟨lo, hi'⟩ := f
  simp only [World.frozen?, h1]
  simp only at h3
  simp only [Bool.and_eq_false_iff, decide_eq_false_iff_not]
  omega
theorem Row.keep {S : Nat → Prop} {w w' : World} {b : Nat} {l : List UInt8} (h : Row w b l) (k : Keeps S w w') (hS : ¬ S b) : Row w' b l := by
  obtain ⟨cs, f, h1, h2⟩ := h
  exact ⟨cs, f, (k.block b (Array.getElem?_eq_some_iff.1 h1).1 hS).trans h1, h2⟩
theorem Row.set {w : World} {b : Nat} {l : List UInt8} (h : Row w b l) (i : Nat) (x : UInt8) : Row (w.setCell ⟨b, i, none⟩ (byt x)) b (l.set i x) := by
  obtain ⟨cs, f, h1, h2, h3, h4⟩ := h
  refine ⟨cs.setIfInBounds i (byt x), f, ?_, ?_, by simpa using h3, by simpa using h4⟩
  · simp only [World.setCell, Array.getElem?_modify, if_true, h1, Option.map_some]
    rfl
  · rw [Array.toList_setIfInBounds, List.length_set, List.take_set, h2]
    simp [u8s, List.map_set]
theorem Row.new (w : World) (s : ByteArray) : Row (Lib.bytesWorld w 5 s) w.heap.size s.data.toList := by
  refine ⟨_, _, Lib.bytesWorld_at_new w 5 s, ?_, Nat.le_refl _, ?_⟩
  · unfold Lib.bytesCells
    rw [Array.toList_append, List.take_append_of_le_length (by simp), List.take_of_length_le (by simp)]
    simp [u8s]
    intro a _
    rfl
  · simp [Lib.bytesCells]

theorem bytesWorld_keeps (w : World) (e : TypeId) (s : ByteArray) (S : Nat → Prop) : Keeps S w (Lib.bytesWorld w e s) :=
  ⟨rfl, rfl, rfl, by rw [Lib.bytesWorld_size]; omega, fun k hk _ => Lib.bytesWorld_at_old w e s k hk⟩

/-- '[]byte(s)'. -/
theorem run_bytes_of (w : World) (l : List UInt8) : ∃ cap W, (convert 9 41 (str l)).run Tryd.prog w = .ok (.slice (some ⟨w.heap.size, 0, none⟩) l.length cap) W ∧ Row W w.heap.size l ∧ Keeps No w W ∧ W.heap.size = w.heap.size + 1 :=
  ⟨_, _, Lib.run_convert_string_bytes w 9 41 5 ⟨l.toArray⟩ (u := .string) Tryd.underlying9 Tryd.underlying41 Tryd.underlying5, Row.new w ⟨l.toArray⟩, bytesWorld_keeps w _ _ _, Lib.bytesWorld_size w _ _⟩
/-- 'string(b)'. -/
theorem run_string_of (w : World) (b o cap : Nat) (l : List UInt8) (n : Nat) (hn : n = l.length) (h : BytesAt w b o l) : (convert 41 9 (.slice (some ⟨b, o, none⟩) n cap)).run Tryd.prog w = .ok (str l) w := by
  subst hn
  exact run_convert_bytes_back (P := Tryd.prog) w 41 9 5 ⟨b, o, none⟩ cap l Tryd.underlying41 Tryd.underlying5 Tryd.underlying9 (fun j hj => h.cells j _ (by rw [u8s_get]; simp [hj, byt]))

/-- What CanonicalKey leaves. -/
def CanPost (l : List UInt8) (w : World) (e : Ending) (w' : World) : Prop := e = .returned (str (canon l)) ∧ Keeps No w w'

set_option maxRecDepth 100000 in
set_option maxHeartbeats 1000000 in
theorem canonicalKey_any (l : List UInt8) (w : World) (hlen : l.length ≤ 1000000000) :
    Calls Tryd.prog 26 #[str l] w (CanPost l w) := by
  obtain ⟨cap, W, hcv, hrow, K, hsz⟩ := run_bytes_of w l
  unfold str at hcv ⊢
  go_enter Tryd.func26, Tryd.ntmps26
  go_wp2
  clear hcv
  go_loopg [3, 11] l.length (fun n s3 s11 wr => ∃ (pre post : List UInt8) (up : Bool), s3 = .bool up ∧ s11 = .int .i64 pre.length ∧ pre.length + post.length = l.length ∧ n = post.length ∧ post = l.drop pre.length ∧ (l.take pre.length).all tok = true ∧ canonGo true l = pre ++ canonGo up post ∧
    Row wr w.heap.size (pre ++ post) ∧ Keeps (Up w.heap.size []) w wr)
  case atStart => exact ⟨[], l, true, rfl, rfl, by simp, rfl, rfl, rfl, rfl, hrow, K.of_no⟩
  case round =>
    obtain ⟨pre, post, up, rfl, rfl, hl, hn, hpo, hal, hc, hr, kr⟩ := hrel
    have HC := Lib.hid hc
    have HA := Lib.hid hal
    have HN := Lib.hid hn
    have HP := Lib.hid hpo
    have HL := Lib.hid hl
    have HR := Lib.hid hr
    have hp1 : pre.length ≤ l.length := by omega
    clear hc hal hn hpo hl hr
    cases post with
    | nil =>
      have hpl : pre.length = l.length := by have := HL.out; simpa using this
      have e1 : decide (pre.length < l.length) = false := decide_eq_false (by omega)
      have hcan : pre = canon l := by
        have h1 := HA.out
        have h2 := HC.out
        rw [hpl, List.take_length] at h1
        rw [show canonGo up [] = [] from rfl, List.append_nil] at h2
        unfold canon
        rw [if_pos h1, h2]
      have hb := HR.out.bytes
      rw [List.append_nil] at hb
      have hst := run_string_of wr w.heap.size 0 cap pre l.length hpl.symm hb
      unfold str at hst
      have HPL := Lib.hid hcan
      clear hpl hcan hb
      go_wp2
      go_ret
      exact ⟨by rw [← HPL.out]; rfl, (kr.down (Nat.le_refl _)).mono (fun _ _ h => by cases h)⟩
    | cons c r =>
      have hpl : pre.length < l.length := by have := HL.out; simp at this; omega
      have e1 : decide ((pre.length : Int) < (l.length : Int)) = true := decide_eq_true (by omega)
      have hi2 : (pre.length : Int) < (l.length : Int) := by omega
      have hx := HR.out.bytes.cell (i := pre.length) (by simp)
      rw [List.getElem_append_right (Nat.le_refl _)] at hx
      simp only [Nat.sub_self, List.getElem_cons_zero, Nat.zero_add] at hx
      unfold byt at hx
      have hfz : wr.frozen? ⟨w.heap.size, pre.length, none⟩ = false := HR.out.frozen (by simp)
      have hset := fun x : UInt8 => HR.out.set pre.length x
      have htk : l.take (pre.length + 1) = l.take pre.length ++ [c] := by
        have h1 := HP.out
        rw [List.take_succ_eq_append_getElem hpl]
        congr 2
        rw [List.drop_eq_getElem_cons hpl] at h1
        injection h1 with h1 _
        exact h1.symm
      have HTK := Lib.hid htk
      clear htk
      go_wp2_with (fail)
      refine (tokenByte_any c _).mono ?_
      rintro e w1 ⟨rfl, rfl⟩
      cases htok : tok c with
      | false =>
        have hcan : canon l = l := by
          unfold canon
          rw [if_neg]
          intro h
          rw [List.all_eq_true] at h
          have h2 := h c (by rw [← List.take_append_drop pre.length l, ← HP.out]; simp)
          rw [htok] at h2
          cases h2
        have HT := Lib.hid htok
        have HCN := Lib.hid hcan
        clear htok hcan
        go_wp2
        go_ret
        exact ⟨by rw [HCN.out]; rfl, (kr.down (Nat.le_refl _)).mono (fun _ _ h => by cases h)⟩
      | true =>
        have HT := Lib.hid htok
        clear htok
        have hm : c.toNat < 256 := c.toNat_lt
        have hlen2 : pre.length ≤ 1000000000 := by omega
        have hnext : ∀ w2, Row w2 w.heap.size (pre ++ cased up c :: r) → Keeps (Up w.heap.size []) w w2 → ∃ (pre' post : List UInt8) (up' : Bool), Value.bool ((c.toNat : Int) == 45) = .bool up' ∧ Value.int .i64 ((pre.length : Int) + 1) = .int .i64 pre'.length ∧ pre'.length + post.length = l.length ∧ gk - 1 = post.length ∧ post = l.drop pre'.length ∧
            (l.take pre'.length).all tok = true ∧ canonGo true l = pre' ++ canonGo up' post ∧ Row w2 w.heap.size (pre' ++ post) ∧ Keeps (Up w.heap.size []) w w2 := by
          intro w2 h1 h2
          have hcc : ((c.toNat : Int) == 45) = (c == 45) := by
            rw [Bool.eq_iff_iff]
            simp only [beq_iff_eq]
            constructor
            · intro h; apply UInt8.toNat.inj; show c.toNat = 45; omega
            · rintro rfl; rfl
          refine ⟨pre ++ [cased up c], r, c == 45, by rw [hcc], by simp, by have := HL.out; simp at this ⊢; omega, by have := HN.out; simp at this; omega, ?_, ?_, ?_, by simpa using h1, h2⟩
          · have h3 := HP.out
            rw [List.drop_eq_getElem_cons hpl] at h3
            injection h3 with _ h3
            simpa using h3
          · have h3 := HA.out
            simp only [List.length_append, List.length_cons, List.length_nil, Nat.zero_add]
            rw [HTK.out, List.all_append, h3]
            simp [HT.out]
          · rw [HC.out]
            simp [canonGo]
        have hmeas : gk - 1 < gk := by have := HN.out; simp at this; omega
        have hnoop : cased up c = c → Row w1 w.heap.size (pre ++ cased up c :: r) := fun h => by rw [h]; exact HR.out
        have hput : ∀ x, cased up c = x → Row (w1.setCell ⟨w.heap.size, pre.length, none⟩ (byt x)) w.heap.size (pre ++ cased up c :: r) := fun x h => by
          have := hset x
          rw [List.set_append_right _ _ (Nat.le_refl _), Nat.sub_self, List.set_cons_zero] at this
          rw [h]
          exact this
        have hkeep : ∀ v, Keeps (Up w.heap.size []) w (w1.setCell ⟨w.heap.size, pre.length, none⟩ v) := fun v => kr.setCell (.inr (Nat.le_refl _)) v
        clear hp1 HA HC HP HL hset HTK HT HR
        by_cases hA : up = true ∧ 97 ≤ c.toNat ∧ c.toNat ≤ 122
        · obtain ⟨rfl, h1, h2⟩ := hA
          have hcs : cased true c = c - 97 + 65 := by unfold cased; rw [if_pos ⟨rfl, h1, h2⟩]
          have hv : byt (c - 97 + 65) = .int .u8 ((c.toNat : Int) - 97 + 65) := by
            unfold byt
            have : (c - 97 + 65).toNat = c.toNat - 97 + 65 := by
              rw [UInt8.toNat_add, UInt8.toNat_sub_of_le _ _ (by rw [UInt8.le_iff_toNat_le]; exact h1)]
              show (c.toNat - 97 + 65) % 256 = _
              omega
            rw [this]
            congr 1
            omega
          have hp := hput _ hcs
          rw [hv] at hp
          have HP := Lib.hid hp
          clear hp hput hnoop hcs hv
          have e1 : decide ((97 : Int) ≤ (c.toNat : Int)) = true := decide_eq_true (by omega)
          have e2 : decide ((c.toNat : Int) ≤ 122) = true := decide_eq_true (by omega)
          have e3 : IntKind.u8.wrap ((c.toNat : Int) - 97) = (c.toNat : Int) - 97 := by simp only [IntKind.wrap_u8]; omega
          have e4 : IntKind.u8.wrap ((c.toNat : Int) - 97 + 65) = (c.toNat : Int) - 97 + 65 := by simp only [IntKind.wrap_u8]; omega
          go_wp2
          go_roundg (gk - 1)
          case measure => exact hmeas
          case rel => exact hnext _ HP.out (hkeep _)
        · by_cases hB : up = false ∧ 65 ≤ c.toNat ∧ c.toNat ≤ 90
          · obtain ⟨rfl, h1, h2⟩ := hB
            have hcs : cased false c = c - 65 + 97 := by unfold cased; rw [if_neg (by simp), if_pos ⟨rfl, h1, h2⟩]
            have hv : byt (c - 65 + 97) = .int .u8 ((c.toNat : Int) - 65 + 97) := by
              unfold byt
              have : (c - 65 + 97).toNat = c.toNat - 65 + 97 := by
                rw [UInt8.toNat_add, UInt8.toNat_sub_of_le _ _ (by rw [UInt8.le_iff_toNat_le]; exact h1)]
                show (c.toNat - 65 + 97) % 256 = _
                omega
              rw [this]
              congr 1
              omega
            have hp := hput _ hcs
            rw [hv] at hp
            have HP := Lib.hid hp
            clear hp hput hnoop hcs hv
            have e1 : decide ((65 : Int) ≤ (c.toNat : Int)) = true := decide_eq_true (by omega)
            have e2 : decide ((c.toNat : Int) ≤ 90) = true := decide_eq_true (by omega)
            have e3 : IntKind.u8.wrap ((c.toNat : Int) - 65) = (c.toNat : Int) - 65 := by simp only [IntKind.wrap_u8]; omega
            have e4 : IntKind.u8.wrap ((c.toNat : Int) - 65 + 97) = (c.toNat : Int) - 65 + 97 := by simp only [IntKind.wrap_u8]; omega
            go_wp2
            go_roundg (gk - 1)
            case measure => exact hmeas
            case rel => exact hnext _ HP.out (hkeep _)
          · have hcs : cased up c = c := by unfold cased; rw [if_neg hA, if_neg hB]
            have HP := Lib.hid (hnoop hcs)
            clear hput hnoop hcs hkeep
            cases up with
            | true =>
              by_cases h1 : 97 ≤ c.toNat
              · have h2 : ¬ c.toNat ≤ 122 := fun h => hA ⟨rfl, h1, h⟩
                have e1 : decide ((97 : Int) ≤ (c.toNat : Int)) = true := decide_eq_true (by omega)
                have e2 : decide ((c.toNat : Int) ≤ 122) = false := decide_eq_false (by omega)
                clear hA hB
                go_wp2
                go_roundg (gk - 1)
                case measure => exact hmeas
                case rel => exact hnext _ HP.out kr
              · have e1 : decide ((97 : Int) ≤ (c.toNat : Int)) = false := decide_eq_false (by omega)
                clear hA hB
                go_wp2
                go_roundg (gk - 1)
                case measure => exact hmeas
                case rel => exact hnext _ HP.out kr
            | false =>
              by_cases h1 : 65 ≤ c.toNat
              · have h2 : ¬ c.toNat ≤ 90 := fun h => hB ⟨rfl, h1, h⟩
                have e1 : decide ((65 : Int) ≤ (c.toNat : Int)) = true := decide_eq_true (by omega)
                have e2 : decide ((c.toNat : Int) ≤ 90) = false := decide_eq_false (by omega)
                clear hA hB
                go_wp2
                go_roundg (gk - 1)
                case measure => exact hmeas
                case rel => exact hnext _ HP.out kr
              · have e1 : decide ((65 : Int) ≤ (c.toNat : Int)) = false := decide_eq_false (by omega)
                clear hA hB
                go_wp2
                go_roundg (gk - 1)
                case measure => exact hmeas
                case rel => exact hnext _ HP.out kr
end Go.Proofs.YtjbbapodcngnaaaDoor
