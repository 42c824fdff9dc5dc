/- tokenByte, validHeaderKeyByte, CanonicalKey. CanonicalKey. Regions that draw their order: operations that look, in every world of a class; some effects in a row that keep the class; one last effect that waits for all of them, and moves behind it. One walk serves every order. A map from strings to slices of pointers, as a list of groups. Fields in memory; makeHeaderMap. makeHeaderMap. newHeader, newHeaderField. newHeaderField, errors.New, slices of pointers that are appended to. ReadHeader. ReadHeader: the loop. -/
import Derived.Test.YtjbbapodcngnaaaGreatDoorZsac
import Derived.Lib.ConvBytes
import Derived.Laws.IdiomStrings
import Derived.Test.YtjbbapodcngnaaaGreatDoorZsaa
import Derived.OrdersHeld
import Derived.Maps.Own
namespace Go.Proofs.YtjbbapodcngnaaaGreatDoor
open Go.RowKit Hdr

set_option maxRecDepth 100000 in
set_option maxHeartbeats 2000000 in
theorem tokenByte_any (c : UInt8) (w : World) :
    Calls Tryz.prog 133 #[.int .u8 c.toNat] w fun e w' => e = .returned (.bool (tok c)) ∧ w' = w := by
  unfold tok
  generalize hm : c.toNat = m
  clear hm
  go_enter Tryz.func133, Tryz.ntmps133
  go_wp2
  all_goals go_ret
  all_goals refine ⟨congrArg (fun b => Ending.returned (Value.bool b)) (?_ : (_ : Bool) = _), rfl⟩
  all_goals (rw [Bool.eq_iff_iff]; simp only [beq_iff_eq, beq_eq_false_iff_ne, ne_eq, Bool.or_eq_true, decide_eq_true_eq, eq_self, true_iff, Bool.false_eq_true, false_iff] at *; simp only [tokN, signN]; omega)

set_option maxRecDepth 100000 in
set_option maxHeartbeats 1000000 in
theorem validKey_any (c : UInt8) (w : World) :
    Calls Tryz.prog 107 #[.int .u8 c.toNat] w fun e w' => e = .returned (.bool (keyb c)) ∧ w' = w := by
  have hc : c.toNat < 256 := c.toNat_lt
  unfold keyb
  generalize hm : c.toNat = m at *
  clear hm
  go_enter Tryz.func107, Tryz.ntmps107
  go_wp2
  all_goals go_ret
  all_goals refine ⟨congrArg (fun b => Ending.returned (Value.bool b)) (?_ : (_ : Bool) = _), rfl⟩
  all_goals (rw [Bool.eq_iff_iff]; simp only [bne_iff_ne, ne_eq, decide_eq_true_eq, Bool.false_eq_true, false_iff] at *; simp only [keyN]; omega)
end Go.Proofs.YtjbbapodcngnaaaGreatDoor
namespace Go.Proofs.YtjbbapodcngnaaaGreatDoor
open Go.RowKit Hdr

/-- A string of bytes. -/
abbrev str (l : List UInt8) : Value := .string ⟨l.toArray⟩

/-- Block b begins with these bytes; no cell of it is frozen. -/
def Row (w : World) (b : Nat) (l : List UInt8) : Prop :=
  ∃ cs f, w.heap[b]? = some (.cells cs 5 f) ∧ cs.toList.take l.length = u8s l ∧ cs.size ≤ f.1 ∧ l.length ≤ cs.size

theorem Row.bytes {w : World} {b : Nat} {l : List UInt8} (h : Row w b l) : BytesAt w b 0 l := by
  obtain ⟨cs, f, h1, h2, _⟩ := h
  exact ⟨cs, 5, f, h1, by rw [List.drop_zero]; exact h2⟩
theorem Row.frozen {w : World} {b : Nat} {l : List UInt8} (h : Row w b l) {i : Nat} (hi : i < l.length) : w.frozen? ⟨b, i, none⟩ = false := by
  obtain ⟨cs, f, h1, h2, h3, h4⟩ := h
  obtain ⟨lo, hi'⟩ := f
  simp only [World.frozen?, h1]
  simp only at h3
  simp only [Bool.and_eq_false_iff, decide_eq_false_iff_not]
  omega
theorem Row.set {w : World} {b : Nat} {l : List UInt8} (h : Row w b l) (i : Nat) (x : UInt8) : Row (w.setCell ⟨b, i, none⟩ (byt x)) b (l.set i x) := by
  obtain ⟨cs, f, h1, h2, h3, h4⟩ := h
  refine ⟨cs.setIfInBounds i (byt x), f, ?_, ?_, by simpa using h3, by simpa using h4⟩
  · simp only [World.setCell, Array.getElem?_modify, if_true, h1, Option.map_some]
    rfl
  · rw [Array.toList_setIfInBounds, List.length_set, List.take_set, h2]
    simp [u8s, List.map_set]
theorem Row.new (w : World) (s : ByteArray) : Row (Lib.bytesWorld w 5 s) w.heap.size s.data.toList := by
  refine ⟨_, _, Lib.bytesWorld_at_new w 5 s, ?_, Nat.le_refl _, ?_⟩
  · unfold Lib.bytesCells
    rw [Array.toList_append, List.take_append_of_le_length (by simp), List.take_of_length_le (by simp)]
    simp [u8s]
    intro a _
    rfl
  · simp [Lib.bytesCells]

theorem bytesWorld_keeps (w : World) (e : TypeId) (s : ByteArray) (S : Nat → Prop) : Keeps S w (Lib.bytesWorld w e s) :=
  ⟨rfl, rfl, rfl, by rw [Lib.bytesWorld_size]; omega, fun k hk _ => Lib.bytesWorld_at_old w e s k hk⟩

/-- '[]byte(s)'. -/
theorem run_bytes_of (w : World) (l : List UInt8) : ∃ cap W, (convert 9 85 (str l)).run Tryz.prog w = .ok (.slice (some ⟨w.heap.size, 0, none⟩) l.length cap) W ∧ Row W w.heap.size l ∧ Keeps No w W ∧ W.heap.size = w.heap.size + 1 :=
  ⟨_, _, Lib.run_convert_string_bytes w 9 85 5 ⟨l.toArray⟩ (u := .string) Tryz.underlying9 Tryz.underlying85 Tryz.underlying5, Row.new w ⟨l.toArray⟩, bytesWorld_keeps w _ _ _, Lib.bytesWorld_size w _ _⟩
/-- 'string(b)'. -/
theorem run_string_of (w : World) (b o cap : Nat) (l : List UInt8) (n : Nat) (hn : n = l.length) (h : BytesAt w b o l) : (convert 85 9 (.slice (some ⟨b, o, none⟩) n cap)).run Tryz.prog w = .ok (str l) w := by
  subst hn
  exact run_convert_bytes_back (P := Tryz.prog) w 85 9 5 ⟨b, o, none⟩ cap l Tryz.underlying85 Tryz.underlying5 Tryz.underlying9 (fun j hj => h.cells j _ (by rw [u8s_get]; simp [hj, byt]))

/-- What CanonicalKey leaves. -/
def CanPost (l : List UInt8) (w : World) (e : Ending) (w' : World) : Prop := e = .returned (str (canon l)) ∧ Keeps No w w'

set_option maxRecDepth 100000 in
set_option maxHeartbeats 1000000 in
theorem canonicalKey_any (l : List UInt8) (w : World) (hlen : l.length ≤ 1000000000) :
    Calls Tryz.prog 96 #[str l] w (CanPost l w) := by
  obtain ⟨cap, W, hcv, hrow, K, hsz⟩ := run_bytes_of w l
  unfold str at hcv ⊢
  go_enter Tryz.func96, Tryz.ntmps96
  go_wp2
  clear hcv
  go_loopg [3, 11] l.length (fun n s3 s11 wr => ∃ (pre post : List UInt8) (up : Bool), s3 = .bool up ∧ s11 = .int .i64 pre.length ∧ pre.length + post.length = l.length ∧ n = post.length ∧ post = l.drop pre.length ∧ (l.take pre.length).all tok = true ∧ canonGo true l = pre ++ canonGo up post ∧
    Row wr w.heap.size (pre ++ post) ∧ Keeps (Up w.heap.size []) w wr)
  case atStart => exact ⟨[], l, true, rfl, rfl, by simp, rfl, rfl, rfl, rfl, hrow, K.of_no⟩
  case round =>
    obtain ⟨pre, post, up, rfl, rfl, hl, hn, hpo, hal, hc, hr, kr⟩ := hrel
    have HC := Lib.hid hc
    have HA := Lib.hid hal
    have HN := Lib.hid hn
    have HP := Lib.hid hpo
    have HL := Lib.hid hl
    have HR := Lib.hid hr
    have hp1 : pre.length ≤ l.length := by omega
    clear hc hal hn hpo hl hr
    cases post with
    | nil =>
      have hpl : pre.length = l.length := by have := HL.out; simpa using this
      have e1 : decide (pre.length < l.length) = false := decide_eq_false (by omega)
      have hcan : pre = canon l := by
        have h1 := HA.out
        have h2 := HC.out
        rw [hpl, List.take_length] at h1
        rw [show canonGo up [] = [] from rfl, List.append_nil] at h2
        unfold canon
        rw [if_pos h1, h2]
      have hb := HR.out.bytes
      rw [List.append_nil] at hb
      have hst := run_string_of wr w.heap.size 0 cap pre l.length hpl.symm hb
      unfold str at hst
      have HPL := Lib.hid hcan
      clear hpl hcan hb
      go_wp2
      go_ret
      exact ⟨by rw [← HPL.out]; rfl, (kr.down (Nat.le_refl _)).mono (fun _ _ h => by cases h)⟩
    | cons c r =>
      have hpl : pre.length < l.length := by have := HL.out; simp at this; omega
      have e1 : decide ((pre.length : Int) < (l.length : Int)) = true := decide_eq_true (by omega)
      have hi2 : (pre.length : Int) < (l.length : Int) := by omega
      have hx := HR.out.bytes.cell (i := pre.length) (by simp)
      rw [List.getElem_append_right (Nat.le_refl _)] at hx
      simp only [Nat.sub_self, List.getElem_cons_zero, Nat.zero_add] at hx
      unfold byt at hx
      have hfz : wr.frozen? ⟨w.heap.size, pre.length, none⟩ = false := HR.out.frozen (by simp)
      have hset := fun x : UInt8 => HR.out.set pre.length x
      have htk : l.take (pre.length + 1) = l.take pre.length ++ [c] := by
        have h1 := HP.out
        rw [List.take_succ_eq_append_getElem hpl]
        congr 2
        rw [List.drop_eq_getElem_cons hpl] at h1
        injection h1 with h1 _
        exact h1.symm
      have HTK := Lib.hid htk
      clear htk
      go_wp2_with (fail)
      refine (tokenByte_any c _).mono ?_
      rintro e w1 ⟨rfl, rfl⟩
      cases htok : tok c with
      | false =>
        have hcan : canon l = l := by
          unfold canon
          rw [if_neg]
          intro h
          rw [List.all_eq_true] at h
          have h2 := h c (by rw [← List.take_append_drop pre.length l, ← HP.out]; simp)
          rw [htok] at h2
          cases h2
        have HT := Lib.hid htok
        have HCN := Lib.hid hcan
        clear htok hcan
        go_wp2
        go_ret
        exact ⟨by rw [HCN.out]; rfl, (kr.down (Nat.le_refl _)).mono (fun _ _ h => by cases h)⟩
      | true =>
        have HT := Lib.hid htok
        clear htok
        have hm : c.toNat < 256 := c.toNat_lt
        have hlen2 : pre.length ≤ 1000000000 := by omega
        have hnext : ∀ w2, Row w2 w.heap.size (pre ++ cased up c :: r) → Keeps (Up w.heap.size []) w w2 → ∃ (pre' post : List UInt8) (up' : Bool), Value.bool ((c.toNat : Int) == 45) = .bool up' ∧ Value.int .i64 ((pre.length : Int) + 1) = .int .i64 pre'.length ∧ pre'.length + post.length = l.length ∧ gk - 1 = post.length ∧ post = l.drop pre'.length ∧
            (l.take pre'.length).all tok = true ∧ canonGo true l = pre' ++ canonGo up' post ∧ Row w2 w.heap.size (pre' ++ post) ∧ Keeps (Up w.heap.size []) w w2 := by
          intro w2 h1 h2
          have hcc : ((c.toNat : Int) == 45) = (c == 45) := by
            rw [Bool.eq_iff_iff]
            simp only [beq_iff_eq]
            constructor
            · intro h; apply UInt8.toNat.inj; show c.toNat = 45; omega
            · rintro rfl; rfl
          refine ⟨pre ++ [cased up c], r, c == 45, by rw [hcc], by simp, by have := HL.out; simp at this ⊢; omega, by have := HN.out; simp at this; omega, ?_, ?_, ?_, by simpa using h1, h2⟩
          · have h3 := HP.out
            rw [List.drop_eq_getElem_cons hpl] at h3
            injection h3 with _ h3
            simpa using h3
          · have h3 := HA.out
            simp only [List.length_append, List.length_cons, List.length_nil, Nat.zero_add]
            rw [HTK.out, List.all_append, h3]
            simp [HT.out]
          · rw [HC.out]
            simp [canonGo]
        have hmeas : gk - 1 < gk := by have := HN.out; simp at this; omega
        have hnoop : cased up c = c → Row w1 w.heap.size (pre ++ cased up c :: r) := fun h => by rw [h]; exact HR.out
        have hput : ∀ x, cased up c = x → Row (w1.setCell ⟨w.heap.size, pre.length, none⟩ (byt x)) w.heap.size (pre ++ cased up c :: r) := fun x h => by
          have := hset x
          rw [List.set_append_right _ _ (Nat.le_refl _), Nat.sub_self, List.set_cons_zero] at this
          rw [h]
          exact this
        have hkeep : ∀ v, Keeps (Up w.heap.size []) w (w1.setCell ⟨w.heap.size, pre.length, none⟩ v) := fun v => kr.setCell (.inr (Nat.le_refl _)) v
        clear hp1 HA HC HP HL hset HTK HT HR
        by_cases hA : up = true ∧ 97 ≤ c.toNat ∧ c.toNat ≤ 122
        · obtain ⟨rfl, h1, h2⟩ := hA
          have hcs : cased true c = c - 97 + 65 := by unfold cased; rw [if_pos ⟨rfl, h1, h2⟩]
          have hv : byt (c - 97 + 65) = .int .u8 ((c.toNat : Int) - 97 + 65) := by
            unfold byt
            have : (c - 97 + 65).toNat = c.toNat - 97 + 65 := by
              rw [UInt8.toNat_add, UInt8.toNat_sub_of_le _ _ (by rw [UInt8.le_iff_toNat_le]; exact h1)]
              show (c.toNat - 97 + 65) % 256 = _
              omega
            rw [this]
            congr 1
            omega
          have hp := hput _ hcs
          rw [hv] at hp
          have HP := Lib.hid hp
          clear hp hput hnoop hcs hv
          have e1 : decide ((97 : Int) ≤ (c.toNat : Int)) = true := decide_eq_true (by omega)
          have e2 : decide ((c.toNat : Int) ≤ 122) = true := decide_eq_true (by omega)
          have e3 : IntKind.u8.wrap ((c.toNat : Int) - 97) = (c.toNat : Int) - 97 := by simp only [IntKind.wrap_u8]; omega
          have e4 : IntKind.u8.wrap ((c.toNat : Int) - 97 + 65) = (c.toNat : Int) - 97 + 65 := by simp only [IntKind.wrap_u8]; omega
          go_wp2
          go_roundg (gk - 1)
          case measure => exact hmeas
          case rel => exact hnext _ HP.out (hkeep _)
        · by_cases hB : up = false ∧ 65 ≤ c.toNat ∧ c.toNat ≤ 90
          · obtain ⟨rfl, h1, h2⟩ := hB
            have hcs : cased false c = c - 65 + 97 := by unfold cased; rw [if_neg (by simp), if_pos ⟨rfl, h1, h2⟩]
            have hv : byt (c - 65 + 97) = .int .u8 ((c.toNat : Int) - 65 + 97) := by
              unfold byt
              have : (c - 65 + 97).toNat = c.toNat - 65 + 97 := by
                rw [UInt8.toNat_add, UInt8.toNat_sub_of_le _ _ (by rw [UInt8.le_iff_toNat_le]; exact h1)]
                show (c.toNat - 65 + 97) % 256 = _
                omega
              rw [this]
              congr 1
              omega
            have hp := hput _ hcs
            rw [hv] at hp
            have HP := Lib.hid hp
            clear hp hput hnoop hcs hv
            have e1 : decide ((65 : Int) ≤ (c.toNat : Int)) = true := decide_eq_true (by omega)
            have e2 : decide ((c.toNat : Int) ≤ 90) = true := decide_eq_true (by omega)
            have e3 : IntKind.u8.wrap ((c.toNat : Int) - 65) = (c.toNat : Int) - 65 := by simp only [IntKind.wrap_u8]; omega
            have e4 : IntKind.u8.wrap ((c.toNat : Int) - 65 + 97) = (c.toNat : Int) - 65 + 97 := by simp only [IntKind.wrap_u8]; omega
            go_wp2
            go_roundg (gk - 1)
            case measure => exact hmeas
            case rel => exact hnext _ HP.out (hkeep _)
          · have hcs : cased up c = c := by unfold cased; rw [if_neg hA, if_neg hB]
            have HP := Lib.hid (hnoop hcs)
            clear hput hnoop hcs hkeep
            cases up with
            | true =>
              by_cases h1 : 97 ≤ c.toNat
              · have h2 : ¬ c.toNat ≤ 122 := fun h => hA ⟨rfl, h1, h⟩
                have e1 : decide ((97 : Int) ≤ (c.toNat : Int)) = true := decide_eq_true (by omega)
                have e2 : decide ((c.toNat : Int) ≤ 122) = false := decide_eq_false (by omega)
                clear hA hB
                go_wp2
                go_roundg (gk - 1)
                case measure => exact hmeas
                case rel => exact hnext _ HP.out kr
              · have e1 : decide ((97 : Int) ≤ (c.toNat : Int)) = false := decide_eq_false (by omega)
                clear hA hB
                go_wp2
                go_roundg (gk - 1)
                case measure => exact hmeas
                case rel => exact hnext _ HP.out kr
            | false =>
              by_cases h1 : 65 ≤ c.toNat
              · have h2 : ¬ c.toNat ≤ 90 := fun h => hB ⟨rfl, h1, h⟩
                have e1 : decide ((65 : Int) ≤ (c.toNat : Int)) = true := decide_eq_true (by omega)
                have e2 : decide ((c.toNat : Int) ≤ 90) = false := decide_eq_false (by omega)
                clear hA hB
                go_wp2
                go_roundg (gk - 1)
                case measure => exact hmeas
                case rel => exact hnext _ HP.out kr
              · have e1 : decide ((65 : Int) ≤ (c.toNat : Int)) = false := decide_eq_false (by omega)
                clear hA hB
                go_wp2
                go_roundg (gk - 1)
                case measure => exact hmeas
                case rel => exact hnext _ HP.out kr
end Go.Proofs.YtjbbapodcngnaaaGreatDoor
namespace Go.Proofs.YtjbbapodcngnaaaGreatDoor
open Go.RowKit

section
variable {P : Program} {ops : Array Oper} {md : Region.Mode} {C : World → Prop} {w : World}

theorem upon_post {o : Oper} {a : Act} {K : Act → World → Prop} {Q Q' : Exit → Act → World → Prop} (h : ∀ e a w, e ≠ .normal → Q e a w → Q' e a w) {r : Result Next} (hu : o.upon P a K Q r) : o.upon P a K Q' r := by
  cases r with
  | ok n w' =>
    cases n <;> simp only [Oper.upon] at hu ⊢ <;> try exact hu
    case enter f args =>
      refine Calls.mono hu fun e w'' he => ?_
      cases e with
      | returned u => exact he
      | panicked c => exact h _ _ _ (by intro h; cases h) he
      | outgrown => obtain ⟨a, w, he⟩ := he; exact ⟨a, w, h _ _ _ (by intro h; cases h) he⟩
  | halt x w' =>
    cases x <;> simp only [Oper.upon] at hu ⊢ <;> try exact hu
    case panic u => exact h _ _ _ (by intro h; cases h) hu
theorem wpOp_post {i : Nat} {a : Act} {K : Act → World → Prop} {Q Q' : Exit → Act → World → Prop} (h : ∀ e a w, e ≠ .normal → Q e a w → Q' e a w) (hu : wpOp P ops Q i K a w) : wpOp P ops Q' i K a w := by
  unfold wpOp at *
  split
  · rename_i h1; simpa only [h1] using hu
  · rename_i o h1
    simp only [h1] at hu
    split
    · rename_i h2
      rw [if_pos h2] at hu
      rcases hu with hu | ⟨h3, a', w', h4⟩
      · exact .inl (upon_post h hu)
      · exact .inr ⟨h3, a', w', h _ _ _ (by intro h; cases h) h4⟩
    · rename_i h2
      rw [if_neg h2] at hu
      exact hu

/-- An operation that looks: it calls no Go function. -/
def lookOp (o : Oper) : Bool :=
  match o.op with
  | .move _ | .assign _ | .load _ _ | .nilCheck _ | .binOp _ _ _ _ _ | .unOp _ _ _ | .slice _ _ _ _ _ | .fieldAddr _ _ _ | .indexAddr _ _ _ | .lookup _ _ _ _ | .extract _ _ | .convert _ _ _ | .build _ _ | .makeInterface _ _ | .pick _ _ _ => true
  | .call c => match c.callee with
    | .builtin .len => true
    | .builtin .cap => true
    | _ => false
  | _ => false

theorem value_then {r : Result Value} {n : Next} {w' : World} (h : (r.andThen fun a w' => Result.ok (Next.value a) w') = .ok n w') : ∃ v, n = .value v := by
  cases r with
  | ok v w1 => simp [Result.andThen] at h; exact ⟨v, h.1.symm⟩
  | halt x w1 => simp [Result.andThen] at h

theorem value_map {α : Type} {r : Result α} {f : α → Value} {n : Next} {w' : World} (h : (r.andThen fun a w' => Result.ok (Next.value (f a)) w') = .ok n w') : ∃ v, n = .value v := by
  cases r with
  | ok v w1 => simp [Result.andThen] at h; exact ⟨_, h.1.symm⟩
  | halt x w1 => simp [Result.andThen] at h

theorem look_value {o : Oper} {ρ : Operand → Value} (h : lookOp o = true) {n : Next} {w' : World} (hr : (execOp ρ o).run P w = .ok n w') : ∃ v, n = .value v := by
  unfold lookOp at h
  unfold execOp at hr
  split at h
  all_goals (first | (rename_i hx; simp only [hx] at hr) | skip)
  all_goals (try simp only [Sem.run_bind, Sem.run_pure] at hr)
  all_goals first
    | exact value_then hr
    | exact value_map hr
    | (simp at hr; exact ⟨_, hr.1.symm⟩)
    | skip
  · revert hr
    split
    · simp [runtimePanic]
    · simp [runtimePanic]
    · simp [runtimePanic]
    · split
      · simp [runtimePanic]
      · intro h
        simp only [Sem.run_bind] at h
        cases h1 : (Sem.run P program w) with
        | halt x w1 => rw [h1] at h; simp [Result.andThen] at h
        | ok p w1 =>
          rw [h1] at h
          simp only [Result.andThen] at h
          generalize hn : Sem.run P (nilAhead (p.types.size + Made.depth) _ _ _) w1 = r at h
          cases r with
          | halt x w2 => simp at h
          | ok b w2 =>
            simp only at h
            split at h
            · simp [unsupported] at h
            · simp at h; exact ⟨_, h.1.symm⟩
      · intro h; simp at h; exact ⟨_, h.1.symm⟩
    · intro h; simp at h; exact ⟨_, h.1.symm⟩
  · rename_i c _
    split at h
    · rename_i hc
      simp only [resolve, hc, invoke, builtin, Sem.run_bind, Sem.run_pure, Result.andThen_ok] at hr
      exact value_then hr
    · rename_i hc
      simp only [resolve, hc, invoke, builtin, Sem.run_bind, Sem.run_pure, Result.andThen_ok] at hr
      exact value_then hr
    · cases h
  · cases h

/-- What looks yields: in every world of the class the same, and the world stays. -/
theorem YieldsIn.looks {o : Oper} {v : Value} {a : Act} (h : YieldsIn P ops C o v a) (hl : lookOp o = true) : YieldsIf P ops C o v a := by
  rcases h with ⟨h1, h2⟩ | h
  · refine .inl ⟨h1, fun w hw => ?_⟩
    have h3 := h2 w hw
    unfold Oper.quietAt at h3
    have h4 := @look_value P w o a.eval hl
    generalize (execOp a.eval o).run P w = r at h3 h4
    cases r with
    | halt x w' => exact h3.elim
    | ok n w' =>
      cases n <;> simp only [Oper.quietUpon] at h3
      case value u => obtain ⟨rfl, rfl⟩ := h3; rfl
      case skip => obtain ⟨v, hv⟩ := h4 rfl; cases hv
      case enter f args => obtain ⟨v, hv⟩ := h4 rfl; cases hv
  · exact .inr h

/-- Whatever order is picked among the operations below n; C is kept; then L. -/
def wpAnyE (P : Program) (md : Region.Mode) (ops : Array Oper) (Q : Exit → Act → World → Prop) (C : World → Prop) (n : Nat) (L : Array Bool → Act → World → Prop) : Nat → Array Bool → Act → World → Prop
  | 0, listed, a, w => L listed a w
  | f + 1, listed, a, w =>
    Region.ready md ops listed ≠ [] ∧ ∀ i ∈ Region.ready md ops listed, i < n ∧ wpOp P ops Q i (fun a' w' => C w' ∧ wpAnyE P md ops Q C n L f (listed.setIfInBounds i true) a' w') a w

/-- No way out by a panic. -/
def NoP (Q : Exit → Act → World → Prop) : Exit → Act → World → Prop
  | .panic _, _, _ => False
  | e, a, w => Q e a w
theorem NoP.to {Q : Exit → Act → World → Prop} (e : Exit) (a : Act) (w : World) (h : NoP Q e a w) : Q e a w := by
  cases e <;> first | exact h | exact h.elim

theorem wpAny_of_E {n g : Nat} {L : Array Bool → Act → World → Prop} {Q : Exit → Act → World → Prop} (hL : ∀ listed a w, L listed a w → wpAny P md ops Q g listed a w) :
    ∀ (f : Nat) (listed : Array Bool) (a : Act) (w : World), wpAnyE P md ops (NoP Q) C n L f listed a w → wpAny P md ops Q (f + g) listed a w
  | 0, listed, a, w, h => by rw [Nat.zero_add]; exact hL _ _ _ h
  | f + 1, listed, a, w, h => by
    rw [show f + 1 + g = (f + g) + 1 by omega]
    exact ⟨fun h0 => absurd h0 h.1, fun i hi => wpOp_mono (fun a' w' h' => wpAny_of_E hL f _ a' w' h'.2) (wpOp_post (fun e a w _ h => NoP.to e a w h) (h.2 i hi).2)⟩

theorem wpAnyE_first {n i : Nat} {oi : Oper} {v : Value} {L : Array Bool → Act → World → Prop} {Q : Exit → Act → World → Prop} (hi : ops[i]? = some oi) (hsel : ∀ (j : Nat) (o : Oper) cs b, ops[j]? = some o → o.op ≠ .select cs b)
    (hs : Region.sinkB md ops n = true) (hc : afterB md ops n = true) (hn : n < ops.size) (hin : i < n)
    (hdone : ∀ listed a w, L listed a w → ∀ j ∈ Region.ready md ops listed, n ≤ j) :
    ∀ (f : Nat) (listed : Array Bool) (a : Act) (w : World), HeadInv md ops n listed →
      (∀ j oj, ops[j]? = some oj → j ≠ i → listed.getD j true = false → (∀ e ∈ oj.after, Region.binds md e = true → e.on ≠ i) → oi.apart ops oj = true) →
      i ∈ Region.ready md ops listed → YieldsIf P ops C oi v a → C w →
      wpAnyE P md ops (NoP Q) C n L f (listed.setIfInBounds i true) (a.put oi.dst v) w → wpAnyE P md ops (NoP Q) C n L (f + 1) listed a w := by
  intro f
  induction f with
  | zero =>
    intro listed a w inv _ hr hy hw H
    have hun := (mem_ready.1 hr).1
    refine ⟨fun h => (by rw [h] at hr; cases hr), fun j hj => ?_⟩
    have hjn : j < n := by
      rcases Nat.lt_or_ge j n with h | h
      · exact h
      · exact absurd hj (tail_waits' hs hc hn inv _ i rfl hin hun j h)
    refine ⟨hjn, ?_⟩
    by_cases hji : j = i
    · subst hji; exact hy.wpOp hi hw ⟨hw, H⟩
    · have := hdone _ _ _ H j (ready_mono hj hji)
      omega
  | succ f ih =>
    intro listed a w inv hfree hr hy hw H
    have hun := (mem_ready.1 hr).1
    refine ⟨fun h => (by rw [h] at hr; cases hr), fun j hj => ?_⟩
    have hjn : j < n := by
      rcases Nat.lt_or_ge j n with h | h
      · exact h
      · exact absurd hj (tail_waits' hs hc hn inv _ i rfl hin hun j h)
    refine ⟨hjn, ?_⟩
    by_cases hji : j = i
    · subst hji; exact hy.wpOp hi hw ⟨hw, H⟩
    · have h1 := (H.2 j (ready_mono hj hji)).2
      obtain ⟨hjun, oj, hoj, hall⟩ := mem_ready.1 hj
      have hnot : ∀ e ∈ oj.after, Region.binds md e = true → e.on ≠ i := fun e he hb heq => by
        have h1 := hall e he hb
        rw [heq, getD_both hun] at h1
        cases h1
      have h2 := wpOp_putIf hoj (hfree j oj hoj hji hjun hnot) (fun cs b => hsel i oi cs b hi) (fun cs b => hsel j oj cs b hoj) (fun _ _ _ h => h) hy h1
      have hfree' : ∀ k ok, ops[k]? = some ok → k ≠ i → (listed.setIfInBounds j true).getD k true = false →
          (∀ e ∈ ok.after, Region.binds md e = true → e.on ≠ i) → oi.apart ops ok = true := fun k ok hk hki hun hno => by
        refine hfree k ok hk hki ?_ hno
        by_cases hjk : j = k
        · subst hjk; exact hjun
        · rw [getD_set_ne true hjk] at hun; exact hun
      refine wpOp_mono (fun a' w' h3 => ⟨h3.2.1, ih (listed.setIfInBounds j true) a' w' (inv.set hj hjn) hfree' (ready_mono hr (Ne.symm hji)) h3.1 h3.2.1 ?_⟩) h2
      rw [Array.setIfInBounds_comm _ _ hji]
      exact h3.2.2

/-- The looks in the text's order, then the effects, each alone; then n alone, then the rest in the text's order. -/
def lexEffE (md : Region.Mode) (ops : Array Oper) (n g : Nat) : List Nat → Array Bool → Bool
  | [], listed => decide (Region.ready md ops listed = [n]) && Region.lexFrom md ops g (n + 1) (listed.setIfInBounds n true)
  | k :: ef, listed => decide (k < n) && decide (Region.ready md ops listed = [k]) && lexEffE md ops n g ef (listed.setIfInBounds k true)
def lexEffM (md : Region.Mode) (ops : Array Oper) (n g : Nat) (ef : List Nat) : List Nat → Array Bool → Bool
  | [], listed => lexEffE md ops n g ef listed
  | k :: rd, listed => decide (k < n) && ((ops[k]?).map lookOp == some true) && (Region.ready md ops listed).contains k && Region.free md ops listed k && lexEffM md ops n g ef rd (listed.setIfInBounds k true)

def lexEffB (md : Region.Mode) (ops : Array Oper) (rd ef : List Nat) (n : Nat) : Bool :=
  Region.noSelect ops && decide (n < ops.size) && decide (rd.length + ef.length = n) && Region.sinkB md ops n && afterB md ops n && (ops.toList.drop (n + 1)).all pureOp && lexEffM md ops n (ops.size - n - 1) ef rd (Array.replicate ops.size false)

/-- What stands behind an effect. -/
def EffPost (C : World → Prop) (K : Act → World → Prop) (e : Exit) (a : Act) (w : World) : Prop := e = .normal ∧ C w ∧ K a w
theorem EffPost.intro {C : World → Prop} {K : Act → World → Prop} {a : Act} {w : World} (h1 : C w) (h2 : K a w) : EffPost C K .normal a w := ⟨rfl, h1, h2⟩

/-- Effects, each keeping C; then the rest. -/
def wpEffs (P : Program) (ops : Array Oper) (C : World → Prop) (Q : Exit → Act → World → Prop) : List Oper → List Oper → Act → World → Prop
  | [], tl, a, w => wpList P ops Q tl a w
  | o :: ef, tl, a, w => wpList P ops (EffPost C (wpEffs P ops C Q ef tl)) [o] a w

def pick (l : List Oper) (is : List Nat) : List Oper := is.filterMap fun i => l[i]?

theorem wpAnyE_effs {n g : Nat} {Q : Exit → Act → World → Prop} :
    ∀ (ef : List Nat) (listed : Array Bool) (a : Act) (w : World), (∀ k ∈ ef, k < ops.size) → lexEffE md ops n g ef listed = true → wpEffs P ops C Q (pick ops.toList ef) (ops.toList.drop n) a w →
      wpAnyE P md ops (NoP Q) C n (fun listed' a' w' => MidAt md ops n g listed' ∧ wpList P ops Q (ops.toList.drop n) a' w') ef.length listed a w
  | [], listed, a, w, _, hB, h => by
    simp only [lexEffE, Bool.and_eq_true, decide_eq_true_eq] at hB
    exact ⟨hB, h⟩
  | k :: ef, listed, a, w, hk, hB, h => by
    simp only [lexEffE, Bool.and_eq_true, decide_eq_true_eq] at hB
    obtain ⟨⟨hkn, hr⟩, hB⟩ := hB
    have hks := hk k (List.mem_cons_self ..)
    have h0 : ops[k]? = some ops[k] := Array.getElem?_eq_getElem hks
    have hp : pick ops.toList (k :: ef) = ops[k] :: pick ops.toList ef := by
      unfold pick
      rw [List.filterMap_cons]
      simp [h0]
    rw [hp] at h
    refine ⟨fun h0 => (by rw [hr] at h0; cases h0), fun i hi => ?_⟩
    rw [hr] at hi
    obtain rfl : i = k := by simpa using hi
    refine ⟨hkn, ?_⟩
    have hw : wpOp P ops (EffPost C (wpEffs P ops C Q (pick ops.toList ef) (ops.toList.drop n))) i (wpList P ops (EffPost C (wpEffs P ops C Q (pick ops.toList ef) (ops.toList.drop n))) []) a w := by
      unfold wpOp; simp only [h0]; exact h
    refine wpOp_mono (fun a' w' h' => ?_) (wpOp_post (fun e a w hne h => absurd h.1 hne) hw)
    obtain ⟨_, hC, h'⟩ := h'
    exact ⟨hC, wpAnyE_effs ef _ a' w' (fun k hk' => hk k (List.mem_cons_of_mem _ hk')) hB h'⟩

theorem wpAnyE_looks {n g : Nat} {Q : Exit → Act → World → Prop} (hsel : Region.noSelect ops = true) (hs : Region.sinkB md ops n = true) (hc : afterB md ops n = true) (hn : n < ops.size) (ef : List Nat) (hef : ∀ k ∈ ef, k < ops.size) :
    ∀ (rd : List Nat) (listed : Array Bool) (a : Act) (w : World), HeadInv md ops n listed → lexEffM md ops n g ef rd listed = true → C w →
      wpQuiet P ops C (fun a' => wpEffs P ops C Q (pick ops.toList ef) (ops.toList.drop n) a' w) (pick ops.toList rd) a →
      wpAnyE P md ops (NoP Q) C n (fun listed' a' w' => MidAt md ops n g listed' ∧ wpList P ops Q (ops.toList.drop n) a' w') (rd.length + ef.length) listed a w
  | [], listed, a, w, _, hB, _, h => by
    rw [List.length_nil, Nat.zero_add]
    exact wpAnyE_effs ef listed a w hef hB h
  | k :: rd, listed, a, w, inv, hB, hw, h => by
    simp only [lexEffM, Bool.and_eq_true, decide_eq_true_eq, beq_iff_eq] at hB
    obtain ⟨⟨⟨⟨hkn, hl⟩, hr⟩, hf⟩, hB⟩ := hB
    have hks : k < ops.size := by omega
    have h0 : ops[k]? = some ops[k] := Array.getElem?_eq_getElem hks
    have hp : pick ops.toList (k :: rd) = ops[k] :: pick ops.toList rd := by
      unfold pick
      rw [List.filterMap_cons]
      simp [h0]
    rw [hp] at h
    rw [h0] at hl
    have hl' : lookOp ops[k] = true := by simpa using hl
    have hr' : k ∈ Region.ready md ops listed := by simpa using hr
    have hst : qOp P ops C k (wpQuiet P ops C (fun a' => wpEffs P ops C Q (pick ops.toList ef) (ops.toList.drop n) a' w) (pick ops.toList rd)) a := by unfold qOp; simp only [h0]; exact h
    obtain ⟨v, hy, hK⟩ := yieldsIn_of_qOp h0 hst
    rw [List.length_cons, show rd.length + 1 + ef.length = (rd.length + ef.length) + 1 by omega]
    exact wpAnyE_first h0 (Region.noSelect_spec hsel) hs hc hn hkn (fun listed' a' w' hL j hj => by rw [hL.1.1] at hj; simp at hj; omega) _ listed a w inv (Region.free_spec h0 hf) hr' (YieldsIn.looks hy hl') hw
      (wpAnyE_looks hsel hs hc hn ef hef rd _ _ w (inv.set hr' hkn) hB hw hK)

theorem lexEffE_lt {n g : Nat} (hn : n < ops.size) : ∀ (ef : List Nat) (listed : Array Bool), lexEffE md ops n g ef listed = true → ∀ k ∈ ef, k < ops.size
  | [], _, _ => fun k hk => by cases hk
  | e :: ef, listed, hB => fun k hk => by
    simp only [lexEffE, Bool.and_eq_true, decide_eq_true_eq] at hB
    rcases List.mem_cons.1 hk with rfl | hk
    · omega
    · exact lexEffE_lt hn ef _ hB.2 k hk
theorem lexEff_lt {n g : Nat} (hn : n < ops.size) (ef : List Nat) : ∀ (rd : List Nat) (listed : Array Bool), lexEffM md ops n g ef rd listed = true → ∀ k ∈ ef, k < ops.size
  | [], listed, hB => lexEffE_lt hn ef listed hB
  | r :: rd, listed, hB => fun k hk => by
    simp only [lexEffM, Bool.and_eq_true, decide_eq_true_eq] at hB
    exact lexEff_lt hn ef rd _ hB.2 k hk

theorem region_eff {id : Nat} {Q : Exit → Act → World → Prop} {a : Act} {l : List Oper} (rd ef : List Nat) (n : Nat) (C : World → Prop) (hm : P.follows .mixedOrders = true) (hB : lexEffB .any l.toArray rd ef n = true) (hC : C w.drew)
    (h : ∀ (ι : Type) (F : ι → World), Nonempty ι → (∀ i, C (F i)) → wpQuiet P l.toArray (fun w' => ∃ i, w' = F i) (fun a' => wpEffs P l.toArray C Q (pick l ef) (l.drop n) a' w.drew) (pick l rd) a) : (Code.region id l.toArray true).wp P Q a w := by
  have h' := h {w' // C w'} Subtype.val ⟨⟨_, hC⟩⟩ (fun i => i.2)
  have hcc : (fun w' => ∃ i : {w' // C w'}, w' = i.val) = C := by
    funext w'
    exact propext ⟨fun ⟨i, h⟩ => h ▸ i.2, fun h => ⟨⟨w', h⟩, rfl⟩⟩
  rw [hcc] at h'
  simp only [lexEffB, Bool.and_eq_true, decide_eq_true_eq] at hB
  obtain ⟨⟨⟨⟨⟨⟨hsel, hn⟩, hlen⟩, hs⟩, hc⟩, hp⟩, hlex⟩ := hB
  have hn' : n < l.length := by simpa using hn
  have inv0 : HeadInv .any l.toArray n (Array.replicate l.toArray.size false) :=
    ⟨by simp, fun j oj _ hl => (by rw [getD_replicate_false] at hl; cases hl), fun t _ ht => getD_in (by simpa using ht) (getD_replicate_false _ _)⟩
  have H := wpAnyE_looks (P := P) (md := .any) (C := C) (g := l.toArray.size - n - 1) (Q := Q) hsel hs hc hn ef (lexEff_lt hn ef rd _ hlex) rd _ a w.drew inv0 hlex hC (by simpa using h')
  refine wp_region_any hm ?_
  have hdrop : l.drop n = l[n] :: l.drop (n + 1) := List.drop_eq_getElem_cons hn'
  have := wpAny_of_E (P := P) (md := .any) (Q := Q) (g := l.toArray.size - n - 1 + 1) (fun listed a' w' hL => by
    have hw := hL.2
    rw [hdrop] at hw
    exact wpAny_mid (md := .any) hsel (l.drop (n + 1)) (by simp; omega) (fun j => by simp [List.getElem?_drop]) (by simp [hn']) hp listed a' hL.1 hw) _ _ _ _ H
  rw [hlen, show n + (l.toArray.size - n - 1 + 1) = l.toArray.size by simp; omega] at this
  exact this
end
end Go.Proofs.YtjbbapodcngnaaaGreatDoor
namespace Go.Proofs.YtjbbapodcngnaaaGreatDoor
open Go.RowKit Hdr

/-- Pointers to blocks. -/
def ptrs (l : List Nat) : List Value := l.map fun b => .pointer (some ⟨b, 0, none⟩)
@[simp] theorem ptrs_length (l : List Nat) : (ptrs l).length = l.length := by simp [ptrs]
@[simp] theorem ptrs_append (l m : List Nat) : ptrs (l ++ m) = ptrs l ++ ptrs m := by simp [ptrs]
theorem ptrs_one (l : List Nat) : ∀ v ∈ ptrs l, v.oneCell' = true := by
  intro v hv
  simp only [ptrs, List.mem_map] at hv
  obtain ⟨c, _, rfl⟩ := hv
  rfl
/-- A slice of pointers of ours. -/
abbrev PS (w : World) (base : Nat) (v : Value) (l : List Nat) : Prop := w.ownsRow base 160 1 v l.length (ptrs l)

structure Grp where
  key : List UInt8
  v : Value
  ps : List Nat

theorem str_beq (a b : List UInt8) : ((⟨a.toArray⟩ : ByteArray) == ⟨b.toArray⟩) = decide (a = b) := by
  have e : ((⟨a.toArray⟩ : ByteArray) == ⟨b.toArray⟩) = (a.toArray == b.toArray) := rfl
  rw [e, Bool.eq_iff_iff]
  simp

open Instr in
theorem findNow_none (k : List UInt8) : ∀ (es : List MapEntry) (gs : List Grp) (i : Nat), es.map (fun e => (e.key, e.val)) = gs.map (fun x => (str x.key, x.v)) → (∀ x ∈ gs, x.key ≠ k) → findNow .string (str k) es i = some none
  | [], [], _, _, _ => rfl
  | e :: es, x :: gs, i, h, hn => by
    simp only [List.map_cons, List.cons.injEq, Prod.mk.injEq] at h
    have h1 : x.key ≠ k := hn x (List.mem_cons_self ..)
    have h2 : sameNow .string (str k) e.key = some false := by
      rw [h.1.1]
      show some (((⟨k.toArray⟩ : ByteArray) == ⟨x.key.toArray⟩)) = _
      rw [str_beq, decide_eq_false (fun h => h1 h.symm)]
    rw [findNow, h2]
    exact findNow_none k es gs (i + 1) h.2 (fun y hy => hn y (List.mem_cons_of_mem _ hy))
  | [], _ :: _, _, h, _ => by simp at h
  | _ :: _, [], _, h, _ => by simp at h

open Instr in
theorem findNow_some (k : List UInt8) (x : Grp) (hx : x.key = k) (b : List Grp) : ∀ (es : List MapEntry) (a : List Grp) (i : Nat), es.map (fun e => (e.key, e.val)) = (a ++ x :: b).map (fun x => (str x.key, x.v)) → (∀ x ∈ a, x.key ≠ k) → findNow .string (str k) es i = some (some (i + a.length, x.v))
  | e :: es, [], i, h, _ => by
    simp only [List.nil_append, List.map_cons, List.cons.injEq, Prod.mk.injEq] at h
    have h2 : sameNow .string (str k) e.key = some true := by
      rw [h.1.1, hx]
      show some (((⟨k.toArray⟩ : ByteArray) == ⟨k.toArray⟩)) = _
      rw [str_beq, decide_eq_true rfl]
    rw [findNow, h2]
    simp only [h.1.2, List.length_nil, Nat.add_zero]
  | e :: es, y :: a, i, h, hn => by
    simp only [List.cons_append, List.map_cons, List.cons.injEq, Prod.mk.injEq] at h
    have h1 : y.key ≠ k := hn y (List.mem_cons_self ..)
    have h2 : sameNow .string (str k) e.key = some false := by
      rw [h.1.1]
      show some (((⟨k.toArray⟩ : ByteArray) == ⟨y.key.toArray⟩)) = _
      rw [str_beq, decide_eq_false (fun h => h1 h.symm)]
    rw [findNow, h2]
    simp only
    rw [findNow_some k x hx b es a (i + 1) h.2 (fun y hy => hn y (List.mem_cons_of_mem _ hy))]
    simp; omega
  | [], [], _, h, _ => by simp at h
  | [], _ :: _, _, h, _ => by simp at h

/-- Block mb is a map whose entries are these groups. -/
def MapE (w : World) (mb : Nat) (gs : List Grp) : Prop :=
  ∃ es clock, w.heap[mb]? = some (.map es clock) ∧ es.toList.map (fun e => (e.key, e.val)) = gs.map (fun x => (str x.key, x.v))
theorem MapE.lt {w : World} {mb : Nat} {gs : List Grp} (h : MapE w mb gs) : mb < w.heap.size := by
  obtain ⟨es, c, h, _⟩ := h
  exact (Array.getElem?_eq_some_iff.1 h).1
theorem MapE.keep {S : Nat → Prop} {w w' : World} {mb : Nat} {gs : List Grp} (h : MapE w mb gs) (k : Keeps S w w') (hS : ¬ S mb) : MapE w' mb gs := by
  have hl := h.lt
  obtain ⟨es, c, h, h2⟩ := h
  exact ⟨es, c, (k.block mb hl hS).trans h, h2⟩

theorem und_map : Tryz.prog.underlying 72 = some (.map 9 71) := Tryz.underlying72
theorem check_str (w : World) (e : Bool) (k : List UInt8) : (Instr.checkKey e 10000 9 (str k)).run Tryz.prog w = .ok () w := by
  rw [Instr.checkKey]
  simp [run_underlying Tryz.underlying9]

/-- 'm[k]' where no group has the key. -/
theorem run_lookup_none (w : World) (mb : Nat) (gs : List Grp) (k : List UInt8) (h : MapE w mb gs) (hn : ∀ x ∈ gs, x.key ≠ k) :
    (Instr.lookup 72 (.map (some mb)) (str k) false).run Tryz.prog w = .ok (.slice none 0 0) w := by
  obtain ⟨es, c, hb, he⟩ := h
  have hf := findNow_none k es.toList gs 0 he hn
  simp [Instr.lookup, run_underlying und_map, MapKept.run_getObj_map hb, check_str, Instr.findKey, run_underlying Tryz.underlying9, hf, Result.andThen]
theorem run_lookup_none_ok (w : World) (mb : Nat) (gs : List Grp) (k : List UInt8) (h : MapE w mb gs) (hn : ∀ x ∈ gs, x.key ≠ k) :
    (Instr.lookup 72 (.map (some mb)) (str k) true).run Tryz.prog w = .ok (.tuple #[.slice none 0 0, .bool false]) w := by
  obtain ⟨es, c, hb, he⟩ := h
  have hf := findNow_none k es.toList gs 0 he hn
  simp [Instr.lookup, run_underlying und_map, MapKept.run_getObj_map hb, check_str, Instr.findKey, run_underlying Tryz.underlying9, hf, Result.andThen]
/-- .. where one has it. -/
theorem run_lookup_some (w : World) (mb : Nat) (a b : List Grp) (x : Grp) (h : MapE w mb (a ++ x :: b)) (hn : ∀ y ∈ a, y.key ≠ x.key) :
    (Instr.lookup 72 (.map (some mb)) (str x.key) false).run Tryz.prog w = .ok x.v w := by
  obtain ⟨es, c, hb, he⟩ := h
  have hf := findNow_some x.key x rfl b es.toList a 0 he hn
  simp [Instr.lookup, run_underlying und_map, MapKept.run_getObj_map hb, check_str, Instr.findKey, run_underlying Tryz.underlying9, hf, Result.andThen]
theorem run_lookup_some_ok (w : World) (mb : Nat) (a b : List Grp) (x : Grp) (h : MapE w mb (a ++ x :: b)) (hn : ∀ y ∈ a, y.key ≠ x.key) :
    (Instr.lookup 72 (.map (some mb)) (str x.key) true).run Tryz.prog w = .ok (.tuple #[x.v, .bool true]) w := by
  obtain ⟨es, c, hb, he⟩ := h
  have hf := findNow_some x.key x rfl b es.toList a 0 he hn
  simp [Instr.lookup, run_underlying und_map, MapKept.run_getObj_map hb, check_str, Instr.findKey, run_underlying Tryz.underlying9, hf, Result.andThen]

/-- The map with other entries. -/
def setM (w : World) (mb : Nat) (o : Obj) : World := { w with heap := w.heap.setIfInBounds mb o }
theorem setM_keeps (w : World) (mb : Nat) (o : Obj) : Keeps (In [mb]) w (setM w mb o) :=
  ⟨rfl, rfl, rfl, by simp [setM], fun k _ hS => by
    have : mb ≠ k := fun e => hS (by simp [In, e])
    simp only [setM, Array.getElem?_setIfInBounds]
    rw [if_neg this]⟩
theorem setM_same {w : World} {mb : Nat} (o : Obj) (h : mb < w.heap.size) : (setM w mb o).heap[mb]? = some o := by
  simp only [setM, Array.getElem?_setIfInBounds]
  rw [if_pos trivial, if_pos h]

theorem stays_str (w : World) (k : List UInt8) : (Instr.keyThatStays (str k) (str k)).run Tryz.prog w = .ok (str k) w := by
  have h : Instr.sameBits 10000 (str k) (str k) = true := by
    show (((⟨k.toArray⟩ : ByteArray) == ⟨k.toArray⟩)) = true
    rw [str_beq, decide_eq_true rfl]
  simp [Instr.keyThatStays, h]

/-- 'm[k] = v' where no group has the key. -/
theorem run_update_none (w : World) (mb : Nat) (gs : List Grp) (x : Grp) (h : MapE w mb gs) (hn : ∀ y ∈ gs, y.key ≠ x.key) :
    ∃ W, (Instr.mapUpdate 72 (.map (some mb)) (str x.key) x.v).run Tryz.prog w = .ok () W ∧ MapE W mb (gs ++ [x]) ∧ Keeps (In [mb]) w W := by
  have hlt := h.lt
  obtain ⟨es, c, hb, he⟩ := h
  have hf := findNow_none x.key es.toList gs 0 he hn
  refine ⟨setM w mb (.map (es.push { key := str x.key, val := x.v, born := c }) (c + 1)), ?_, ⟨_, _, setM_same _ hlt, ?_⟩, setM_keeps _ _ _⟩
  · simp [Instr.mapUpdate, run_underlying und_map, MapKept.run_getObj_map hb, check_str, Instr.findKey, run_underlying Tryz.underlying9, hf, MapKept.run_setObj_map _ hb, Result.andThen, setM]
  · simp [he]

/-- .. where one has it. -/
theorem run_update_some (w : World) (mb : Nat) (a b : List Grp) (y x : Grp) (h : MapE w mb (a ++ y :: b)) (hy : y.key = x.key) (hn : ∀ y ∈ a, y.key ≠ x.key) :
    ∃ W, (Instr.mapUpdate 72 (.map (some mb)) (str x.key) x.v).run Tryz.prog w = .ok () W ∧ MapE W mb (a ++ x :: b) ∧ Keeps (In [mb]) w W := by
  have hlt := h.lt
  obtain ⟨es, c, hb, he⟩ := h
  have hf := findNow_some x.key y hy b es.toList a 0 he hn
  rw [Nat.zero_add] at hf
  have hlen : es.size = a.length + 1 + b.length := by
    have := congrArg List.length he
    simp at this
    omega
  have hkey : (es[a.length]?).map (·.key) = some (str x.key) := by
    have h1 := congrArg (fun l => l[a.length]?) he
    simp only [List.getElem?_map, Array.getElem?_toList] at h1
    rw [List.getElem?_append_right (Nat.le_refl _), Nat.sub_self, List.getElem?_cons_zero] at h1
    cases hq : es[a.length]? with
    | none => rw [hq] at h1; simp at h1
    | some e => rw [hq] at h1; simp at h1; simp [h1.1, hy]
  refine ⟨setM w mb (.map (es.modify a.length fun e => { e with key := str x.key, val := x.v }) c), ?_, ⟨_, _, setM_same _ hlt, ?_⟩, setM_keeps _ _ _⟩
  · simp [Instr.mapUpdate, run_underlying und_map, MapKept.run_getObj_map hb, check_str, Instr.findKey, run_underlying Tryz.underlying9, hf, hkey, stays_str, MapKept.run_setObj_map _ hb, Result.andThen, setM]
  · apply List.ext_getElem?
    intro j
    have h1 := congrArg (fun l => l[j]?) he
    simp only [List.getElem?_map, Array.getElem?_toList, Array.getElem?_modify] at h1 ⊢
    by_cases hj : a.length = j
    · subst hj
      rw [if_pos rfl, List.getElem?_append_right (Nat.le_refl _), Nat.sub_self, List.getElem?_cons_zero]
      have hj2 : a.length < es.size := by omega
      simp [hj2]
    · rw [if_neg hj, h1]
      rcases Nat.lt_or_ge j a.length with h2 | h2
      · rw [List.getElem?_append_left h2, List.getElem?_append_left h2]
      · obtain ⟨d, rfl⟩ : ∃ d, j = a.length + (d + 1) := ⟨j - a.length - 1, by omega⟩
        rw [List.getElem?_append_right (by omega), List.getElem?_append_right (by omega)]
        simp
/-- The store into the map, at the operation. -/
theorem wpList_update {w : World} {ops : Array Oper} {rest : List Oper} {o : Oper} {a : Act} {Q : Exit → Act → World → Prop} {R : World → Prop} (hg : o.guard = none) (m x v : Operand) (ho : o.op = Op.mapUpdate 72 m x v)
    (mb : Nat) (key : List UInt8) (val : Value) (hm : a.eval m = .map (some mb)) (hx : a.eval x = str key) (hv : a.eval v = val)
    (hrun : ∃ W, (Instr.mapUpdate 72 (.map (some mb)) (str key) val).run Tryz.prog w = .ok () W ∧ R W) (hK : ∀ W, R W → wpList Tryz.prog ops Q rest (a.put o.dst undef) W) : wpList Tryz.prog ops Q (o :: rest) a w := by
  refine wpList_plain hg fun K' hK' => ?_
  obtain ⟨W, hrun, hR⟩ := hrun
  unfold Oper.wp
  simp [execOp, ho, hm, hx, hv, hrun, Result.andThen]
  exact hK' _ _ (hK W hR)
end Go.Proofs.YtjbbapodcngnaaaGreatDoor
namespace Go.Proofs.YtjbbapodcngnaaaGreatDoor
open Go.RowKit Hdr

/-- A field: its block, its key, its value, its bytes (none: it has none), and the slice that it holds them by. -/
structure Fd where
  blk : Nat
  k : List UInt8
  v : List UInt8
  raw : Option (List UInt8)
  rv : Value

/-- Block b holds cells of this type. -/
def Typed (w : World) (b : Nat) (t : TypeId) : Prop := ∃ cs f, w.heap[b]? = some (.cells cs t f)
theorem Typed.keep {S : Nat → Prop} {w w' : World} {b : Nat} {t : TypeId} (h : Typed w b t) (k : Keeps S w w') (hS : ¬ S b) : Typed w' b t := by
  obtain ⟨cs, f, h⟩ := h
  exact ⟨cs, f, (k.block b (Array.getElem?_eq_some_iff.1 h).1 hS).trans h⟩
theorem Typed.ne {w : World} {b b' : Nat} {t t' : TypeId} (h : Typed w b t) (h' : Typed w b' t') (hne : t ≠ t') : b ≠ b' := by
  rintro rfl
  obtain ⟨cs, f, h⟩ := h
  obtain ⟨cs', f', h'⟩ := h'
  rw [h] at h'
  injection h' with h'
  injection h' with h1 h2
  exact hne h2
theorem Blk.typed {w : World} {b : Nat} {cs : List Value} {t : TypeId} (h : Blk w b cs t) : Typed w b t := ⟨_, _, h⟩

/-- The slice of a field's bytes. -/
def RawAt (w : World) (lo hi : Nat) (rv : Value) : Option (List UInt8) → Prop
  | none => rv = .slice none 0 0
  | some l => ∃ rb ro cap : Nat, rv = .slice (some ⟨rb, ro, none⟩) l.length cap ∧ l.length ≤ cap ∧ lo ≤ rb ∧ rb < hi ∧ BytesAt w rb ro l ∧ Typed w rb 5

/-- The field lies in memory, in blocks from lo up to hi. -/
structure FdAt (w : World) (lo hi : Nat) (f : Fd) : Prop where
  ge : lo ≤ f.blk
  lt : f.blk < hi
  B : Blk w f.blk [f.rv, str f.k, str f.v] 185
  R : RawAt w lo hi f.rv f.raw

theorem RawAt.keep {S : Nat → Prop} {w w' : World} {lo hi : Nat} {rv : Value} {r : Option (List UInt8)} (h : RawAt w lo hi rv r) (k : Keeps S w w') (hS : ∀ x, S x → x < lo ∨ hi ≤ x) : RawAt w' lo hi rv r := by
  cases r with
  | none => exact h
  | some l =>
    obtain ⟨rb, ro, cap, h1, h2, h3, h4, h5, h6⟩ := h
    exact ⟨rb, ro, cap, h1, h2, h3, h4, h5.keep k (fun h => by have := hS _ h; omega), h6.keep k (fun h => by have := hS _ h; omega)⟩
/-- Where a block of pointers is written too. -/
theorem RawAt.keep_lb {w w' : World} {lo hi lb base : Nat} {rv : Value} {r : Option (List UInt8)} (h : RawAt w lo hi rv r) (hl : Typed w lb 160) (k : Keeps (fun x => x = lb ∨ x < lo ∨ base ≤ x) w w') (hS : hi ≤ base) : RawAt w' lo hi rv r := by
  cases r with
  | none => exact h
  | some l =>
    obtain ⟨rb, ro, cap, h1, h2, h3, h4, h5, h6⟩ := h
    have hne := h6.ne hl (by decide)
    exact ⟨rb, ro, cap, h1, h2, h3, h4, h5.keep k (fun h => by omega), h6.keep k (fun h => by omega)⟩
theorem FdAt.keep {S : Nat → Prop} {w w' : World} {lo hi : Nat} {f : Fd} (h : FdAt w lo hi f) (k : Keeps S w w') (hS : ∀ x, S x → x < lo ∨ hi ≤ x) : FdAt w' lo hi f :=
  ⟨h.ge, h.lt, h.B.keep k (fun hs => by have := hS _ hs; have := h.ge; have := h.lt; omega), h.R.keep k hS⟩
theorem RawAt.mono {w : World} {lo hi hi' : Nat} {rv : Value} {r : Option (List UInt8)} (h : RawAt w lo hi rv r) (hh : hi ≤ hi') : RawAt w lo hi' rv r := by
  cases r with
  | none => exact h
  | some l =>
    obtain ⟨rb, ro, cap, h1, h2, h3, h4, h5, h6⟩ := h
    exact ⟨rb, ro, cap, h1, h2, h3, by omega, h5, h6⟩
theorem FdAt.mono {w : World} {lo hi hi' : Nat} {f : Fd} (h : FdAt w lo hi f) (hh : hi ≤ hi') : FdAt w lo hi' f := ⟨h.ge, Nat.lt_of_lt_of_le h.lt hh, h.B, h.R.mono hh⟩

theorem FdAt.keep_lb {w w' : World} {lo hi lb base : Nat} {f : Fd} (h : FdAt w lo hi f) (hl : Typed w lb 160) (k : Keeps (fun x => x = lb ∨ x < lo ∨ base ≤ x) w w') (hS : hi ≤ base) : FdAt w' lo hi f :=
  have hne := h.B.typed.ne hl (by decide)
  ⟨h.ge, h.lt, h.B.keep k (fun hs => by have := h.ge; have := h.lt; omega), h.R.keep_lb hl k hS⟩

/-- All of them. -/
def Fds (w : World) (lo hi : Nat) (fs : List Fd) : Prop := ∀ f ∈ fs, FdAt w lo hi f
theorem Fds.keep {S : Nat → Prop} {w w' : World} {lo hi : Nat} {fs : List Fd} (h : Fds w lo hi fs) (k : Keeps S w w') (hS : ∀ x, S x → x < lo ∨ hi ≤ x) : Fds w' lo hi fs := fun f hf => (h f hf).keep k hS
theorem Fds.keep_lb {w w' : World} {lo hi lb base : Nat} {fs : List Fd} (h : Fds w lo hi fs) (hl : Typed w lb 160) (k : Keeps (fun x => x = lb ∨ x < lo ∨ base ≤ x) w w') (hS : hi ≤ base) : Fds w' lo hi fs := fun f hf => (h f hf).keep_lb hl k hS
theorem Fds.mono {w : World} {lo hi hi' : Nat} {fs : List Fd} (h : Fds w lo hi fs) (hh : hi ≤ hi') : Fds w lo hi' fs := fun f hf => (h f hf).mono hh

/-- The pointers of some fields begin block lb. -/
def PtrsAt (w : World) (lb : Nat) (l : List Nat) : Prop := ∃ cs f, w.heap[lb]? = some (.cells cs 160 f) ∧ cs.toList.take l.length = ptrs l
theorem PtrsAt.typed {w : World} {lb : Nat} {l : List Nat} (h : PtrsAt w lb l) : Typed w lb 160 := by
  obtain ⟨cs, f, h, _⟩ := h
  exact ⟨cs, f, h⟩
theorem PtrsAt.lt {w : World} {lb : Nat} {l : List Nat} (h : PtrsAt w lb l) : lb < w.heap.size := by
  obtain ⟨cs, f, h, _⟩ := h
  exact (Array.getElem?_eq_some_iff.1 h).1
theorem PtrsAt.keep {S : Nat → Prop} {w w' : World} {lb : Nat} {l : List Nat} (h : PtrsAt w lb l) (k : Keeps S w w') (hS : ¬ S lb) : PtrsAt w' lb l := by
  have hl := h.lt
  obtain ⟨cs, f, h, h2⟩ := h
  exact ⟨cs, f, (k.block lb hl hS).trans h, h2⟩
theorem PtrsAt.cell {w : World} {lb : Nat} {l : List Nat} (h : PtrsAt w lb l) {i : Nat} (hi : i < l.length) : w.cell? ⟨lb, i, none⟩ = some (.pointer (some ⟨l[i], 0, none⟩)) := by
  obtain ⟨cs, f, h, h2⟩ := h
  have h3 : (cs.toList.take l.length)[i]? = some (.pointer (some ⟨l[i], 0, none⟩)) := by rw [h2]; simp [ptrs, hi]
  rw [List.getElem?_take, if_pos hi] at h3
  simp only [World.cell?, h]
  simpa using h3

/-- The groups of some fields. -/
structure Grouped (w : World) (base : Nat) (gs : List Grp) (fs : List Fd) : Prop where
  keys : gs.Pairwise (fun x y => x.key ≠ y.key)
  apart : gs.Pairwise (fun x y => x.v.ownBlock ≠ y.v.ownBlock)
  own : ∀ x ∈ gs, PS w base x.v x.ps
  some_ : ∀ x ∈ gs, x.ps ≠ []
  of : ∀ x ∈ gs, x.ps = (fs.filter (fun f => decide (f.k = x.key))).map (·.blk)
  all : ∀ f ∈ fs, ∃ x ∈ gs, x.key = f.k

theorem PS.keep {S : Nat → Prop} {w w' : World} {base : Nat} {v : Value} {l : List Nat} (h : PS w base v l) (k : Keeps S w w') (hS : ∀ b, v.ownBlock = some b → ¬ S b) : PS w' base v l := by
  obtain ⟨h1, h2⟩ := h
  refine ⟨h1, ?_⟩
  rcases h2 with h2 | ⟨g, cap, cur, rfl, hb, hg, h3⟩
  · exact .inl h2
  · exact .inr ⟨g, cap, cur, rfl, hb, (k.block g (Array.getElem?_eq_some_iff.1 hg).1 (hS g rfl)).trans hg, h3⟩
theorem Grouped.keep {S : Nat → Prop} {w w' : World} {base : Nat} {gs : List Grp} {fs : List Fd} (h : Grouped w base gs fs) (k : Keeps S w w') (hS : ∀ x ∈ gs, ∀ b, x.v.ownBlock = some b → ¬ S b) : Grouped w' base gs fs :=
  ⟨h.keys, h.apart, fun x hx => PS.keep (h.own x hx) k (hS x hx), h.some_, h.of, h.all⟩
theorem PS.block {w : World} {base : Nat} {v : Value} {l : List Nat} (h : PS w base v l) (hl : l ≠ []) : ∃ g cap, v = .slice (some ⟨g, 0, none⟩) l.length cap ∧ base ≤ g ∧ g < w.heap.size ∧ PtrsAt w g l ∧ l.length ≤ cap ∧ cap ≤ maxLen := by
  obtain ⟨h1, h2⟩ := h
  rcases h2 with ⟨_, h2⟩ | ⟨g, cap, cur, rfl, hb, hg, h3, h4, h5, h6⟩
  · exact absurd (List.length_eq_zero_iff.1 h2) hl
  · exact ⟨g, cap, rfl, hb, (Array.getElem?_eq_some_iff.1 hg).1, ⟨cur, (0, 0), hg, by simpa using h6⟩, h3, h4⟩

/-- A header's map: nil where there is no field. -/
def HMap (w : World) (base : Nat) (m : Option Nat) (fs : List Fd) : Prop :=
  (m = none ∧ fs = []) ∨ ∃ mb gs, m = some mb ∧ base ≤ mb ∧ MapE w mb gs ∧ Grouped w base gs fs

/-- What makeHeaderMap leaves. -/
def MhmPost (fs : List Fd) (w : World) (e : Ending) (w' : World) : Prop := ∃ m, e = .returned (.map m) ∧ HMap w' w.heap.size m fs ∧ Keeps No w w'

theorem filter_take_succ (fs : List Fd) (i : Nat) (hi : i < fs.length) (k : List UInt8) : ((fs.take (i + 1)).filter (fun f => decide (f.k = k))).map (·.blk) = ((fs.take i).filter (fun f => decide (f.k = k))).map (·.blk) ++ (if fs[i].k = k then [fs[i].blk] else []) := by
  rw [List.take_succ_eq_append_getElem hi, List.filter_append, List.map_append]
  congr 1
  by_cases h : fs[i].k = k
  · simp [h]
  · simp [h]

/-- One field more, with a new key. -/
theorem Grouped.push_new {w W : World} {base : Nat} {gs : List Grp} {fs : List Fd} {i : Nat} (hi : i < fs.length) (h : Grouped w base gs (fs.take i)) (hn : ∀ x ∈ gs, x.key ≠ fs[i].k) {v : Value} (hv : PS W base v [fs[i].blk])
    (ho : ∀ x ∈ gs, PS W base x.v x.ps) (ha : ∀ x ∈ gs, x.v.ownBlock ≠ v.ownBlock) : Grouped W base (gs ++ [⟨fs[i].k, v, [fs[i].blk]⟩]) (fs.take (i + 1)) := by
  refine ⟨?_, ?_, ?_, ?_, ?_, ?_⟩
  · rw [List.pairwise_append]
    exact ⟨h.keys, List.pairwise_singleton _ _, fun a ha b hb => by simp at hb; subst hb; exact hn a ha⟩
  · rw [List.pairwise_append]
    exact ⟨h.apart, List.pairwise_singleton _ _, fun a h1 b hb => by simp at hb; subst hb; exact ha a h1⟩
  · intro x hx
    rcases List.mem_append.1 hx with hx | hx
    · exact ho x hx
    · simp at hx; subst hx; exact hv
  · intro x hx
    rcases List.mem_append.1 hx with hx | hx
    · exact h.some_ x hx
    · simp at hx; subst hx; simp
  · intro x hx
    rw [filter_take_succ fs i hi]
    rcases List.mem_append.1 hx with hx | hx
    · rw [if_neg (fun e => hn x hx e.symm), List.append_nil]
      exact h.of x hx
    · simp at hx; subst hx
      rw [if_pos rfl]
      have : ((fs.take i).filter (fun f => decide (f.k = fs[i].k))) = [] := by
        rw [List.filter_eq_nil_iff]
        intro f hf hk
        obtain ⟨x, hx, hxk⟩ := h.all f hf
        exact hn x hx (by rw [hxk]; simpa using hk)
      rw [this]
      rfl
  · intro f hf
    rw [List.take_succ_eq_append_getElem hi] at hf
    rcases List.mem_append.1 hf with hf | hf
    · obtain ⟨x, hx, hk⟩ := h.all f hf
      exact ⟨x, List.mem_append_left _ hx, hk⟩
    · simp at hf; subst hf
      exact ⟨⟨fs[i].k, v, [fs[i].blk]⟩, by simp, rfl⟩

/-- .. with a key that is there. -/
theorem Grouped.push_old {w W : World} {base : Nat} {a b : List Grp} {y : Grp} {fs : List Fd} {i : Nat} (hi : i < fs.length) (h : Grouped w base (a ++ y :: b) (fs.take i)) (hy : y.key = fs[i].k) {v : Value} (hv : PS W base v (y.ps ++ [fs[i].blk]))
    (ho : ∀ x ∈ a ++ b, PS W base x.v x.ps) (ha : ∀ x ∈ a ++ b, x.v.ownBlock ≠ v.ownBlock) : Grouped W base (a ++ ⟨fs[i].k, v, y.ps ++ [fs[i].blk]⟩ :: b) (fs.take (i + 1)) := by
  have hk := h.keys
  have hp := h.apart
  rw [List.pairwise_append, List.pairwise_cons] at hk hp
  have hmem : ∀ x ∈ a ++ (⟨fs[i].k, v, y.ps ++ [fs[i].blk]⟩ : Grp) :: b, x = ⟨fs[i].k, v, y.ps ++ [fs[i].blk]⟩ ∨ x ∈ a ++ b := by
    intro x hx
    simp only [List.mem_append, List.mem_cons] at hx ⊢
    rcases hx with hx | hx | hx
    · exact .inr (.inl hx)
    · exact .inl hx
    · exact .inr (.inr hx)
  have hold : ∀ x ∈ a ++ b, x ∈ a ++ y :: b := fun x hx => by
    simp only [List.mem_append, List.mem_cons] at hx ⊢
    rcases hx with hx | hx
    · exact .inl hx
    · exact .inr (.inr hx)
  have hne : ∀ x ∈ a ++ b, x.key ≠ fs[i].k := fun x hx => by
    rw [← hy]
    rcases List.mem_append.1 hx with hx | hx
    · exact hk.2.2 x hx y (List.mem_cons_self ..)
    · exact (hk.2.1.1 x hx).symm
  refine ⟨?_, ?_, ?_, ?_, ?_, ?_⟩
  · rw [List.pairwise_append, List.pairwise_cons]
    refine ⟨hk.1, ⟨fun x hx => (hne x (List.mem_append_right _ hx)).symm, hk.2.1.2⟩, fun x hx z hz => ?_⟩
    rcases List.mem_cons.1 hz with rfl | hz
    · exact hne x (List.mem_append_left _ hx)
    · exact hk.2.2 x hx z (List.mem_cons_of_mem _ hz)
  · rw [List.pairwise_append, List.pairwise_cons]
    refine ⟨hp.1, ⟨fun x hx => (ha x (List.mem_append_right _ hx)).symm, hp.2.1.2⟩, fun x hx z hz => ?_⟩
    rcases List.mem_cons.1 hz with rfl | hz
    · exact ha x (List.mem_append_left _ hx)
    · exact hp.2.2 x hx z (List.mem_cons_of_mem _ hz)
  · intro x hx
    rcases hmem x hx with rfl | hx
    · exact hv
    · exact ho x hx
  · intro x hx
    rcases hmem x hx with rfl | hx
    · simp
    · exact h.some_ x (hold x hx)
  · intro x hx
    rw [filter_take_succ fs i hi]
    rcases hmem x hx with rfl | hx
    · rw [if_pos rfl, ← hy]
      exact congrArg (· ++ [fs[i].blk]) (h.of y (by simp))
    · rw [if_neg (fun e => hne x hx e.symm), List.append_nil]
      exact h.of x (hold x hx)
  · intro f hf
    rw [List.take_succ_eq_append_getElem hi] at hf
    rcases List.mem_append.1 hf with hf | hf
    · obtain ⟨x, hx, hxk⟩ := h.all f hf
      simp only [List.mem_append, List.mem_cons] at hx
      rcases hx with hx | rfl | hx
      · exact ⟨x, List.mem_append_left _ hx, hxk⟩
      · exact ⟨⟨fs[i].k, v, x.ps ++ [fs[i].blk]⟩, by simp, by rw [← hxk]; exact hy.symm⟩
      · exact ⟨x, List.mem_append_right _ (List.mem_cons_of_mem _ hx), hxk⟩
    · simp at hf; subst hf
      exact ⟨⟨fs[i].k, v, y.ps ++ [fs[i].blk]⟩, by simp, rfl⟩
end Go.Proofs.YtjbbapodcngnaaaGreatDoor
namespace Go.Proofs.YtjbbapodcngnaaaGreatDoor
open Go.RowKit Hdr

theorem info_hf : (Tryz.prog.info? 160).map (fun i => (i.zero, i.size, i.bytes)) = some (some (.pointer none), 1, 8) := by kernel_rfl

theorem run_makeMap_n (w : World) (n : Int) : (Instr.makeMap 72 (some (.int .i64 n))).run Tryz.prog w = .ok (.map (some w.heap.size)) (w.alloc (.map #[] 0)) := by
  simp [Instr.makeMap, run_underlying und_map, asInt, asIntOf, Result.andThen]

theorem PS.mono {w : World} {base base' : Nat} {v : Value} {l : List Nat} (h : PS w base' v l) (hb : base ≤ base') : PS w base v l := by
  obtain ⟨h1, h2⟩ := h
  refine ⟨h1, ?_⟩
  rcases h2 with h2 | ⟨g, cap, cur, rfl, h3, h4⟩
  · exact .inl h2
  · exact .inr ⟨g, cap, cur, rfl, by omega, h4⟩

theorem Grouped.nil (w : World) (base : Nat) (fs : List Fd) : Grouped w base [] (fs.take 0) := by
  rw [List.take_zero]
  refine ⟨.nil, .nil, ?_, ?_, ?_, ?_⟩
  · intro x h; cases h
  · intro x h; cases h
  · intro x h; cases h
  · intro x h; cases h

theorem grp_cases (gs : List Grp) (k : List UInt8) : (∀ x ∈ gs, x.key ≠ k) ∨ ∃ a x b, gs = a ++ x :: b ∧ x.key = k ∧ ∀ y ∈ a, y.key ≠ k := by
  induction gs with
  | nil => exact .inl (fun x h => by cases h)
  | cons x gs ih =>
    by_cases h : x.key = k
    · exact .inr ⟨[], x, gs, rfl, h, fun y h => by cases h⟩
    · rcases ih with ih | ⟨a, y, b, rfl, h1, h2⟩
      · refine .inl (fun z hz => ?_)
        rcases List.mem_cons.1 hz with rfl | hz
        · exact h
        · exact ih z hz
      · refine .inr ⟨x :: a, y, b, rfl, h1, fun z hz => ?_⟩
        rcases List.mem_cons.1 hz with rfl | hz
        · exact h
        · exact h2 z hz

theorem PS.own_some {w : World} {base : Nat} {v : Value} {l : List Nat} (h : PS w base v l) (hl : l ≠ []) : ∃ g, v.ownBlock = some g ∧ base ≤ g ∧ g < w.heap.size := by
  obtain ⟨g, cap, rfl, h1, h2, _⟩ := h.block hl
  exact ⟨g, rfl, h1, h2⟩

/-- One field goes into its group. -/
theorem group_step {wr : World} {mb base : Nat} {gs : List Grp} {fs : List Fd} {i : Nat} (hi : i < fs.length) (hM : MapE wr mb gs) (hG : Grouped wr base gs (fs.take i)) (hmb : mb < base) :
    ∃ (v0 : Value) (ps0 : List Nat), (∀ W, MapE W mb gs → (Instr.lookup 72 (.map (some mb)) (str fs[i].k) false).run Tryz.prog W = .ok v0 W) ∧ PS wr base v0 ps0 ∧ ps0.length ≤ i ∧
      ∀ v' w2, PS w2 base v' (ps0 ++ [fs[i].blk]) → Keeps (fun k => v0.ownBlock = some k) wr w2 → (v'.ownBlock = v0.ownBlock ∨ ∃ g, v'.ownBlock = some g ∧ wr.heap.size ≤ g) →
        ∃ W, (Instr.mapUpdate 72 (.map (some mb)) (str fs[i].k) v').run Tryz.prog w2 = .ok () W ∧ ∃ gs', MapE W mb gs' ∧ Grouped W base gs' (fs.take (i + 1)) ∧ Keeps (In [mb]) w2 W := by
  have hother : ∀ (W w2 : World) (v0 : Value) (x : Grp), Keeps (fun k => v0.ownBlock = some k) wr w2 → Keeps (In [mb]) w2 W → x ∈ gs → x.v.ownBlock ≠ v0.ownBlock → PS W base x.v x.ps := fun W w2 v0 x k1 k2 hx hne => by
    obtain ⟨g, hg, hg1, hg2⟩ := (hG.own x hx).own_some (hG.some_ x hx)
    refine PS.keep (PS.keep (hG.own x hx) k1 (fun b hb => ?_)) k2 (fun b hb => ?_)
    · intro h
      exact hne (hb.trans h.symm)
    · rw [hg] at hb
      obtain rfl := Option.some.inj hb
      intro h
      simp [In] at h
      omega
  rcases grp_cases gs fs[i].k with hn | ⟨a, x, b, rfl, hxk, hn⟩
  · refine ⟨.slice none 0 0, [], fun W hW => run_lookup_none W mb gs _ hW hn, World.ownsRow_nil _ _ _ _, Nat.zero_le _, fun v' w2 hv' k hl => ?_⟩
    have hM2 := hM.keep k (fun h => by cases h)
    obtain ⟨W, hr, hMW, kW⟩ := run_update_none w2 mb gs ⟨fs[i].k, v', [fs[i].blk]⟩ hM2 hn
    obtain ⟨gv, hgv, hgv1, hgv2⟩ := PS.own_some hv' (by simp)
    refine ⟨W, hr, _, hMW, Grouped.push_new hi hG hn (PS.keep hv' kW (fun b hb => ?_)) (fun y hy => hother W w2 _ y k kW hy ?_) (fun y hy => ?_), kW⟩
    · rw [hgv] at hb
      obtain rfl := Option.some.inj hb
      intro h
      simp [In] at h
      omega
    · obtain ⟨g, hg, _⟩ := (hG.own y hy).own_some (hG.some_ y hy)
      rw [hg]
      intro h
      cases h
    · obtain ⟨g, hg, _, hg2⟩ := (hG.own y hy).own_some (hG.some_ y hy)
      rw [hg]
      rcases hl with hl | ⟨g', hl, hg'⟩
      · rw [hl]; intro h; cases h
      · rw [hl]; intro h; have := Option.some.inj h; omega
  · have hx : x ∈ a ++ x :: b := by simp
    have hap := hG.apart
    rw [List.pairwise_append, List.pairwise_cons] at hap
    have hne : ∀ y ∈ a ++ b, y ∈ a ++ x :: b ∧ y.v.ownBlock ≠ x.v.ownBlock := fun y hy => by
      rcases List.mem_append.1 hy with hy | hy
      · exact ⟨by simp [hy], hap.2.2 y hy x (List.mem_cons_self ..)⟩
      · exact ⟨by simp [hy], (hap.2.1.1 y hy).symm⟩
    refine ⟨x.v, x.ps, fun W hW => by rw [← hxk]; exact run_lookup_some W mb a b x hW (by rw [hxk]; exact hn), hG.own x hx, ?_, fun v' w2 hv' k hl => ?_⟩
    · rw [hG.of x hx, List.length_map]
      refine Nat.le_trans (List.length_filter_le _ _) ?_
      simp; omega
    · obtain ⟨gx, hgx, hgx1, hgx2⟩ := (hG.own x hx).own_some (hG.some_ x hx)
      have hM2 := hM.keep k (fun h => by rw [hgx] at h; have := Option.some.inj h; omega)
      obtain ⟨W, hr, hMW, kW⟩ := run_update_some w2 mb a b x ⟨fs[i].k, v', x.ps ++ [fs[i].blk]⟩ hM2 hxk hn
      obtain ⟨gv, hgv, hgv1, hgv2⟩ := PS.own_some hv' (by simp)
      refine ⟨W, hr, _, hMW, Grouped.push_old hi hG hxk (PS.keep hv' kW (fun b hb => ?_)) (fun y hy => hother W w2 _ y k kW (hne y hy).1 (hne y hy).2) (fun y hy => ?_), kW⟩
      · rw [hgv] at hb
        obtain rfl := Option.some.inj hb
        intro h
        simp [In] at h
        omega
      · obtain ⟨g, hg, _, hg2⟩ := (hG.own y (hne y hy).1).own_some (hG.some_ y (hne y hy).1)
        rcases hl with hl | ⟨g', hl, hg'⟩
        · rw [hl]; exact (hne y hy).2
        · rw [hl, hg]; intro h; have := Option.some.inj h; omega

set_option maxRecDepth 100000 in
set_option maxHeartbeats 2000000 in
theorem makeHeaderMap_any (lb cap lo hi : Nat) (fs : List Fd) (len : Nat) (hlen : len = fs.length) (w : World) (hp : PtrsAt w lb (fs.map (·.blk))) (hf : Fds w lo hi fs) (hhi : hi ≤ w.heap.size) (hn : fs.length ≤ 1000000) :
    Calls Tryz.prog 72 #[.slice (some ⟨lb, 0, none⟩) len cap] w (MhmPost fs w) := by
  have hlb := hp.lt
  have HP := Lib.hid hp
  have HF := Lib.hid hf
  have HL := Lib.hid hlen
  have hmm := run_makeMap_n
  have hlen2 : len ≤ 1000000 := by omega
  clear hp hf hlen
  go_enter Tryz.func72, Tryz.ntmps72
  by_cases h0 : len = 0
  · subst h0
    go_wp2
    go_ret
    exact ⟨none, rfl, .inl ⟨rfl, List.length_eq_zero_iff.1 HL.out.symm⟩, Keeps.refl _ _⟩
  · have e0 : ((len : Int) == 0) = false := by simp; omega
    go_wp2
    go_loopg [14] len (fun n s14 wr => ∃ (i : Nat) (gs : List Grp), s14 = .int .i64 i ∧ i + n = len ∧ MapE wr w.heap.size gs ∧ Grouped wr (w.heap.size + 1) gs (fs.take i) ∧ Keeps (Up w.heap.size []) w wr ∧ w.heap.size + 1 ≤ wr.heap.size)
    case atStart => exact ⟨0, [], rfl, by omega, ⟨#[], 0, heap_alloc_new w _, rfl⟩, Grouped.nil _ _ _, (Keeps.refl _ w).alloc _, by simp⟩
    case round =>
      obtain ⟨i, gs, rfl, hin, hM, hG, K, hsz⟩ := hrel
      have HIN := Lib.hid hin
      have HM := Lib.hid hM
      have HG := Lib.hid hG
      have hi0 : i ≤ len := by omega
      clear hin hM hG
      by_cases hi : i < len
      · have hil : i < fs.length := by have := HL.out; omega
        have hfi := (HF.out fs[i] (List.getElem_mem _)).keep K (fun x h => by rcases h with h | h; cases h; omega)
        have hx1 : wr.cell? ⟨lb, i, none⟩ = some (.pointer (some ⟨fs[i].blk, 0, none⟩)) := by
          have := (HP.out.keep K (fun h => by rcases h with h | h; cases h; omega)).cell (i := i) (by simpa using hil)
          simpa using this
        have hx2 : wr.cell? ⟨fs[i].blk, 1, none⟩ = some (str fs[i].k) := hfi.B.cell 1
        have hblk : fs[i].blk < w.heap.size := by have := hfi.lt; omega
        obtain ⟨v0, ps0, hlk, hown, hpl, hfin⟩ := group_step hil HM.out HG.out (Nat.lt_succ_self _)
        generalize hfb : fs[i].blk = fb at *
        generalize hfk : fs[i].k = fk at *
        have HFIN := Lib.hid hfin
        have HOWN := Lib.hid hown
        clear hfi hfb hfk hfin hown
        have hii : (i : Int) < (len : Int) := by omega
        have e1 : decide ((i : Int) < (len : Int)) = true := decide_eq_true (by omega)
        go_wp2
        refine region_eff [0, 1, 2, 3, 4, 5, 6, 7, 8, 9, 10, 11, 12, 13, 14] [15, 16] 17 (fun W => W.cell? ⟨lb, i, none⟩ = some (.pointer (some ⟨fb, 0, none⟩)) ∧ W.cell? ⟨fb, 1, none⟩ = some (str fk) ∧ MapE W w.heap.size gs) (by kernel_rfl) (by kernel_rfl) ?_ ?_
        · exact ⟨hx1, hx2, HM.out.keep ((Keeps.refl No _).drew) (fun h => h)⟩
        intro ι F hne hF
        have c1 := fun j => (hF j).1
        have c2 := fun j => (hF j).2.1
        have c3 := fun j => hlk _ (hF j).2.2
        clear hF hlk
        simp only [pick, List.filterMap_cons, List.filterMap_nil, List.getElem?_cons_succ, List.getElem?_cons_zero, List.drop_succ_cons, List.drop_zero]
        repeat (quiet_step (fail))
        refine wpQuiet_nil ?_
        have hM := HM.out
        obtain ⟨i0, hi, hz0, hz1, hz2⟩ := info_parts info_hf
        rw [wpEffs]
        go_wp2
        have kA : Keeps No wr (wr.alloc (.cells #[.pointer (some ⟨fb, 0, none⟩)] 160)).drew := ((Keeps.refl No wr).alloc _).drew
        refine EffPost.intro ⟨?_, ?_, ?_⟩ ?_
        · exact kA.cell hx1 (fun h => h)
        · exact kA.cell hx2 (fun h => h)
        · exact hM.keep kA (fun h => h)
        rw [wpEffs]
        go_wp2_with (at_builtin; refine wpList_append_own_at _ rfl (.tmp 29) (.tmp 34) 71 rfl (w.heap.size + 1) 160 i0 (.pointer none) 1 8 Tryz.underlying71 hi hz0 hz1 hz2 rfl (by decide) v0 ps0.length (ptrs ps0) rfl (PS.keep HOWN.out kA (fun _ _ h => h)) ⟨wr.heap.size, 0, none⟩ 1 1 (ptrs [fb]) rfl rfl ?c1 (ptrs_one _) ?c3 ?c4 ?c5 ?_)
        case c1 =>
          intro j u hj
          match j, hj with
          | 0, hj => simp [ptrs] at hj; subst hj; simp [Addr.add]
          | j + 1, hj => simp [ptrs] at hj
        case c3 => unfold maxLen; omega
        case c4 => omega
        case c5 => simp; omega
        intro v' w2 hown' hgrow _ hloc
        have kG : Keeps (fun k => v0.ownBlock = some k) wr w2 := (kA.of_no).grown hgrow (fun k hk => .inl hk)
        have hloc' : v'.ownBlock = v0.ownBlock ∨ ∃ g, v'.ownBlock = some g ∧ wr.heap.size ≤ g := hloc.imp id (fun h => ⟨_, h, by simp⟩)
        have hP : PS w2 (w.heap.size + 1) v' (ps0 ++ [fb]) := by
          rw [← ptrs_append, show ps0.length + 1 = (ps0 ++ [fb]).length by simp] at hown'
          exact hown'
        have hlb' : v0.ownBlock ≠ some lb := fun h => by
          have := (HOWN.out.lt lb h).1
          omega
        have hfb' : v0.ownBlock ≠ some fb := fun h => by
          have := (HOWN.out.lt fb h).1
          omega
        have hmb' : v0.ownBlock ≠ some w.heap.size := fun h => by
          have := (HOWN.out.lt _ h).1
          omega
        have HUP := Lib.hid (HFIN.out v' w2 hP kG hloc')
        go_wp2
        refine EffPost.intro ⟨kG.cell hx1 hlb', kG.cell hx2 hfb', hM.keep kG hmb'⟩ ?_
        rw [wpEffs]
        go_wp2_with (at_mapUpdate; refine wpList_update rfl (.tmp 19) (.tmp 23) (.tmp 35) rfl w.heap.size fk v' rfl rfl rfl HUP.out ?_; rintro W ⟨gs', hM', hG', kW⟩)
        go_wp2
        go_roundg (gk - 1)
        case measure => have := HIN.out; omega
        case rel =>
          refine ⟨i + 1, gs', by simp, by have := HIN.out; omega, hM', hG', ?_, ?_⟩
          · refine (K.trans' (kG.mono (fun k _ h => ?_))).trans' (kW.mono (fun k _ h => ?_))
            · exact .inr (by have := (HOWN.out.lt k h).1; omega)
            · exact .inr (by simp [In] at h; omega)
          · have := kG.size; have := kW.size; omega
      · have e1 : decide ((i : Int) < (len : Int)) = false := decide_eq_false (by omega)
        have hil : i = len := by omega
        go_wp2
        go_ret
        refine ⟨some w.heap.size, rfl, .inr ⟨w.heap.size, gs, rfl, Nat.le_refl _, HM.out, ?_⟩, (K.down (Nat.le_refl _)).mono (fun _ _ h => by cases h)⟩
        have hG := HG.out
        rw [hil, HL.out, List.take_length] at hG
        exact ⟨hG.keys, hG.apart, fun x hx => PS.mono (hG.own x hx) (Nat.le_succ _), hG.some_, hG.of, hG.all⟩
end Go.Proofs.YtjbbapodcngnaaaGreatDoor
namespace Go.Proofs.YtjbbapodcngnaaaGreatDoor
open Go.RowKit Hdr

/-- Pointers begin block lb; it is ours to write. -/
def POwn (w : World) (lb cap : Nat) (l : List Nat) : Prop := ∃ more, Blk w lb (ptrs l ++ more) 160 ∧ l.length + more.length = cap ∧ cap ≤ maxLen
theorem POwn.ptrs {w : World} {lb cap : Nat} {l : List Nat} (h : POwn w lb cap l) : PtrsAt w lb l := by
  obtain ⟨more, h, _⟩ := h
  exact ⟨_, _, h, by simp [List.take_left']⟩
theorem PtrsAt.cell_of {w : World} {lb : Nat} {l : List Nat} (h : PtrsAt w lb l) {i x : Nat} (hi : l[i]? = some x) : w.cell? ⟨lb, i, none⟩ = some (.pointer (some ⟨x, 0, none⟩)) := by
  have hl := (List.getElem?_eq_some_iff.1 hi).1
  rw [h.cell hl]
  rw [(List.getElem?_eq_some_iff.1 hi).2]
theorem POwn.keep {S : Nat → Prop} {w w' : World} {lb cap : Nat} {l : List Nat} (h : POwn w lb cap l) (k : Keeps S w w') (hS : ¬ S lb) : POwn w' lb cap l := by
  obtain ⟨more, h, h2⟩ := h
  exact ⟨more, h.keep k hS, h2⟩
theorem POwn.frozen {w : World} {lb cap : Nat} {l : List Nat} (h : POwn w lb cap l) (i : Nat) : w.frozen? ⟨lb, i, none⟩ = false := by
  obtain ⟨more, h, _⟩ := h
  exact h.frozen i
theorem POwn.set {w : World} {lb cap : Nat} {l : List Nat} (h : POwn w lb cap l) (i : Nat) (hi : i < l.length) (x : Nat) : POwn (w.setCell ⟨lb, i, none⟩ (.pointer (some ⟨x, 0, none⟩))) lb cap (l.set i x) := by
  obtain ⟨more, h, h2⟩ := h
  refine ⟨more, (h.set i _).to ?_, by simpa using h2⟩
  rw [List.set_append_left _ _ (by simpa using hi)]
  simp [Go.Proofs.YtjbbapodcngnaaaGreatDoor.ptrs, List.map_set]

/-- What newHeader leaves: the same block, turned round, and the map. -/
def NhPost (lb cap : Nat) (fs : List Fd) (w : World) (e : Ending) (w' : World) : Prop :=
  ∃ m, e = .returned (.agg #[.slice (some ⟨lb, 0, none⟩) fs.length cap, .map m]) ∧ POwn w' lb cap (fs.reverse.map (·.blk)) ∧ HMap w' w.heap.size m fs.reverse ∧ Keeps (In [lb]) w w'

theorem wrap_small (n : Nat) (h : n ≤ 1000000000000) : IntKind.i64.wrap (n : Int) = (n : Int) := by rw [IntKind.wrap_i64]; omega
theorem swap_list (a m c : List Nat) (x y : Nat) : ((a ++ [x] ++ m ++ y :: c).set a.length y).set (a.length + 1 + m.length) x = a ++ (y :: m ++ [x]) ++ c := by
  rw [List.append_assoc, List.append_assoc, List.set_append_right _ _ (Nat.le_refl _), Nat.sub_self]
  simp only [List.singleton_append, List.set_cons_zero]
  rw [List.set_append_right _ _ (by omega), show a.length + 1 + m.length - a.length = m.length + 1 by omega]
  simp only [List.set_cons_succ]
  rw [List.set_append_right _ _ (Nat.le_refl _), Nat.sub_self]
  simp

set_option maxRecDepth 100000 in
set_option maxHeartbeats 2000000 in
theorem newHeader_any (lb cap lo hi : Nat) (fs : List Fd) (len : Nat) (hlen : len = fs.length) (w : World) (hp : POwn w lb cap (fs.map (·.blk))) (hf : Fds w lo hi fs) (hhi : hi ≤ w.heap.size) (hn : fs.length ≤ 1000000) :
    Calls Tryz.prog 105 #[.slice (some ⟨lb, 0, none⟩) len cap] w (NhPost lb cap fs w) := by
  have HP := Lib.hid hp
  have HF := Lib.hid hf
  have HL := Lib.hid hlen
  have hlen2 : len ≤ 1000000 := by omega
  have hlbw := hp.ptrs.lt
  clear hp hf hlen
  go_enter Tryz.func105, Tryz.ntmps105
  go_wp2
  go_loopg [3] (len / 2) (fun n s3 wr => ∃ a m c : List Nat, s3 = .int .i64 ((a.length : Int) - 1) ∧ n = a.length ∧ c.length = a.length ∧ fs.map (·.blk) = a ++ m ++ c ∧ POwn wr lb cap (a ++ m.reverse ++ c) ∧ Keeps (Up w.heap.size [lb]) w wr ∧
    Blk wr w.heap.size [.slice none 0 0, .map none] 74)
  case atStart =>
    have h1 := HL.out
    generalize hl : fs.map (·.blk) = l at *
    have h2 : l.length = len := by rw [← hl]; simp [h1]
    have hsplit : l = l.take (len / 2) ++ (l.drop (len / 2)).take (len - 2 * (len / 2)) ++ l.drop (len - len / 2) := by
      rw [List.append_assoc]
      conv => lhs; rw [← List.take_append_drop (len / 2) l]
      congr 1
      conv => lhs; rw [← List.take_append_drop (len - 2 * (len / 2)) (l.drop (len / 2))]
      rw [List.drop_drop]
      congr 2
      omega
    have hmid : ((l.drop (len / 2)).take (len - 2 * (len / 2))).reverse = (l.drop (len / 2)).take (len - 2 * (len / 2)) := by
      generalize hq : (l.drop (len / 2)).take (len - 2 * (len / 2)) = q
      have : q.length ≤ 1 := by rw [← hq]; simp; omega
      match q, this with
      | [], _ => rfl
      | [x], _ => rfl
    refine ⟨l.take (len / 2), (l.drop (len / 2)).take (len - 2 * (len / 2)), l.drop (len - len / 2), ?_, ?_, ?_, ?_, ?_, ((Keeps.refl _ w).alloc _), Blk.new _ _ _⟩
    · rw [List.length_take, h2]; congr 1; omega
    · rw [List.length_take, h2]; omega
    · rw [List.length_take, List.length_drop, h2]; omega
    · exact hsplit
    · rw [hmid]
      rw [← hsplit]
      have := HP.out
      exact this.keep ((Keeps.refl No _).alloc _) (fun h => h)
  case round =>
    obtain ⟨a, m, c, rfl, hna, hca, hfl, hpo, K, hB⟩ := hrel
    have HPO := Lib.hid hpo
    have HFL := Lib.hid hfl
    have HNA := Lib.hid hna
    have HCA := Lib.hid hca
    have HB := Lib.hid hB
    have hll : len = a.length + m.length + c.length := by
      have := congrArg List.length hfl
      have := HL.out
      simp at *
      omega
    have HLL := Lib.hid hll
    clear hpo hfl hna hca hB hll
    rcases nil_or_snoc a with rfl | ⟨a', x, rfl⟩
    · have hc0 : c = [] := List.length_eq_zero_iff.1 HCA.out
      subst hc0
      have hpo := HPO.out
      have hm : fs.map (·.blk) = m := by have := HFL.out; simpa using this
      have hrev : m.reverse = fs.reverse.map (·.blk) := by rw [← hm, List.map_reverse]
      rw [List.nil_append, List.append_nil, hrev] at hpo
      have HPO' := Lib.hid hpo
      clear hm hrev hpo
      have hf := HF.out.keep_lb HP.out.ptrs.typed (K.mono (fun x _ h => by
        rcases h with h | h
        · simp at h; exact .inl h
        · exact .inr (.inr h))) hhi
      go_wp2_with (fail)
      refine (makeHeaderMap_any lb cap lo hi fs.reverse len (by rw [List.length_reverse]; exact HL.out) wr HPO'.out.ptrs (fun f h => hf f (List.mem_reverse.1 h)) (by have := K.size; omega) (by simpa using hn)).mono ?_
      rintro e w2 ⟨mv, rfl, hm2, k2⟩
      have hB2 := HB.out.keep_no k2
      have fz2 := hB2.frozen
      have c0 : w2.cell? ⟨w.heap.size, 0, none⟩ = some (.slice none 0 0) := hB2.cell 0
      have c1 : w2.cell? ⟨w.heap.size, 1, none⟩ = some (.map none) := hB2.cell 1
      have HM2 := Lib.hid hm2
      have HB2 := Lib.hid hB2
      clear hm2 hB2
      go_wp2_with (fail)
      refine bodyPost_ret (results_cell_row rfl _ _ w.heap.size 74 #[.slice (some ⟨lb, 0, none⟩) len cap, .map mv] (0, 0) _ rfl ((HB2.out.set 0 (.slice (some ⟨lb, 0, none⟩) len cap)).set 1 (.map mv)) Tryz.underlying74 rfl (by kernel_rfl)) rfl ?_
      have kk : Keeps (In [w.heap.size]) w2 ((w2.setCell ⟨w.heap.size, 0, none⟩ (.slice (some ⟨lb, 0, none⟩) len cap)).setCell ⟨w.heap.size, 1, none⟩ (.map mv)) := ((Keeps.refl _ w2).setCell (.inl (by simp [In])) _).setCell (.inl (by simp [In])) _
      refine ⟨mv, by rw [HL.out], (HPO'.out.keep k2 (fun h => h)).keep kk (fun h => by simp [In] at h; omega), ?_, ?_⟩
      · rcases HM2.out with ⟨h1, h2⟩ | ⟨mb, gs, h1, h2, h3, h4⟩
        · exact .inl ⟨h1, h2⟩
        · have hws := K.size
          have hlt := HB.out.lt
          refine .inr ⟨mb, gs, h1, by omega, h3.keep kk (fun h => by simp [In] at h; omega), ?_⟩
          have h5 := h4.keep kk (fun x hx b hb h => by
            have := ((h4.own x hx).lt b hb).1
            simp [In] at h
            omega)
          exact ⟨h5.keys, h5.apart, fun x hx => PS.mono (h5.own x hx) hws, h5.some_, h5.of, h5.all⟩
      · have hws := K.size
        refine (((K.trans' (k2.of_no)).trans' (kk.mono (fun x _ h => .inr (by simp [In] at h; omega)))).mono (fun x hx h => ?_))
        rcases h with h | h
        · exact h
        · omega
    · obtain ⟨y, c', rfl⟩ : ∃ y c', c = y :: c' := by
        cases c with
        | nil => have := HCA.out; simp at this
        | cons y c' => exact ⟨y, c', rfl⟩
      have e1 : (((a' ++ [x]).length : Nat) : Int) - 1 = (a'.length : Int) := by simp
      rw [e1]
      have hx := HPO.out.ptrs.cell_of (i := a'.length) (x := x) (by simp)
      have hy := HPO.out.ptrs.cell_of (i := a'.length + 1 + m.length) (x := y) (by
        rw [List.getElem?_append_right (by simp; omega)]
        simp only [List.length_append, List.length_cons, List.length_nil, List.length_reverse, Nat.zero_add, Nat.sub_self, List.getElem?_cons_zero])
      have fz := HPO.out.frozen
      have hlen' : len = a'.length + 1 + m.length + 1 + c'.length := by have := HLL.out; simp at this; omega
      have hset : ∀ w', POwn w' lb cap (a' ++ [x] ++ m.reverse ++ y :: c') → POwn ((w'.setCell ⟨lb, a'.length, none⟩ (.pointer (some ⟨y, 0, none⟩))).setCell ⟨lb, a'.length + 1 + m.length, none⟩ (.pointer (some ⟨x, 0, none⟩))) lb cap (a' ++ (y :: m.reverse ++ [x]) ++ c') := fun w' h => by
        have := (h.set a'.length (by simp) y).set (a'.length + 1 + m.length) (by simp; omega) x
        rw [show a'.length + 1 + m.length = a'.length + 1 + m.reverse.length by simp] at this ⊢
        rwa [swap_list] at this
      have HSET := Lib.hid hset
      clear hset
      generalize hop : a'.length + 1 + m.length = op at *
      have hcc : c'.length = a'.length := by have := HCA.out; simp at this; omega
      have h5 : (len : Int) - 1 - (a'.length : Int) = (op : Int) := by omega
      have h5' : IntKind.i64.wrap ((len : Int) - 1 - (a'.length : Int)) = (op : Int) := by rw [h5]; exact wrap_small op (by omega)
      have h6 : (op : Int) < (len : Int) := by omega
      have h7 : (a'.length : Int) < (len : Int) := by omega
      have h8 : (0 : Int) ≤ (a'.length : Int) := by omega
      have h9 : (0 : Int) ≤ (op : Int) := by omega
      have h10 : op ≠ a'.length := by omega
      have h11 : a'.length ≤ 1000000 := by omega
      clear hlen' hcc
      generalize hii : a'.length = ii at *
      go_wp2
      go_region
      go_wp2
      go_roundg (gk - 1)
      case measure => have := HNA.out; simp at this; omega
      case rel =>
        have hna := HNA.out
        have hca := HCA.out
        simp at hna hca
        refine ⟨a', x :: m ++ [y], c', by rw [hii], by omega, by omega, ?_, ?_, ?_, ?_⟩
        · rw [HFL.out]; simp
        · have := (HSET.out _ HPO.out).keep ((Keeps.refl No _).drew) (fun h => h)
          simpa using this
        · exact ((K.setCell (.inl (.inl (by simp))) _).setCell (.inl (.inl (by simp))) _).drew
        · refine ((HB.out.set_other ?_ _).set_other ?_ _).keep ((Keeps.refl No _).drew) (fun h => h)
          · simp; omega
          · simp; omega
end Go.Proofs.YtjbbapodcngnaaaGreatDoor
namespace Go.Proofs.YtjbbapodcngnaaaGreatDoor
open Go.RowKit Hdr

/-- What newHeaderField leaves. -/
def NfPost (k v : List UInt8) (rv : Value) (w : World) (e : Ending) (w' : World) : Prop :=
  ∃ fb : Nat, e = .returned (.pointer (some ⟨fb, 0, none⟩)) ∧ w.heap.size ≤ fb ∧ fb < w'.heap.size ∧ Blk w' fb [rv, str (canon k), str v] 185 ∧ Keeps No w w'

set_option maxRecDepth 100000 in
set_option maxHeartbeats 1000000 in
theorem newHeaderField_any (k v : List UInt8) (rv : Value) (hrv : ∃ a n c, rv = .slice a n c) (w : World) (hlen : k.length ≤ 1000000000) :
    Calls Tryz.prog 97 #[str k, str v, rv] w (NfPost k v rv w) := by
  obtain ⟨a, n, c, rfl⟩ := hrv
  go_enter Tryz.func97, Tryz.ntmps97
  go_wp2_with (fail)
  refine (canonicalKey_any k w hlen).mono ?_
  rintro e w1 ⟨rfl, K⟩
  go_wp2
  go_ret
  exact ⟨w1.heap.size, rfl, K.size, by simp, Blk.new w1 _ _, K.alloc _⟩

/-- What errors.New leaves: an error that is not nil. -/
def EnPost (w : World) (e : Ending) (w' : World) : Prop := ∃ eb : Nat, e = .returned (.iface 203 (.pointer (some ⟨eb, 0, none⟩))) ∧ Keeps No w w'

set_option maxRecDepth 100000 in
theorem errorsNew_any (l : ByteArray) (w : World) :
    Calls Tryz.prog 85 #[.string l] w (EnPost w) := by
  go_enter Tryz.func85, Tryz.ntmps85
  go_wp2
  go_ret
  exact ⟨w.heap.size, rfl, (Keeps.refl _ _).alloc _⟩

/-- A slice of pointers of ours, with its room. -/
def PO (w : World) (base g cap : Nat) (l : List Nat) : Prop :=
  base ≤ g ∧ l.length ≤ cap ∧ cap ≤ maxLen ∧ ∃ cur, Blk w g cur 160 ∧ cur.length = cap ∧ cur.take l.length = ptrs l
theorem PO.own {w : World} {base g cap : Nat} {l : List Nat} (h : PO w base g cap l) : POwn w g cap l := by
  obtain ⟨_, h1, h2, cur, hb, h3, ht⟩ := h
  exact ⟨cur.drop l.length, hb.to (by rw [← ht, List.take_append_drop]), by rw [List.length_drop]; omega, h2⟩
theorem PO.keep {S : Nat → Prop} {w w' : World} {base g cap : Nat} {l : List Nat} (h : PO w base g cap l) (k : Keeps S w w') (hS : ¬ S g) : PO w' base g cap l := by
  obtain ⟨h1, h2, h3, cur, hb, h4, h5⟩ := h
  exact ⟨h1, h2, h3, cur, hb.keep k hS, h4, h5⟩
theorem PO.row {w : World} {base g cap : Nat} {l : List Nat} (h : PO w base g cap l) : w.ownsRow base 160 1 (.slice (some ⟨g, 0, none⟩) l.length cap) l.length (ptrs l) := by
  obtain ⟨h1, h2, h3, cur, hb, h4, h5⟩ := h
  exact ⟨by simp, .inr ⟨g, cap, cur.toArray, rfl, h1, hb, h2, h3, by simpa using h4, by simpa using h5⟩⟩
theorem PO.of_row {w : World} {base : Nat} {v : Value} {n : Nat} {l : List Nat} (h : w.ownsRow base 160 1 v n (ptrs l)) (hv : v ≠ .slice none 0 0) : ∃ g cap, v = .slice (some ⟨g, 0, none⟩) n cap ∧ n = l.length ∧ PO w base g cap l := by
  obtain ⟨h1, h2⟩ := h
  have hn : n = l.length := by simpa using h1.symm
  rcases h2 with ⟨rfl, _⟩ | ⟨g, cap, cur, rfl, hb, hg, hc, hm, hs, ht⟩
  · exact absurd rfl hv
  · exact ⟨g, cap, rfl, hn, hb, by omega, hm, cur.toList, hg, by simpa using hs, by rw [← hn]; simpa using ht⟩
theorem PO.lt {w : World} {base g cap : Nat} {l : List Nat} (h : PO w base g cap l) : g < w.heap.size := by
  obtain ⟨_, _, _, cur, hb, _, _⟩ := h
  exact hb.lt

/-- append(s, x): one pointer, laid into a block of its own first. -/
theorem wpList_append_p {w : World} {ops : Array Oper} {rest : List Oper} {o : Oper} {a : Act} {Q : Exit → Act → World → Prop} (hgd : o.guard = none) (s x : Operand)
    (ho : o.op = .call { callee := .builtin .append, args := #[s, x], argTypes := #[71, 71] })
    (base g cap n : Nat) (l : List Nat) (hs : a.eval s = .slice (some ⟨g, 0, none⟩) n cap) (hn : n = l.length) (hown : PO w base g cap l)
    (ad : Addr) (m c : Nat) (new : List Nat) (hx : a.eval x = .slice (some ad) m c) (hm : m = new.length) (hnew : ∀ j u, (ptrs new)[j]? = some u → w.cell? (ad.add j) = some u)
    (hb : n + m ≤ 1000000000000) (hbase : base ≤ w.heap.size)
    (h : ∀ g' cap' W, PO W base g' cap' (l ++ new) → Keeps (In [g]) w W → (g' = g ∨ w.heap.size ≤ g') → wpList Tryz.prog ops Q rest (a.put o.dst (.slice (some ⟨g', 0, none⟩) (n + m) cap')) W) : wpList Tryz.prog ops Q (o :: rest) a w := by
  subst hn; subst hm
  obtain ⟨i, hi, hz0, hz1, hz2⟩ := info_parts info_hf
  refine wpList_append_own_at (P := Tryz.prog) w hgd s x 71 ho base 160 i (.pointer none) 1 8 Tryz.underlying71 hi hz0 hz1 hz2 rfl (by decide) _ l.length (ptrs l) hs hown.row ad new.length c (ptrs new) hx (by simp) hnew (ptrs_one new) (by unfold maxLen; omega) (by omega) hbase ?_
  intro v' W hrow hgr hnil hat
  have hv : v' ≠ .slice none 0 0 := fun e => by have := (hnil.1 e).1; simp at this
  rw [← ptrs_append] at hrow
  obtain ⟨g', cap', rfl, hl, ho⟩ := PO.of_row hrow hv
  refine h g' cap' W ho ?_ ?_
  · exact (Keeps.refl (In [g]) w).grown hgr (fun k hk => .inl (by simp [Value.ownBlock] at hk; simp [In, hk]))
  · simp only [Value.ownBlock, Option.some.injEq] at hat
    omega

/-- make([]*headerField, 0, n). -/
theorem wpList_make_p {w : World} {ops : Array Oper} {rest : List Oper} {o : Oper} {a : Act} {Q : Exit → Act → World → Prop} (hgd : o.guard = none) (l c : Operand) (hop : o.op = Op.makeSlice 71 l c)
    (base n : Nat) (C : Int) (hl : a.eval l = .int .i64 0) (hc : a.eval c = .int .i64 C) (hC : C = (n : Int)) (hn : n ≤ 1000000) (hbase : base ≤ w.heap.size)
    (h : ∀ W, PO W base w.heap.size n [] → Keeps No w W → wpList Tryz.prog ops Q rest (a.put o.dst (.slice (some ⟨w.heap.size, 0, none⟩) 0 n)) W) : wpList Tryz.prog ops Q (o :: rest) a w := by
  obtain ⟨i, hi, hz0, hz1, hz2⟩ := info_parts info_hf
  refine wpList_make_own (P := Tryz.prog) w hgd l c 71 hop base 160 i (.pointer none) 1 Tryz.underlying71 hi hz0 hz1 .i64 .i64 C n hl hc hC (by rw [hz2]; omega) (by unfold maxLen; omega) hbase ?_
  intro W hrow hgr
  obtain ⟨g', cap', he, -, ho⟩ := PO.of_row (l := []) hrow (by simp)
  simp only [Value.slice.injEq, Option.some.injEq, Addr.mk.injEq, and_true, true_and] at he
  obtain ⟨rfl, rfl⟩ := he
  exact h W ho ((Keeps.refl No w).grown hgr (fun k hk => by cases hk))

/-- A header out of its block. -/
theorem load_hdr (w : World) (g : Nat) (x y : Value) (h : Blk w g [x, y] 74) : (loadVar 74 ⟨g, 0, none⟩).run Tryz.prog w = .ok (.agg #[x, y]) w :=
  run_loadVar_row w g 74 74 #[x, y] (0, 0) _ h Tryz.underlying74 rfl (by kernel_rfl)

/-- The results of a function with a struct in a cell and a temporary. -/
theorem results_row_tmp {fn : Func} {p u : Tmp} {ty : TypeId} (h : fn.results = #[.cell p ty, .tmp u]) (tmps : Array Value) {P : Program} (w : World) (g : Nat) (v : Value) (hp : tmps.getD p undef = .pointer (some ⟨g, 0, none⟩)) (hl : (loadVar ty ⟨g, 0, none⟩).run P w = .ok v w) :
    (results fn tmps).run P w = .ok (.tuple #[v, tmps.getD u undef]) w := by
  rw [results_cell_tmp h tmps P w, hp]
  simp [asAddr, hl, Result.andThen]
end Go.Proofs.YtjbbapodcngnaaaGreatDoor
namespace Go.Proofs.YtjbbapodcngnaaaGreatDoor
open Go.RowKit Hdr

/-- What a field says. -/
def Fd.tells (f : Fd) (p : PF) : Prop := f.k = p.k ∧ f.v = p.v ∧ f.raw = some p.raw
/-- Fields that say what is said of them. -/
def Tells : List Fd → List PF → Prop
  | [], [] => True
  | f :: fs, p :: ps => f.tells p ∧ Tells fs ps
  | _, _ => False
theorem Tells.snoc : ∀ {fs : List Fd} {ps : List PF} {f : Fd} {p : PF}, Tells fs ps → f.tells p → Tells (fs ++ [f]) (ps ++ [p])
  | [], [], _, _, _, h => ⟨h, trivial⟩
  | _ :: _, _ :: _, _, _, h, h2 => ⟨h.1, Tells.snoc h.2 h2⟩
  | [], _ :: _, _, _, h, _ => h.elim
  | _ :: _, [], _, _, h, _ => h.elim

/-- The fields fit, and lie in blocks of their own. -/
def NB (fs : List Fd) (cap : Nat) : Prop := fs.length ≤ cap ∧ (fs.map (·.blk)).Nodup

theorem nodup_snoc {l : List Nat} {x : Nat} (h : l.Nodup) (hx : ∀ y ∈ l, y < x) : (l ++ [x]).Nodup := by
  rw [List.nodup_append]
  refine ⟨h, by simp, fun a ha b hb => ?_⟩
  simp only [List.mem_cons, List.not_mem_nil, or_false] at hb
  subst hb
  have := hx a ha
  omega

end Go.Proofs.YtjbbapodcngnaaaGreatDoor
namespace Go.Proofs.YtjbbapodcngnaaaGreatDoor
open Go.RowKit Hdr

theorem kv_Short {c : List UInt8} (h : Short c) : Short (kv c).2 := h.tail (kv_suffix c)

theorem Fds.nil (w : World) (lo hi : Nat) : Fds w lo hi [] := fun f hf => by cases hf
theorem OwnS.typed {w : World} {base g cap : Nat} {l : List UInt8} (h : OwnS w base g cap l) : Typed w g 5 := by
  obtain ⟨_, _, _, cur, hb, _, _⟩ := h
  exact hb.typed

end Go.Proofs.YtjbbapodcngnaaaGreatDoor
