/- spec: header9. -/
import Derived.Test.YtjbbapodcngnaaaDoorSpF
import Derived.Test.YtjbbapodcngnaaaDoorHdrF
namespace Go.Proofs.YtjbbapodcngnaaaDoor
open Go.RowKit Hdr

/-- What header9 leaves. -/
def H9Post (r : H9) (w : World) (e : Ending) (w' : World) : Prop :=
  ∃ v, e = .returned (.tuple #[v, .int .i64 r.taken, .bool r.ok, .bool r.sure]) ∧ w'.ownsRow w.heap.size 60 4 v r.fs.length (f9s r.fs) ∧ Keeps No w w' ∧ r.fs.length ≤ 100000

theorem results_cell_tmp3 {fn : Func} {p u v x : Tmp} {ty : TypeId} (h : fn.results = #[.cell p ty, .tmp u, .tmp v, .tmp x]) (tmps : Array Value) {P : Program} (w : World) (g : Nat) (y : Value) (hp : tmps.getD p undef = .pointer (some ⟨g, 0, none⟩)) (hl : (loadVar ty ⟨g, 0, none⟩).run P w = .ok y w) :
    (results fn tmps).run P w = .ok (.tuple #[y, tmps.getD u undef, tmps.getD v undef, tmps.getD x undef]) w := by
  simp only [results, h]
  simp [Sem.run_bind, asAddr, Result.andThen]
  have hp' : tmps[p]?.getD undef = .pointer (some ⟨g, 0, none⟩) := by simpa using hp
  rw [hp']
  simp [hl]

theorem load_f9s (w : World) (g : Nat) (v : Value) (h : w.cell? ⟨g, 0, none⟩ = some v) : (loadVar 37 ⟨g, 0, none⟩).run Tryd.prog w = .ok v w := by
  simp [loadVar, isAgg, run_underlying Tryd.underlying37, h]

/-- What lies in memory. -/
structure Mem9 (n : Nat) (w wr : World) (c : Nat) (s : HS) : Prop where
  H : Hp wr (c + 1 + 1 + 1) (c + 1) (c + 1 + 1) c s
  K : Keeps (Up c []) w wr
  hsz : c + 1 + 1 + 1 ≤ wr.heap.size
  cnt : s.ls.length + s.fs.length ≤ n
  len : (raws s.ls).length ≤ 3 * n
/-- Where the walk stands. -/
structure At9 (l : List UInt8) (w wr : World) (c : Nat) (r : List UInt8) (s : HS) : Prop where
  M : Mem9 l.length w wr c s
  scan : scan9 ⟨[], false, []⟩ l = scan9 s r
  cnt : s.ls.length + s.fs.length + r.length ≤ l.length
  len : (raws s.ls).length + 3 * r.length ≤ 3 * l.length

theorem info_str : (Tryd.prog.info? 9).map (fun i => (i.zero, i.size, i.bytes)) = some (some (.string ⟨#[]⟩), 1, 16) := by kernel_rfl

theorem addr_at (b i : Nat) : (⟨b, 0, none⟩ : Addr).add i = ⟨b, i, none⟩ := by unfold Addr.add; split <;> simp_all

/-- Rows of different types lie in different blocks. -/
theorem ownsRow_apart {w : World} {base base' e e' size size' n n' : Nat} {v v' : Value} {xs xs' : List Value} (h : w.ownsRow base e size v n xs) (h' : w.ownsRow base' e' size' v' n' xs') (hne : e ≠ e') : v.ownBlock = none ∨ v.ownBlock ≠ v'.ownBlock := by
  rcases h.2 with ⟨rfl, _⟩ | ⟨g, cap, cur, rfl, _, hg, _⟩
  · exact .inl rfl
  · right
    intro hq
    rcases h'.2 with ⟨rfl, _⟩ | ⟨g', cap', cur', rfl, _, hg', _⟩
    · cases hq
    · simp only [Value.ownBlock, Option.some.injEq] at hq
      subst hq
      rw [hg] at hg'
      simp only [Option.some.injEq, Obj.cells.injEq] at hg'
      exact hne hg'.2.1

theorem add9_eq (s : HS) (y : UInt8) (L : List UInt8) : add9 s (y :: L) = ⟨(if sp y then s else put9 s).ls ++ [y :: L], (if sp y then s else put9 s).bad, (if sp y then s else put9 s).fs⟩ := by
  unfold add9
  show (if sp y = true then _ else _) = _
  cases sp y <;> rfl

theorem put9_cnt (s : HS) : (put9 s).ls.length + (put9 s).fs.length ≤ s.ls.length + s.fs.length ∧ (raws (put9 s).ls).length ≤ (raws s.ls).length := by
  rw [put9_ls]
  refine ⟨?_, by simp [raws]⟩
  unfold put9
  split
  · rename_i h; rw [h]; simp
  · rename_i h
    rw [h]
    simp only
    split
    · simp; omega
    · simp

theorem upto_from {l : List UInt8} {j i : Nat} (hji : j ≤ i) (hi : i < l.length) (h : (10 : UInt8) ∉ (l.drop j).take (i - j)) :
    (l[i] ≠ 10 → (10 : UInt8) ∉ (l.drop j).take (i + 1 - j)) ∧ (l[i] = 10 → j + (upto (l.drop j)).length = i) := by
  have hlt : i - j < (l.drop j).length := by simp; omega
  have hg : (l.drop j)[i - j] = l[i] := by
    rw [List.getElem_drop]
    congr 1
    omega
  constructor
  · intro hne
    rw [show i + 1 - j = (i - j) + 1 by omega, List.take_succ_eq_append_getElem hlt, hg]
    simp only [List.mem_append, List.mem_singleton, not_or]
    exact ⟨h, fun e => hne e.symm⟩
  · intro he
    have h1 : l.drop j = (l.drop j).take (i - j) ++ 10 :: (l.drop j).drop (i - j + 1) := by
      conv => lhs; rw [← List.take_append_drop (i - j) (l.drop j), List.drop_eq_getElem_cons hlt, hg, he]
    have h2 := (nl_upto h ((l.drop j).drop (i - j + 1))).1
    rw [← h1] at h2
    rw [h2, List.length_take]
    omega
theorem upto_self {l : List UInt8} (h : (10 : UInt8) ∉ l) : upto l = l := by
  induction l with
  | nil => rfl
  | cons x l ih =>
    simp only [List.mem_cons, not_or] at h
    rw [upto_cons (fun e => h.1 e.symm), ih h.2]
theorem drop_mid {d a r : List UInt8} {x : UInt8} (h : d = a ++ x :: r) : d.drop (a.length + 1) = r := by
  subst h
  rw [show a.length + 1 = (a ++ [x]).length by simp, show a ++ x :: r = (a ++ [x]) ++ r by simp, List.drop_left]
theorem upto_all {l : List UInt8} {j : Nat} (hj : j ≤ l.length) (h : (10 : UInt8) ∉ (l.drop j).take (l.length - j)) : j + (upto (l.drop j)).length = l.length := by
  rw [List.take_of_length_le (by simp)] at h
  rw [upto_self h]
  simp
  omega

/-- The first line from j on, where the line feed is sought at t. -/
theorem line_at {l : List UInt8} {j : Nat} (hj : j ≤ l.length) : ∃ j' : Nat, j' ≤ l.length ∧ l.drop j' = (line1 (l.drop j)).2 ∧
    ((j + (upto (l.drop j)).length = l.length ∧ j' = l.length ∧ (line1 (l.drop j)).1 = upto (l.drop j)) ∨
     (j + (upto (l.drop j)).length < l.length ∧ j' = j + (upto (l.drop j)).length + 1 ∧ (line1 (l.drop j)).1 = chomp (upto (l.drop j)))) := by
  have hs := congrArg List.length (split (l.drop j))
  simp only [List.length_append, List.length_drop] at hs
  cases hb : behind (l.drop j) with
  | nil =>
    rw [hb] at hs
    simp at hs
    refine ⟨l.length, Nat.le_refl _, ?_, .inl ⟨by omega, rfl, ?_⟩⟩
    · rw [line1_end hb]; simp
    · rw [line1_end hb]
      have h2 := split (l.drop j)
      rw [hb, List.append_nil] at h2
      exact h2
  | cons x r =>
    rw [hb] at hs
    simp at hs
    refine ⟨j + (upto (l.drop j)).length + 1, by omega, ?_, .inr ⟨by omega, rfl, by rw [line1_nl hb]⟩⟩
    rw [line1_nl hb]
    have h2 := split (l.drop j)
    rw [hb] at h2
    have h3 := drop_mid h2
    rw [← h3, List.drop_drop]
    rfl

/-- A round of the scan. -/
theorem step9 {l r : List UInt8} {s : HS} (hr : r ≠ []) (hscan : scan9 ⟨[], false, []⟩ l = scan9 s r) (hc : s.ls.length + s.fs.length + r.length ≤ l.length) (hl : (raws s.ls).length + 3 * r.length ≤ 3 * l.length) :
    (((line1 r).1.contains 13) = true → scan9 ⟨[], false, []⟩ l = none) ∧
    (((line1 r).1.contains 13) = false → (line1 r).1 = [] → scan9 ⟨[], false, []⟩ l = some (s, (line1 r).2)) ∧
    (((line1 r).1.contains 13) = false → (line1 r).1 ≠ [] → scan9 ⟨[], false, []⟩ l = scan9 (add9 s (line1 r).1) (line1 r).2 ∧
      (add9 s (line1 r).1).ls.length + (add9 s (line1 r).1).fs.length + (line1 r).2.length ≤ l.length ∧ (raws (add9 s (line1 r).1).ls).length + 3 * (line1 r).2.length ≤ 3 * l.length) := by
  refine ⟨fun h => ?_, fun h h2 => ?_, fun h h2 => ⟨?_, ?_, ?_⟩⟩
  · rw [hscan]; exact scan9_ret hr (by simpa using h)
  · rw [hscan]; exact scan9_end hr h2
  · rw [hscan]; exact scan9_more hr (by simpa using h) h2
  · have h3 := line1_len r
    have h4 := List.length_pos_iff.2 h2
    have h5 := put9_cnt s
    unfold add9
    split
    · simp; omega
    · simp; omega
  · have h3 := line1_len r
    have h4 := List.length_pos_iff.2 h2
    have h5 := put9_cnt s
    have e : ∀ x : List (List UInt8), (raws (x ++ [(line1 r).1])).length = (raws x).length + ((line1 r).1.length + 2) := fun x => by rw [raws_append]; simp [raws]
    unfold add9
    split
    · rw [e]; omega
    · rw [e]; omega

/-- What the lines come to when the loop is left. -/
def Out9 (l : List UInt8) (w wx : World) (c : Nat) (s9 : Value) : Prop :=
  ∃ (j : Nat) (s : HS), s9 = .int .i64 (j : Int) ∧ j ≤ l.length ∧ Mem9 l.length w wx c s ∧ scan9 ⟨[], false, []⟩ l = some (s, l.drop j)

set_option maxRecDepth 100000 in
set_option maxHeartbeats 2000000 in
theorem header9_any (l : List UInt8) (w : World) (hlen : l.length ≤ 100000) :
    Calls Tryd.prog 12 #[str l] w (H9Post (h9 l) w) := by
  cases hsp : spHead l with
  | true =>
    obtain ⟨x, l0, rfl⟩ : ∃ x l0, l = x :: l0 := by
      cases l with
      | nil => cases hsp
      | cons x l0 => exact ⟨x, l0, rfl⟩
    have hh : h9 (x :: l0) = ⟨[], 0, false, true⟩ := by unfold h9; rw [if_pos hsp]
    rw [hh]
    have hx : sp x = true := hsp
    have hx0 := str_get (x :: l0) 0 (by simp)
    simp only [List.getElem_cons_zero] at hx0
    go_enter Tryd.func12, Tryd.ntmps12
    go_wp2_with (fail)
    refine (isBlank9_any x _).mono ?_
    rintro e w1 ⟨rfl, rfl⟩
    rw [hx]
    go_wp2
    refine bodyPost_ret (results_cell_tmp3 rfl _ _ w.heap.size _ rfl (load_f9s _ _ _ ((Blk.new w [.slice none 0 0] 37).cell 0))) rfl ?_
    exact ⟨_, rfl, World.ownsRow_nil _ _ _ _, (Keeps.refl No w).alloc _, by simp⟩
  | false =>
    have HSP := Lib.hid hsp
    clear hsp
    go_enter Tryd.func12, Tryd.ntmps12
    go_upto_region 1 with (fail)
    have hc0 := Blk.new w [.slice none 0 0] 37
    have K0 : Keeps No w (w.alloc (.cells #[.slice none 0 0] 37)) := (Keeps.refl No w).alloc _
    have hz0 : (w.alloc (.cells #[.slice none 0 0] 37)).heap.size = w.heap.size + 1 := by simp
    generalize (w.alloc (.cells #[.slice none 0 0] 37)) = w1 at *
    go_cut [19] (fun s19 wx => s19 = .bool false ∧ w1 = wx)
    case first =>
      cases l with
      | nil =>
        go_wp2
        go_meet
        exact ⟨rfl, rfl⟩
      | cons x l0 =>
        have hx0 := str_get (x :: l0) 0 (by simp)
        simp only [List.getElem_cons_zero] at hx0
        go_wp2_with (fail)
        refine (isBlank9_any x _).mono ?_
        rintro e w1 ⟨rfl, rfl⟩
        have hx : sp x = false := HSP.out
        rw [hx]
        go_wp2
        go_meet
        exact ⟨rfl, rfl⟩
    case rest =>
      obtain ⟨rfl, rfl⟩ := hcut
      go_upto_block 0 with (fail)
      have hA : At9 l w ((w1.alloc (.cells #[.slice none 0 0] 26)).alloc (.cells #[.bool false] 4)) w.heap.size l ⟨[], false, []⟩ := by
        have hL1 := Blk.new w1 [.slice none 0 0] 26
        have hB1 := Blk.new (w1.alloc (.cells #[.slice none 0 0] 26)) [.bool false] 4
        rw [hz0] at hL1
        rw [show (w1.alloc (.cells #[.slice none 0 0] 26)).heap.size = w.heap.size + 1 + 1 by simp; omega] at hB1
        refine ⟨⟨⟨by omega, by omega, by omega, ⟨_, hL1.alloc _, World.ownsRow_nil _ _ _ _⟩, hB1, ⟨_, (hc0.alloc _).alloc _, World.ownsRow_nil _ _ _ _⟩⟩, ((K0.alloc _).alloc _).of_no, by simp; omega, by simp, by simp [raws]⟩, rfl, by simp, by simp [raws]⟩
      generalize ((w1.alloc (.cells #[.slice none 0 0] 26)).alloc (.cells #[.bool false] 4)) = w3 at *
      have HA := Lib.hid hA
      have hls := str_len l
      clear hA hc0 K0 hz0
      clear w1
      go_cut [9] (fun s9 wx => Out9 l w wx w.heap.size s9)
      case first =>
        go_wp2
        go_loopg [9] l.length (fun n s9 wr => ∃ (j : Nat) (s : HS), s9 = .int .i64 (j : Int) ∧ j + n = l.length ∧ At9 l w wr w.heap.size (l.drop j) s)
        case atStart => exact ⟨0, _, rfl, by omega, HA.out⟩
        case round =>
          obtain ⟨j, s, rfl, hjn, hat⟩ := hrel
          have HJN := Lib.hid hjn
          have HAT := Lib.hid hat
          have hjl : j ≤ l.length := by omega
          clear hjn hat
          by_cases hj : j < l.length
          · have hjj : (j : Int) < (l.length : Int) := by omega
            have e1 : decide (j < l.length) = true := decide_eq_true hj
            go_upto_block 2 with (fail)
            go_cut [10] (fun s10 wx => s10 = .int .i64 ((j + (upto (l.drop j)).length : Nat) : Int) ∧ wr = wx)
            case first =>
              go_wp2
              go_loopg [10] (l.length - j) (fun q s10 wy => ∃ i : Nat, s10 = .int .i64 i ∧ i + q = l.length ∧ j ≤ i ∧ (10 : UInt8) ∉ (l.drop j).take (i - j) ∧ wr = wy)
              case atStart => exact ⟨j, rfl, by omega, Nat.le_refl _, by simp, rfl⟩
              case round =>
                obtain ⟨i, rfl, hin, hji, h10, rfl⟩ := hrel
                have HIN := Lib.hid hin
                have H10 := Lib.hid h10
                have hil : i ≤ l.length := by omega
                clear hin h10
                by_cases hi : i < l.length
                · have hx := str_get l i hi
                  have hup := upto_from hji hi H10.out
                  generalize l[i] = x at *
                  have HUP := Lib.hid hup
                  have hii : (i : Int) < (l.length : Int) := by omega
                  clear hup
                  by_cases hxc : x = 10
                  · have e2 : ((x.toNat : Int) == 10) = true := by rw [hxc]; rfl
                    have HXC := Lib.hid hxc
                    clear hxc
                    go_wp2
                    go_meet
                    exact ⟨by rw [HUP.out.2 HXC.out], rfl⟩
                  · have e2 : ((x.toNat : Int) == 10) = false := by
                      simp only [beq_eq_false_iff_ne, ne_eq]
                      intro h
                      exact hxc (UInt8.toNat.inj (by show x.toNat = 10; omega))
                    have HXC := Lib.hid hxc
                    clear hxc
                    go_wp2
                    go_roundg (gk - 1)
                    case measure => have := HIN.out; omega
                    case rel => exact ⟨i + 1, by simp, by have := HIN.out; omega, by omega, HUP.out.1 HXC.out, rfl⟩
                · have hil2 : i = l.length := by omega
                  have hah : j + (upto (l.drop j)).length = i := by
                    have := H10.out
                    rw [hil2] at this
                    rw [upto_all hjl this, hil2]
                  have e2 : decide (i < l.length) = false := decide_eq_false hi
                  have HAH := Lib.hid hah
                  clear hah hil2
                  go_wp2
                  go_meet
                  exact ⟨by rw [HAH.out], rfl⟩
            case rest =>
              obtain ⟨rfl, rfl⟩ := hcut
              obtain ⟨j', hj', hdr, hcase⟩ := line_at hjl
              have hdne : l.drop j ≠ [] := by
                intro h
                have := congrArg List.length h
                simp at this
                omega
              have hst := step9 hdne HAT.out.scan HAT.out.cnt HAT.out.len
              rw [← hdr] at hst
              have hut : (l.drop j).take (upto (l.drop j)).length = upto (l.drop j) := by
                unfold upto
                exact (List.prefix_iff_eq_take.1 (List.takeWhile_prefix _)).symm
              have hsc := str_cut l j (j + (upto (l.drop j)).length)
              rw [Nat.add_sub_cancel_left, hut] at hsc
              have hLu : (line1 (l.drop j)).1.length ≤ l.length := by
                have h1 := line1_len (l.drop j)
                simp at h1
                omega
              generalize hL : (line1 (l.drop j)).1 = L at *
              generalize hU : upto (l.drop j) = U at *
              generalize ht : j + U.length = t at *
              have htl : t ≤ l.length := by omega
              have hjt : j ≤ t := by omega
              have hUlen : U.length ≤ 100000 := by omega
              have HT := Lib.hid ht
              have HL := Lib.hid hL
              have HU := Lib.hid hU
              have HC := Lib.hid hcase
              have HST := Lib.hid hst
              have HDR := Lib.hid hdr
              have hUl := str_len U
              have hret : ∃ q : Bool, (t = l.length → q = false) ∧ (t < l.length → U = [] → q = false) ∧ (t < l.length → ∀ m x, U = m ++ [x] → q = (x == 13)) ∧ (q = true → ∃ m, U = m ++ [13] ∧ L = m) ∧ (q = false → L = U) := by
                rcases hcase with ⟨h1, h2, h3⟩ | ⟨h1, h2, h3⟩
                · exact ⟨false, fun _ => rfl, fun _ _ => rfl, fun h => by omega, fun h => (by cases h), fun _ => h3⟩
                · rcases nil_or_snoc U with rfl | ⟨m, x, hm⟩
                  · exact ⟨false, fun _ => rfl, fun _ _ => rfl, fun _ m x h => (by cases m <;> cases h), fun h => (by cases h), fun _ => h3⟩
                  · refine ⟨x == 13, fun h => by omega, fun _ h => (by rw [h] at hm; cases m <;> cases hm), fun _ m' x' h => ?_, fun h => ?_, fun h => ?_⟩
                    · rw [hm] at h
                      have := congrArg List.getLast? h
                      simp at this
                      rw [this]
                    · have hx : x = 13 := by simpa using h
                      subst hx
                      exact ⟨m, hm, by rw [h3, hm, chomp_snoc, if_pos rfl]⟩
                    · have hx : x ≠ 13 := by simpa using h
                      rw [h3, hm, chomp_snoc, if_neg hx]
              obtain ⟨q, q1, q2, q3, q4, q5⟩ := hret
              have Q1 := Lib.hid q1
              have Q2 := Lib.hid q2
              have Q3 := Lib.hid q3
              have Q4 := Lib.hid q4
              have Q5 := Lib.hid q5
              clear ht hL hU hcase hst hdr hut hdne q1 q2 q3 q4 q5
              have hUl := str_len U
              have hjt2 : t = l.length ∨ t < l.length := by omega
              have HJT := Lib.hid hjt2
              clear hjt2
              go_upto_region 13 with (fail)
              go_cut [58] (fun s58 wx => s58 = .bool q ∧ wr = wx)
              case first =>
                rcases HJT.out with h1 | h1
                · have hq := Q1.out h1
                  subst hq
                  have e2 : decide (t < l.length) = false := decide_eq_false (by omega)
                  clear h1
                  go_wp2
                  go_meet
                  exact ⟨rfl, rfl⟩
                · have e2 : decide (t < l.length) = true := decide_eq_true h1
                  rcases nil_or_snoc U with hu | ⟨m, x, hm⟩
                  · have hq := Q2.out h1 hu
                    subst hq
                    have b3 : U.length = 0 := by rw [hu]; rfl
                    have b4 : decide ((0 : Int) < (U.length : Int)) = false := decide_eq_false (by omega)
                    have b5 : decide (0 < U.length) = false := decide_eq_false (by omega)
                    clear h1 hu b3
                    go_wp2
                    go_meet
                    exact ⟨rfl, rfl⟩
                  · have hq := Q3.out h1 m x hm
                    have hlm : U.length = m.length + 1 := by rw [hm]; simp
                    have hlt : m.length < U.length := by omega
                    have hx2 : (⟨U.toArray⟩ : ByteArray)[m.length]'(by show m.length < U.toArray.size; simpa using hlt) = x := by
                      subst hm
                      rw [str_get _ _ (by simp)]
                      simp
                    have hml : m.length ≤ 100000 := by omega
                    have b1 : IntKind.i64.wrap ((U.length : Int) - 1) = (m.length : Int) := by rw [IntKind.wrap_i64]; omega
                    have b2 : ((U.length : Int) - 1) = (m.length : Int) := by omega
                    have b3 : decide (0 < U.length) = true := decide_eq_true (by omega)
                    have b4 : decide ((0 : Int) < (U.length : Int)) = true := decide_eq_true (by omega)
                    have b5 : (0 : Int) ≤ (m.length : Int) := by omega
                    have b6 : ((x.toNat : Int) == 13) = q := by
                      rw [hq, Bool.eq_iff_iff]
                      simp only [beq_iff_eq]
                      exact ⟨fun h => UInt8.toNat.inj (by show x.toNat = 13; omega), fun h => by rw [h]; rfl⟩
                    have HM := Lib.hid hm
                    have HQ := Lib.hid hq
                    clear hm hq hlm h1
                    go_wp2
                    go_meet
                    exact ⟨rfl, rfl⟩
              case rest =>
                obtain ⟨rfl, rfl⟩ := hcut
                go_upto_if 58 with (fail)
                go_cut [11] (fun s11 wx => s11 = str L ∧ wr = wx)
                case first =>
                  cases q with
                  | false =>
                    have hLU := Q5.out rfl
                    have HLU := Lib.hid hLU
                    clear hLU
                    go_wp2
                    go_meet
                    exact ⟨by rw [HLU.out], rfl⟩
                  | true =>
                    obtain ⟨m, hm, hLm⟩ := Q4.out rfl
                    have hlm : U.length = m.length + 1 := by rw [hm]; simp
                    have hr := str_cut U 0 m.length
                    rw [show (U.drop 0).take (m.length - 0) = m by rw [hm]; simp] at hr
                    have hml : m.length ≤ 100000 := by omega
                    have b1 : IntKind.i64.wrap ((U.length : Int) - 1) = (m.length : Int) := by rw [IntKind.wrap_i64]; omega
                    have b2 : ((U.length : Int) - 1) = (m.length : Int) := by omega
                    have b5 : (0 : Int) ≤ (m.length : Int) := by omega
                    have b7 : (m.length : Int) ≤ (U.length : Int) := by omega
                    have HM := Lib.hid hm
                    have HLM := Lib.hid hLm
                    clear hm hLm hlm
                    go_wp2
                    go_meet
                    exact ⟨by rw [HLM.out], rfl⟩
                case rest =>
                  obtain ⟨rfl, rfl⟩ := hcut
                  have hLl : L.length ≤ 100000 := by omega
                  have h15 : Calls Tryd.prog 11 #[str L, .int .u8 13] wr fun e w' => e = .returned (.bool (L.contains 13)) ∧ w' = wr := hasByte9_any L 13 wr (by omega)
                  go_wp2_with (fail)
                  refine h15.mono ?_
                  rintro e wr ⟨rfl, rfl⟩
                  clear h15
                  generalize L.contains 13 = k13 at *
                  obtain ⟨va, hcW, hcO⟩ := HAT.out.M.H.F
                  have fz := hcW.frozen 0
                  have dc : wr.cell? ⟨w.heap.size, 0, none⟩ = some va := hcW.cell 0
                  have hHC := Lib.hid hcW
                  clear hcW hcO
                  cases k13 with
                  | true =>
                    have hno := HST.out.1 rfl
                    have hh : h9 l = ⟨[], 0, false, false⟩ := by unfold h9; rw [if_neg (by rw [HSP.out]; decide), hno]
                    have HH := Lib.hid hh
                    clear hno hh
                    go_wp2
                    refine bodyPost_ret (results_cell_tmp3 rfl _ _ w.heap.size _ rfl (load_f9s _ _ _ ((hHC.out.set 0 _).cell 0))) rfl ?_
                    rw [HH.out]
                    refine ⟨_, rfl, World.ownsRow_nil _ _ _ _, ((HAT.out.M.K.setCell (.inr (Nat.le_refl _)) _).down (Nat.le_refl _)).mono (fun _ _ h => (by cases h)), by simp⟩
                  | false =>
                    clear dc fz
                    have hmin : min ((t : Int) + 1) (l.length : Int) = (j' : Int) := by rcases HC.out with ⟨h1, h2, _⟩ | ⟨h1, h2, _⟩ <;> omega
                    have b1 : IntKind.i64.wrap ((t : Int) + 1) = (t : Int) + 1 := by rw [IntKind.wrap_i64]; omega
                    cases L with
                    | nil =>
                      have hs2 := HST.out.2.1 rfl rfl
                      have HS2 := Lib.hid hs2
                      clear hs2
                      go_wp2
                      go_meet
                      exact ⟨j', s, rfl, hj', HAT.out.M, HS2.out⟩
                    | cons y L0 =>
                      have hs3 := HST.out.2.2 rfl (by simp)
                      rw [add9_eq s y L0] at hs3
                      generalize hs' : (if sp y = true then s else put9 s) = s' at *
                      have HS' := Lib.hid hs'
                      have HS3 := Lib.hid hs3
                      have hx0 := str_get (y :: L0) 0 (by simp)
                      simp only [List.getElem_cons_zero] at hx0
                      clear hs3 hs'
                      go_wp2_with (fail)
                      refine (isBlank9_any y _).mono ?_
                      rintro e wr ⟨rfl, rfl⟩
                      have hcl := put9_cnt s
                      go_upto_if 75 with (fail)
                      go_cut [] (fun wx => Mem9 l.length w wx w.heap.size s')
                      case first =>
                        cases hsy : sp y with
                        | true =>
                          have HSY := Lib.hid hsy
                          go_wp2
                          go_meet
                          rw [← HS'.out, if_pos HSY.out]
                          exact HAT.out.M
                        | false =>
                          have HSY := Lib.hid hsy
                          have hm1 := HAT.out.M.cnt
                          have hm2 := HAT.out.M.len
                          go_wp2_with (fail)
                          refine (put_any (w.heap.size + 1 + 1 + 1) (w.heap.size + 1) (w.heap.size + 1 + 1) w.heap.size s wr HAT.out.M.H HAT.out.M.hsz (by omega) (by omega) (by omega) (by omega) (by omega) (by omega)).mono ?_
                          rintro e wx ⟨rfl, hH, hK⟩
                          have HHX := Lib.hid hH
                          clear hH
                          go_wp2
                          go_meet
                          rw [← HS'.out, if_neg (by rw [HSY.out]; decide)]
                          exact ⟨HHX.out, HAT.out.M.K.trans hK (fun x _ h => .inr (by rcases h with h | h; simp at h; omega; omega)), by have := hK.size; have := HAT.out.M.hsz; omega, by omega, by omega⟩
                      case rest =>
                        have HM := Lib.hid hcut
                        obtain ⟨⟨_, _, _, ⟨vl, hL, hLo⟩, hB, ⟨vf, hF, hFo⟩⟩, hK, hsz, hcn, hle⟩ := hcut
                        obtain ⟨la, lcap, rfl⟩ := ownsRow_shape hLo
                        have cL : wc.cell? ⟨w.heap.size + 1, 0, none⟩ = some (.slice la s'.ls.length lcap) := hL.cell 0
                        obtain ⟨i0, hi, hz0, hz1, hz2⟩ := info_parts info_str
                        have hc1 : ∀ i u, [str (y :: L0)][i]? = some u → (wc.alloc (.cells #[str (y :: L0)] 9)).cell? ((⟨wc.heap.size, 0, none⟩ : Addr).add i) = some u := fun i u hi => by
                          have hb := Blk.new wc [str (y :: L0)] 9
                          rw [addr_at]
                          exact (hb.cell i).trans hi
                        have hc2 : ∀ u ∈ [str (y :: L0)], u.oneCell' = true := fun u hu => by
                          simp at hu
                          subst hu
                          rfl
                        have hfin : ∀ (W : World) (v' : Value), (wc.alloc (.cells #[str (y :: L0)] 9)).grownBy W (Value.slice la s'.ls.length lcap).ownBlock → W.ownsRow (w.heap.size + 1 + 1 + 1) 9 1 v' (s'.ls.length + 1) (s'.ls.map str ++ [str (y :: L0)]) →
                            Blk W (w.heap.size + 1) [.slice la s'.ls.length lcap] 26 ∧ At9 l w (W.setCell ⟨w.heap.size + 1, 0, none⟩ v') w.heap.size (l.drop j') ⟨s'.ls ++ [y :: L0], s'.bad, s'.fs⟩ := fun W v' hgr hrow => by
                          have hlo : ∀ k, (Value.slice la s'.ls.length lcap).ownBlock = some k → w.heap.size + 1 + 1 + 1 ≤ k := fun k hk => (hLo.lt k hk).1
                          have hold : ∀ k, k < w.heap.size + 1 + 1 + 1 → W.heap[k]? = wc.heap[k]? := fun k hk => (hgr.block k (by simp; omega) (fun h => by have := hlo k h.symm; omega)).trans (Below.heap_alloc wc _ k (by omega))
                          have haW : Blk W (w.heap.size + 1) [.slice la s'.ls.length lcap] 26 := (hold _ (by omega)).trans hL
                          have hbW : Blk W (w.heap.size + 1 + 1) [.bool s'.bad] 4 := (hold _ (by omega)).trans hB
                          have hcW : Blk W w.heap.size [vf] 37 := (hold _ (by omega)).trans hF
                          have hfW : W.ownsRow (w.heap.size + 1 + 1 + 1) 60 4 vf s'.fs.length (f9s s'.fs) := (hFo.alloc _).kept hgr (ownsRow_apart hFo hLo (by decide))
                          have hbelow : ∀ (v0 : Value) (e sz n : Nat) (xs : List Value), W.ownsRow (w.heap.size + 1 + 1 + 1) e sz v0 n xs → (W.setCell ⟨w.heap.size + 1, 0, none⟩ v').ownsRow (w.heap.size + 1 + 1 + 1) e sz v0 n xs := fun v0 e sz n xs h => ownsRow_keep h (Keeps.cell_one W ⟨w.heap.size + 1, 0, none⟩ v') (fun q hq hin => by
                            have := (h.lt q hq).1
                            simp [In] at hin
                            omega)
                          refine ⟨haW, ⟨⟨⟨by omega, by omega, by omega, ⟨v', (haW.set 0 v').to rfl, ?_⟩, hbW.set_other (p := ⟨w.heap.size + 1, 0, none⟩) (by simp) _, ⟨vf, hcW.set_other (p := ⟨w.heap.size + 1, 0, none⟩) (by simp) _, hbelow _ _ _ _ _ hfW⟩⟩, ?_, ?_, ?_, ?_⟩, HS3.out.1, HS3.out.2.1, HS3.out.2.2⟩⟩
                          · have h2 := hbelow _ _ _ _ _ hrow
                            simpa using h2
                          · exact ((hK.alloc _).grown hgr (fun k hk => .inl (.inr (by have := hlo k hk; omega)))).setCell (.inl (.inr (by simp))) _
                          · have := hgr.size
                            simp at this ⊢
                            omega
                          · show (s'.ls ++ [y :: L0]).length + s'.fs.length ≤ l.length
                            have : (s'.ls ++ [y :: L0]).length + s'.fs.length + (l.drop j').length ≤ l.length := HS3.out.2.1
                            omega
                          · show (raws (s'.ls ++ [y :: L0])).length ≤ 3 * l.length
                            have : (raws (s'.ls ++ [y :: L0])).length + 3 * (l.drop j').length ≤ 3 * l.length := HS3.out.2.2
                            omega
                        have hln := hcn
                        have HC1 := Lib.hid hc1
                        have HC2 := Lib.hid hc2
                        have HFIN := Lib.hid hfin
                        have HLO := Lib.hid hLo
                        clear hc1 hc2 hfin hLo hL hB hF hFo
                        go_wp2_with (at_builtin; refine wpList_append_own _ rfl (.tmp 78) (.tmp 80) 26 rfl (w.heap.size + 1 + 1 + 1) 9 i0 (.string ⟨#[]⟩) 1 16 Tryd.underlying26 hi hz0 hz1 hz2 rfl (by decide) _ s'.ls.length (s'.ls.map str) rfl (HLO.out.alloc _) ⟨wc.heap.size, 0, none⟩ 1 1 [str (y :: L0)] rfl rfl HC1.out HC2.out (by unfold maxLen; omega) (by omega) (by simp; omega) ?_; intro v' W hrow' hgr _; have hf := HFIN.out _ _ hgr hrow'; have fW := hf.1.frozen 0; have dW : W.cell? ⟨w.heap.size + 1, 0, none⟩ = some (.slice la s'.ls.length lcap) := hf.1.cell 0; have HF2 := Lib.hid hf; obtain ⟨va2, vc2, rfl⟩ := ownsRow_shape hrow'; clear hf hrow' hgr)
                        go_roundg (l.length - j')
                        case measure =>
                          have h1 := HJN.out
                          rcases HC.out with ⟨h2, h3, _⟩ | ⟨h2, h3, _⟩ <;> omega
                        case rel =>
                          exact ⟨j', _, rfl, by omega, HF2.out.2⟩
          · have hjl2 : j = l.length := by omega
            have e1 : decide (j < l.length) = false := decide_eq_false hj
            have hsc := HAT.out.scan
            rw [hjl2, List.drop_length, scan9_nil] at hsc
            have HSC := Lib.hid hsc
            have HJ2 := Lib.hid hjl2
            clear hsc hjl2
            go_wp2
            go_meet
            exact ⟨j, s, rfl, hjl, HAT.out.M, by rw [HSC.out, HJ2.out, List.drop_length]⟩
      case rest =>
        obtain ⟨j, s, rfl, hjl, hM, hscan⟩ := hcut
        have hh : h9 l = ⟨(put9 s).fs, l.length - (l.drop j).length, !(put9 s).bad, true⟩ := by unfold h9; rw [if_neg (by rw [HSP.out]; decide), hscan]
        rw [show l.length - (l.drop j).length = j by simp; omega] at hh
        have HH := Lib.hid hh
        have hm1 := hM.cnt
        have hm2 := hM.len
        have hm3 := put9_cnt s
        have HM := Lib.hid hM
        clear hscan hh hM
        go_wp2_with (fail)
        refine (put_any (w.heap.size + 1 + 1 + 1) (w.heap.size + 1) (w.heap.size + 1 + 1) w.heap.size s _ HM.out.H HM.out.hsz (by omega) (by omega) (by omega) (by omega) (by omega) (by omega)).mono ?_
        rintro e wx ⟨rfl, hH, hK⟩
        obtain ⟨_, _, _, hLx, hBx, ⟨vf, hFx, hFo⟩⟩ := hH
        obtain ⟨fa, fcap, rfl⟩ := ownsRow_shape hFo
        have fz := hFx.frozen 0
        have dc : wx.cell? ⟨w.heap.size, 0, none⟩ = some (.slice fa (put9 s).fs.length fcap) := hFx.cell 0
        have db : wx.cell? ⟨w.heap.size + 1 + 1, 0, none⟩ = some (.bool (put9 s).bad) := hBx.cell 0
        have HFX := Lib.hid hFx
        have HFO := Lib.hid hFo
        have HBX := Lib.hid hBx
        have KX := HM.out.K.trans hK (fun x _ h => .inr (by rcases h with h | h; simp at h; omega; omega))
        clear hFx hFo hLx hBx
        generalize (put9 s).bad = bd at *
        generalize (put9 s).fs = gs at *
        go_upto_region 23 with (fail)
        refine region_segs [([0, 1, 2, 3], 4)] [5] 6 (fun W => W.cell? ⟨w.heap.size, 0, none⟩ = some (.slice fa gs.length fcap) ∧ W.cell? ⟨w.heap.size + 1 + 1, 0, none⟩ = some (.bool bd)) (by kernel_rfl) (by kernel_rfl) ?_ ?_
        · exact ⟨dc, db⟩
        simp only [segPick, List.map_cons, List.map_nil, pick, List.filterMap_cons, List.filterMap_nil, List.getElem?_cons_succ, List.getElem?_cons_zero, List.drop_succ_cons, List.drop_zero]
        rw [wpSegs]
        intro ι F hne hF
        have c1 := fun j => (hF j).1
        have c2 := fun j => (hF j).2
        clear hF
        repeat (quiet_step (fail))
        refine wpQuiet_nil ?_
        clear c1 c2 hne F ι
        go_wp2
        have hB7 : Blk (wx.drew.setCell ⟨w.heap.size, 0, none⟩ (.slice fa gs.length fcap)) (w.heap.size + 1 + 1) [.bool bd] 4 := (HBX.out.drew).set_other (p := ⟨w.heap.size, 0, none⟩) (by simp; omega) _
        have hF7 : Blk (wx.drew.setCell ⟨w.heap.size, 0, none⟩ (.slice fa gs.length fcap)) w.heap.size [.slice fa gs.length fcap] 37 := (HFX.out.drew.set 0 _).to rfl
        have hO7 : (wx.drew.setCell ⟨w.heap.size, 0, none⟩ (.slice fa gs.length fcap)).ownsRow (w.heap.size + 1 + 1 + 1) 60 4 (.slice fa gs.length fcap) gs.length (f9s gs) := ownsRow_keep HFO.out ((Keeps.refl (In [w.heap.size]) wx).drew.setCell (.inl (by simp [In])) _) (fun q hq hin => by
          have := (HFO.out.lt q hq).1
          simp [In] at hin
          omega)
        have HF7 := Lib.hid hF7
        have HO7 := Lib.hid hO7
        refine EffPost.intro ⟨hF7.cell 0, hB7.cell 0⟩ ?_
        clear hF7 hB7 hO7
        rw [wpSegs]
        intro ι F hne hF
        clear hF
        repeat (quiet_step (fail))
        refine wpQuiet_nil ?_
        clear hne F ι
        go_wp2
        refine bodyPost_ret (results_cell_tmp3 rfl _ _ w.heap.size _ rfl (load_f9s _ _ _ (HF7.out.cell 0))) rfl ?_
        rw [HH.out]
        exact ⟨_, rfl, ownsRow_mono HO7.out (by omega), ((KX.drew.setCell (.inr (Nat.le_refl _)) _).down (Nat.le_refl _)).mono (fun _ _ h => (by cases h)), by show gs.length ≤ 100000; omega⟩
end Go.Proofs.YtjbbapodcngnaaaDoor
