/- Names of boundaries. The fields of a message, appended to. The fields of a message: spec.Fields. Names and texts as the specification scans them. No program in sight. Parts that have been written, or told, so far. No program in sight. A message in memory, cell by cell. A header's text: spec.HeaderText7, of all fields. A message's text: spec.MailText and spec.ContentOf, one message of its parts. What stands behind a header: spec.ContentOf, one message of its parts. A message's text: spec.MailText and spec.ContentOf, of any message. spec, messages: lines, token7, saying, contains, boundary. spec, messages: saying, contains, Small7. -/
import Derived.Test.YtjbbapodcngnaaaGreatDoorZtaa
import Derived.Maps.AppendAt
namespace Go.Proofs.YtjbbapodcngnaaaGreatDoor
open Go.RowKit Hdr

set_option maxRecDepth 100000 in
theorem bnd_any (p : List UInt8) (w : World) (hl : p.length ≤ 1000000) :
    Calls Tryz.prog 39 #[str p] w fun e w' => e = .returned (str (bnd p)) ∧ w' = w := by
  have ha := str_app [98] p
  have hn : ¬ (9223372036854775807 < 1 + p.length) := by omega
  unfold str
  go_enter Tryz.func39, Tryz.ntmps39
  go_wp2
  go_ret
  exact ⟨rfl, rfl⟩

set_option maxRecDepth 100000 in
set_option maxHeartbeats 1000000 in
theorem under_any (p : List UInt8) (i : Nat) (w : World) (hi : i ≤ 1000000) (hl : p.length ≤ 1000000) :
    Calls Tryz.prog 38 #[str p, .int .i64 i] w fun e w' => e = .returned (str (under p i)) ∧ Keeps No w w' := by
  obtain ⟨x, hx⟩ : ∃ x : UInt8, x = 97 + UInt8.ofNat (i % 26) := ⟨_, rfl⟩
  have hlt : i % 26 < 26 := Nat.mod_lt _ (by decide)
  have hxn : x.toNat = 97 + i % 26 := by
    rw [hx, UInt8.toNat_add]
    have : (UInt8.ofNat (i % 26)).toNat = i % 26 := by simp; omega
    rw [this]
    simp
    omega
  have hun : under p i = p ++ [x] := by rw [hx]; rfl
  rw [hun]
  obtain ⟨r, hr⟩ : ∃ r : Nat, r = i % 26 := ⟨_, rfl⟩
  rw [← hr] at hxn hlt
  have h1 : (i : Int).tmod 26 = (r : Int) := by rw [Int.tmod_eq_emod_of_nonneg (by omega), hr]; omega
  have h1b : (i : Int) % 26 = (r : Int) := by rw [hr]; omega
  have h2 : IntKind.u8.wrap (r : Int) = (r : Int) := by unfold IntKind.wrap; simp [IntKind.bits, IntKind.signed]; omega
  have h2b : IntKind.i64.wrap (r : Int) = (r : Int) := IntWalk.i64_in _ (by omega)
  have h3 : (97 : Int) + (r : Int) = (x.toNat : Int) := by omega
  have h4 : IntKind.u8.wrap (x.toNat : Int) = (x.toNat : Int) := by unfold IntKind.wrap; simp [IntKind.bits, IntKind.signed]; have := x.toNat_lt; omega
  have h5 : IntKind.u8.wrap ((97 : Int) + (r : Int)) = (x.toNat : Int) := by rw [h3]; exact h4
  have hB := BytesAt.of_blk (Blk.new w [byt x] 5) (o := 0) (l := [x]) rfl
  have hcv := run_string_of _ w.heap.size 0 1 [x] 1 rfl hB
  have ha := str_app p [x]
  have hn : ¬ (9223372036854775807 < p.length + 1) := by omega
  have hI : ((i : Int) == 0) = false ∨ True := .inr trivial
  unfold byt at hcv
  unfold str
  clear hx hun hr hB hxn
  go_enter Tryz.func38, Tryz.ntmps38
  go_wp2
  go_ret
  exact ⟨rfl, (Keeps.refl No w).alloc _⟩
end Go.Proofs.YtjbbapodcngnaaaGreatDoor
namespace Go.Proofs.YtjbbapodcngnaaaGreatDoor
open Go.RowKit Hdr

theorem info_hd : (Tryz.prog.info? 127).map (fun i => (i.zero, i.size, i.bytes)) = some (some (.agg #[.string ⟨#[]⟩, .string ⟨#[]⟩]), 2, 32) := by kernel_rfl
def hdCs (l : List Hd) : List Value := l.flatMap hdC
theorem hdCs_len (l : List Hd) : (hdCs l).length = l.length * 2 := by
  unfold hdCs
  induction l with
  | nil => rfl
  | cons x l ih => rw [List.flatMap_cons, List.length_append, ih, List.length_cons]; simp [hdC]; omega
theorem hdCs_append (a b : List Hd) : hdCs (a ++ b) = hdCs a ++ hdCs b := by unfold hdCs; rw [List.flatMap_append]
theorem hdCs_one (l : List Hd) : ∀ u ∈ hdCs l, u.oneCell' = true := by
  intro u hu
  unfold hdCs at hu
  obtain ⟨x, _, hu⟩ := List.mem_flatMap.1 hu
  simp only [hdC, List.mem_cons, List.not_mem_nil, or_false] at hu
  rcases hu with rfl | rfl <;> rfl
theorem hdCs_get : ∀ (l : List Hd) (j : Nat) (u : Value), (hdCs l)[j]? = some u → ∃ (i k : Nat) (cs : List Value), j = i * 2 + k ∧ (l.map hdC)[i]? = some cs ∧ cs[k]? = some u
  | [], j, u, h => by simp [hdCs] at h
  | x :: l, j, u, h => by
    have e : hdCs (x :: l) = hdC x ++ hdCs l := rfl
    rw [e] at h
    by_cases hj : j < 2
    · rw [List.getElem?_append_left (by simpa [hdC] using hj)] at h
      exact ⟨0, j, hdC x, by omega, rfl, h⟩
    · rw [List.getElem?_append_right (by simp [hdC]; omega)] at h
      obtain ⟨i, k, cs, h1, h2, h3⟩ := hdCs_get l _ u h
      simp only [hdC, List.length_cons, List.length_nil] at h1
      exact ⟨i + 1, k, cs, by omega, by simpa using h2, h3⟩
/-- Fields in a slice of our own. -/
abbrev FldAt (w : World) (base : Nat) (v : Value) (l : List Hd) : Prop := w.ownsRow base 127 2 v l.length (hdCs l)

set_option maxRecDepth 100000 in
theorem wpList_append_hd {w : World} {ops : Array Oper} {rest : List Oper} {o : Oper} {a : Act} {Q : Exit → Act → World → Prop} (hgd : o.guard = none) (s x : Operand)
    (ho : o.op = .call { callee := .builtin .append, args := #[s, x], argTypes := #[39, 39] })
    (base : Nat) (vs vx : Value) (l l2 : List Hd) (hs : a.eval s = vs) (hown : FldAt w base vs l) (hx : a.eval x = vx) (hrow : RowsAt w 2 vx (l2.map hdC)) (hb : l.length + l2.length ≤ 1000000) (hbase : base ≤ w.heap.size)
    (h : ∀ v' W, FldAt W base v' (l ++ l2) → Keeps (fun k => vs.ownBlock = some k) w W → (∀ x, v'.ownBlock = some x → vs.ownBlock = some x ∨ w.heap.size ≤ x) → wpList Tryz.prog ops Q rest (a.put o.dst v') W) : wpList Tryz.prog ops Q (o :: rest) a w := by
  obtain ⟨i0, hi, hz0, hz1, hz2⟩ := info_parts info_hd
  obtain ⟨ad, cap, hv, hc, h0, hcs⟩ := hrow
  rw [List.length_map] at hv hc
  rw [hv] at hx
  cases ad with
  | none =>
    have hcap := h0 rfl
    have hl2 : l2 = [] := by
      rcases hcs with h | ⟨b, o, h, _⟩
      · simpa using h
      · cases h
    subst hl2
    subst hcap
    refine wpList_append_own_none (P := Tryz.prog) hgd s x 39 ho base 127 i0 2 Tryz.underlying39 hi vs l.length (hdCs l) hs hown hx ?_
    have := h vs w (by rw [List.append_nil]; exact hown) (Keeps.refl _ w) (fun x hx => .inl hx)
    exact this
  | some ad =>
    refine wpList_append_own_at (P := Tryz.prog) w hgd s x 39 ho base 127 i0 _ 2 32 Tryz.underlying39 hi hz0 hz1 hz2 rfl (by decide) vs l.length (hdCs l) hs hown ad l2.length cap (hdCs l2) hx (hdCs_len l2) (fun j u hj => ?_) (hdCs_one l2) (by unfold maxLen; omega) (by omega) hbase ?_
    · rcases hcs with h | ⟨b, o, he, _, hcell⟩
      · simp at h
        subst h
        simp [hdCs] at hj
      · injection he with he
        subst he
        obtain ⟨i, k, cs, rfl, h2, h3⟩ := hdCs_get l2 j u hj
        have := hcell i cs h2 k u h3
        have hadd : (⟨b, o, none⟩ : Addr).add (i * 2 + k) = ⟨b, o + (i * 2 + k), none⟩ := by unfold Addr.add; split <;> simp_all
        rw [hadd]
        exact this
    · intro v' W hr hgr _ hat
      refine h v' W ?_ ((Keeps.refl _ w).grown hgr (fun k hk => .inl hk)) (fun x hx => by
        rcases hat with hat | hat
        · exact .inl (hat ▸ hx)
        · rw [hat] at hx
          injection hx with hx
          exact .inr (Nat.le_of_eq hx))
      unfold FldAt
      rw [hdCs_append, List.length_append]
      exact hr
end Go.Proofs.YtjbbapodcngnaaaGreatDoor
namespace Go.Proofs.YtjbbapodcngnaaaGreatDoor
open Go.RowKit Hdr

def FlPost (l : List Hd) (w : World) (e : Ending) (w' : World) : Prop := ∃ v, e = .returned v ∧ FldAt w' w.heap.size v l ∧ Keeps No w w'
theorem fldV {w : World} {base : Nat} {v : Value} {l : List Hd} (h : FldAt w base v l) : ∃ a c, v = .slice a l.length c := by
  rcases h.2 with ⟨rfl, h0⟩ | ⟨g, cap, cur, rfl, _⟩
  · exact ⟨none, 0, by rw [h0]⟩
  · exact ⟨_, _, rfl⟩
theorem fld_none (w : World) (b base : Nat) (hb : b = w.heap.size) (hba : base ≤ b) : FldAt (w.alloc (.cells #[] 127)) base (.slice (some ⟨b, 0, none⟩) 0 0) [] := by
  subst hb
  exact ⟨rfl, .inr ⟨w.heap.size, 0, #[], rfl, hba, heap_alloc_new w _, Nat.le_refl _, by unfold maxLen; omega, rfl, rfl⟩⟩
def acc3 (id ab way : List UInt8) (i : Nat) : List Hd := ([saidOf ciK id, saidOf cdK ab, saidOf ceK way].take i).flatten
theorem acc3_1 (id ab way : List UInt8) : acc3 id ab way 1 = acc3 id ab way 0 ++ saidOf ciK id := by simp [acc3]
theorem acc3_2 (id ab way : List UInt8) : acc3 id ab way 2 = acc3 id ab way 1 ++ saidOf cdK ab := by simp [acc3]
theorem acc3_3 (id ab way : List UInt8) : acc3 id ab way 3 = acc3 id ab way 2 ++ saidOf ceK way := by simp [acc3]
theorem said_len (k v : List UInt8) : (saidOf k v).length ≤ 1 := by unfold saidOf; split <;> simp
theorem acc3_len (id ab way : List UInt8) (i : Nat) : (acc3 id ab way i).length ≤ 3 := by
  have h1 := said_len ciK id
  have h2 := said_len cdK ab
  have h3 := said_len ceK way
  unfold acc3
  match i with
  | 0 => simp
  | 1 => simp; omega
  | 2 => simp; omega
  | i + 3 => simp; omega
theorem rows_one (W : World) (x : Hd) : RowsAt (W.alloc (.cells (hdC x).toArray 127)) 2 (.slice (some ⟨W.heap.size, 0, none⟩) 1 1) ([x].map hdC) := by
  refine ⟨some ⟨W.heap.size, 0, none⟩, 1, rfl, Nat.le_refl _, fun h => (by cases h), .inr ⟨W.heap.size, 0, rfl, by simp, fun i cs hi j u hj => ?_⟩⟩
  match i with
  | 0 =>
    simp at hi
    subst hi
    have := (Blk.new W (hdC x) 127).cell j
    rw [hj] at this
    simpa using this
  | i + 1 => simp at hi
/-- A message's cells. -/
def mlCs (hv : Value) (kind : Int) (ty sub id ab way text : List UInt8) (kv : Value) : List Value := [hv, .int .i64 kind, str ty, str sub, str id, str ab, str way, str text, kv]

set_option maxRecDepth 100000 in
set_option maxHeartbeats 1000000 in
theorem specFields_any (head : List Hd) (kind : Int) (ty sub id ab way text p : List UInt8) (hv : Value) (ka : Option Addr) (kn kc : Nat) (w : World) (hh : RowsAt w 2 hv (head.map hdC)) (hl : head.length ≤ 8) (hp : p.length ≤ 100) (hs : sub.length ≤ 100) (ht : ty.length ≤ 100) (tf : List Hd) (htf : tf = if ty = [] then [] else if kind = 1 then [(ctK, mpS ++ sub ++ bdS ++ bnd p)] else [(ctK, ty ++ 47 :: sub)]) :
    Calls Tryz.prog 67 #[.agg #[hv, .int .i64 kind, str ty, str sub, str id, str ab, str way, str text, .slice ka kn kc], str p] w (FlPost (head ++ tf ++ (saidOf ciK id ++ saidOf cdK ab ++ saidOf ceK way)) w) := by
  have htl : tf.length ≤ 1 := by rw [htf]; split; simp; split <;> simp
  have HTL := Lib.hid htl
  have HTF := Lib.hid htf
  clear htf htl
  have hh2 := hh
  obtain ⟨ha, hcap, rfl, -⟩ := hh2
  rw [List.length_map] at hh ⊢
  have hA : Blk (w.alloc (.cells #[.slice ha head.length hcap, .int .i64 kind, str ty, str sub, str id, str ab, str way, str text, .slice ka kn kc] 42)) w.heap.size (mlCs (.slice ha head.length hcap) kind ty sub id ab way text (.slice ka kn kc)) 42 := Blk.new w _ _
  have KA : Keeps No w (w.alloc (.cells #[.slice ha head.length hcap, .int .i64 kind, str ty, str sub, str id, str ab, str way, str text, .slice ka kn kc] 42)) := (Keeps.refl No w).alloc _
  have hsA : (w.alloc (.cells #[.slice ha head.length hcap, .int .i64 kind, str ty, str sub, str id, str ab, str way, str text, .slice ka kn kc] 42)).heap.size = w.heap.size + 1 := by simp
  go_enter Tryz.func67, Tryz.ntmps67
  go_upto_region 1 with (fail)
  generalize (w.alloc (.cells #[.slice ha head.length hcap, .int .i64 kind, str ty, str sub, str id, str ab, str way, str text, .slice ka kn kc] 42)) = wA at *
  have HOWN := Lib.hid (fld_none wA wA.heap.size wA.heap.size rfl (Nat.le_refl _))
  have HH := Lib.hid (hh.keep (KA.alloc (.cells #[] 127)))
  have c0 : (wA.alloc (.cells #[] 127)).cell? ⟨w.heap.size, 0, none⟩ = some (.slice ha head.length hcap) := (hA.alloc _).cell 0
  have HBB := Lib.hid (show wA.heap.size ≤ (wA.alloc (.cells #[] 127)).heap.size by simp)
  have HA := Lib.hid hA
  have HKA := Lib.hid KA
  have HSA := Lib.hid hsA
  clear hh hA KA hsA
  go_upto_block 0 with (at_builtin; refine wpList_append_hd rfl (.tmp 8) (.tmp 10) rfl wA.heap.size _ _ [] head rfl HOWN.out rfl HH.out (by simp; omega) HBB.out ?_; intro v' W hv K hvo)
  rw [List.nil_append] at hv
  have HB1 := Lib.hid (((HA.out.alloc (.cells #[] 127)).keep K (fun h => by have h' : some wA.heap.size = some w.heap.size := h; injection h' with h'; have := HSA.out; omega)))
  have HK1 := Lib.hid (show Keeps No w W from (HKA.out.alloc (.cells #[] 127)).trans K (fun i hi h => by have h' : some wA.heap.size = some i := h; injection h' with h'; have := HSA.out; omega))
  obtain ⟨va, vc, rfl⟩ := fldV hv
  have HV := Lib.hid hv
  have hWs : wA.heap.size ≤ W.heap.size := by have := K.size; simp at this; omega
  clear hv K c0
  have c2 : W.cell? ⟨w.heap.size, 2, none⟩ = some (str ty) := HB1.out.cell 2
  have c3 : W.cell? ⟨w.heap.size, 3, none⟩ = some (str sub) := HB1.out.cell 3
  have c1 : W.cell? ⟨w.heap.size, 1, none⟩ = some (.int .i64 kind) := HB1.out.cell 1
  go_cut [5] (fun s5 wx => FldAt wx wA.heap.size s5 (head ++ tf) ∧ Blk wx w.heap.size (mlCs (.slice ha head.length hcap) kind ty sub id ab way text (.slice ka kn kc)) 42 ∧ Keeps No w wx)
  case first =>
    by_cases h0 : ty = []
    · have he : (ty == []) = true := by rw [h0]; rfl
      have hf : tf = [] := by rw [HTF.out, if_pos h0]
      have HF := Lib.hid hf
      clear h0 hf
      go_wp2
      go_meet
      case rel => exact ⟨by rw [HF.out, List.append_nil]; exact HV.out, HB1.out, HK1.out⟩
    · have he : (ty == []) = false := beq_eq_false_iff_ne.2 h0
      by_cases hk : kind = 1
      · have hk1 : (kind == 1) = true := by rw [hk]; rfl
        have hf : tf = [(ctK, mpS ++ sub ++ bdS ++ bnd p)] := by rw [HTF.out, if_neg h0, if_pos hk]
        have HF := Lib.hid hf
        obtain ⟨s1, hs1⟩ : ∃ s1, s1 = mpS ++ sub := ⟨_, rfl⟩
        obtain ⟨s2, hs2⟩ : ∃ s2, s2 = s1 ++ bdS := ⟨_, rfl⟩
        obtain ⟨s3, hs3⟩ : ∃ s3, s3 = s2 ++ bnd p := ⟨_, rfl⟩
        have ha1 : (⟨#[109, 117, 108, 116, 105, 112, 97, 114, 116, 47]⟩ : ByteArray) ++ ⟨sub.toArray⟩ = ⟨s1.toArray⟩ := by rw [hs1]; exact str_app mpS sub
        have ha2 : (⟨s1.toArray⟩ : ByteArray) ++ ⟨#[59, 32, 98, 111, 117, 110, 100, 97, 114, 121, 61]⟩ = ⟨s2.toArray⟩ := by rw [hs2]; exact str_app s1 bdS
        have ha3 : (⟨s2.toArray⟩ : ByteArray) ++ ⟨(bnd p).toArray⟩ = ⟨s3.toArray⟩ := by rw [hs3]; exact str_app s2 (bnd p)
        have l1 : s1.length = sub.length + 10 := by rw [hs1, List.length_append]; have : mpS.length = 10 := rfl; omega
        have l2 : s2.length = sub.length + 21 := by rw [hs2, List.length_append, l1]; simp [bdS]
        have l3 : (bnd p).length = p.length + 1 := rfl
        have hl1 : ¬ (9223372036854775807 < 10 + sub.length) := by omega
        have hl2 : ¬ (9223372036854775807 < s1.length + 11) := by omega
        have hl3 : ¬ (9223372036854775807 < s2.length + (bnd p).length) := by omega
        have hf2 : tf = [(ctK, s3)] := by rw [hf, hs3, hs2, hs1]
        have HF2 := Lib.hid hf2
        clear hs1 hs2 hs3 l1 l2 l3 hf2
        clear h0 hk hf
        go_upto_region 5 with (fail)
        refine region_segs [([0, 1, 2, 3, 4, 5], 6), ([7, 8], 9)] [] 10 (fun W' => Keeps No W W') (by kernel_rfl) (by kernel_rfl) ?_ ?_
        · exact (Keeps.refl No W).drew
        simp only [segPick, List.map_cons, List.map_nil, pick, List.filterMap_cons, List.filterMap_nil, List.getElem?_cons_succ, List.getElem?_cons_zero, List.drop_succ_cons, List.drop_zero]
        rw [wpSegs]
        intro ι F hne hF
        have c3F := fun i => (HB1.out.keep_no (hF i)).cell 3
        simp only [mlCs, List.getElem?_cons_succ, List.getElem?_cons_zero] at c3F
        clear hF
        repeat (quiet_step (fail))
        refine wpQuiet_nil ?_
        clear c3F hne F ι
        have KD : Keeps No W W.drew := (Keeps.refl No W).drew
        have HVd := Lib.hid (show FldAt W.drew wA.heap.size (.slice va head.length vc) head from HV.out)
        have hWd : W.drew.heap.size = W.heap.size := rfl
        generalize W.drew = wd at *
        have HWD := Lib.hid hWd
        clear hWd
        go_wp2_with (fail)
        refine (bnd_any p wd (by omega)).mono ?_
        rintro e w2 ⟨rfl, rfl⟩
        go_wp2
        refine EffPost.intro KD ?_
        rw [wpSegs]
        intro ι F hne hF
        clear hF
        repeat (quiet_step (fail))
        refine wpQuiet_nil ?_
        clear hne F ι
        go_wp2
        refine EffPost.intro (KD.alloc _) ?_
        rw [wpSegs]
        intro ι F hne hF
        clear hF
        refine wpQuiet_nil ?_
        clear hne F ι
        have HR := Lib.hid (show RowsAt (w2.alloc (.cells #[.string ⟨#[67, 111, 110, 116, 101, 110, 116, 45, 84, 121, 112, 101]⟩, str s3] 127)) 2 (.slice (some ⟨w2.heap.size, 0, none⟩) 1 1) ([(ctK, s3)].map hdC) from rows_one w2 (ctK, s3))
        have HV2 := Lib.hid (show FldAt (w2.alloc (.cells #[.string ⟨#[67, 111, 110, 116, 101, 110, 116, 45, 84, 121, 112, 101]⟩, str s3] 127)) wA.heap.size (.slice va head.length vc) head from World.ownsRow.alloc HVd.out _)
        have HBB2 := Lib.hid (show wA.heap.size ≤ (w2.alloc (.cells #[.string ⟨#[67, 111, 110, 116, 101, 110, 116, 45, 84, 121, 112, 101]⟩, str s3] 127)).heap.size by have := HWD.out; simp; omega)
        go_wp2_with (at_builtin; refine wpList_append_hd rfl (.tmp 30) (.tmp 39) rfl wA.heap.size _ _ head [(ctK, s3)] rfl HV2.out rfl HR.out (by simp; omega) HBB2.out ?_; intro v2 W2 hv2 K2 hvo2)
        obtain ⟨vb, vd, rfl⟩ := fldV hv2
        have HV3 := Lib.hid hv2
        clear hv2
        go_wp2
        go_meet
        case rel =>
          have hown : ∀ x, (Value.slice va head.length vc).ownBlock = some x → wA.heap.size ≤ x := fun x hx => (World.ownsRow.lt HV.out x hx).1
          exact ⟨by rw [HF2.out]; exact HV3.out, ((HB1.out.keep_no KD).alloc _).keep K2 (fun h => by have := hown _ h; have := HSA.out; omega), ((HK1.out.trans_no KD).alloc _).trans K2 (fun i hi h => by have := hown _ h; have := HSA.out; omega)⟩
      · have hk1 : (kind == 1) = false := beq_eq_false_iff_ne.2 hk
        have hf : tf = [(ctK, ty ++ 47 :: sub)] := by rw [HTF.out, if_neg h0, if_neg hk]
        have HF := Lib.hid hf
        have ha1 := str_app ty [47]
        have ha2 := str_app (ty ++ [47]) sub
        have hl1 : ¬ (9223372036854775807 < ty.length + 1) := by omega
        have hl2 : ¬ (9223372036854775807 < (ty ++ [47]).length + sub.length) := by simp; omega
        have HR := Lib.hid (show RowsAt (W.alloc (.cells #[.string ⟨#[67, 111, 110, 116, 101, 110, 116, 45, 84, 121, 112, 101]⟩, str (ty ++ 47 :: sub)] 127)) 2 (.slice (some ⟨W.heap.size, 0, none⟩) 1 1) ([(ctK, ty ++ 47 :: sub)].map hdC) from rows_one W (ctK, ty ++ 47 :: sub))
        have HV2 := Lib.hid (show FldAt (W.alloc (.cells #[.string ⟨#[67, 111, 110, 116, 101, 110, 116, 45, 84, 121, 112, 101]⟩, str (ty ++ 47 :: sub)] 127)) wA.heap.size (.slice va head.length vc) head from World.ownsRow.alloc HV.out _)
        have HBB2 := Lib.hid (show wA.heap.size ≤ (W.alloc (.cells #[.string ⟨#[67, 111, 110, 116, 101, 110, 116, 45, 84, 121, 112, 101]⟩, str (ty ++ 47 :: sub)] 127)).heap.size by simp; omega)
        clear h0 hk hf
        go_wp2_with (at_builtin; refine wpList_append_hd rfl (.tmp 12) (.tmp 20) rfl wA.heap.size _ _ head [(ctK, ty ++ 47 :: sub)] rfl HV2.out rfl HR.out (by simp; omega) HBB2.out ?_; intro v2 W2 hv2 K2 hvo2)
        obtain ⟨vb, vd, rfl⟩ := fldV hv2
        have HV3 := Lib.hid hv2
        clear hv2
        go_wp2
        go_meet
        case rel =>
          have hown : ∀ x, (Value.slice va head.length vc).ownBlock = some x → wA.heap.size ≤ x := fun x hx => (World.ownsRow.lt HV.out x hx).1
          exact ⟨by rw [HF.out]; exact HV3.out, (HB1.out.alloc _).keep K2 (fun h => by have := hown _ h; have := HSA.out; omega), (HK1.out.alloc _).trans K2 (fun i hi h => by have := hown _ h; have := HSA.out; omega)⟩
  case rest =>
    obtain ⟨hv5, hB5, hK5⟩ := hcut
    obtain ⟨xa, xc, rfl⟩ := fldV hv5
    have HV5 := Lib.hid hv5
    have HB5 := Lib.hid hB5
    have HK5 := Lib.hid hK5
    have d4 : wc.cell? ⟨w.heap.size, 4, none⟩ = some (str id) := hB5.cell 4
    have d5 : wc.cell? ⟨w.heap.size, 5, none⟩ = some (str ab) := hB5.cell 5
    have d6 : wc.cell? ⟨w.heap.size, 6, none⟩ = some (str way) := hB5.cell 6
    clear hv5 hB5 hK5 c1 c2 c3
    have hB6 := Blk.new wc [.string ⟨#[67, 111, 110, 116, 101, 110, 116, 45, 73, 100]⟩, str id, .string ⟨#[67, 111, 110, 116, 101, 110, 116, 45, 68, 101, 115, 99, 114, 105, 112, 116, 105, 111, 110]⟩, str ab, .string ⟨#[67, 111, 110, 116, 101, 110, 116, 45, 84, 114, 97, 110, 115, 102, 101, 114, 45, 69, 110, 99, 111, 100, 105, 110, 103]⟩, str way] 127
    have K6 : Keeps No wc (wc.alloc (.cells #[.string ⟨#[67, 111, 110, 116, 101, 110, 116, 45, 73, 100]⟩, str id, .string ⟨#[67, 111, 110, 116, 101, 110, 116, 45, 68, 101, 115, 99, 114, 105, 112, 116, 105, 111, 110]⟩, str ab, .string ⟨#[67, 111, 110, 116, 101, 110, 116, 45, 84, 114, 97, 110, 115, 102, 101, 114, 45, 69, 110, 99, 111, 100, 105, 110, 103]⟩, str way] 127)) := (Keeps.refl No wc).alloc _
    have HV6 := Lib.hid (show FldAt (wc.alloc (.cells #[.string ⟨#[67, 111, 110, 116, 101, 110, 116, 45, 73, 100]⟩, str id, .string ⟨#[67, 111, 110, 116, 101, 110, 116, 45, 68, 101, 115, 99, 114, 105, 112, 116, 105, 111, 110]⟩, str ab, .string ⟨#[67, 111, 110, 116, 101, 110, 116, 45, 84, 114, 97, 110, 115, 102, 101, 114, 45, 69, 110, 99, 111, 100, 105, 110, 103]⟩, str way] 127)) wA.heap.size (.slice xa (head ++ tf).length xc) (head ++ tf) from World.ownsRow.alloc HV5.out _)
    have hb6 : wc.heap.size < (wc.alloc (.cells #[.string ⟨#[67, 111, 110, 116, 101, 110, 116, 45, 73, 100]⟩, str id, .string ⟨#[67, 111, 110, 116, 101, 110, 116, 45, 68, 101, 115, 99, 114, 105, 112, 116, 105, 111, 110]⟩, str ab, .string ⟨#[67, 111, 110, 116, 101, 110, 116, 45, 84, 114, 97, 110, 115, 102, 101, 114, 45, 69, 110, 99, 111, 100, 105, 110, 103]⟩, str way] 127)).heap.size := by simp
    have hwc : wA.heap.size ≤ wc.heap.size := by have := HK5.out.size; have := HSA.out; have := HB5.out.lt; omega
    have HK6 := Lib.hid (HK5.out.trans_no K6)
    go_wp2
    generalize (wc.alloc (.cells #[.string ⟨#[67, 111, 110, 116, 101, 110, 116, 45, 73, 100]⟩, str id, .string ⟨#[67, 111, 110, 116, 101, 110, 116, 45, 68, 101, 115, 99, 114, 105, 112, 116, 105, 111, 110]⟩, str ab, .string ⟨#[67, 111, 110, 116, 101, 110, 116, 45, 84, 114, 97, 110, 115, 102, 101, 114, 45, 69, 110, 99, 111, 100, 105, 110, 103]⟩, str way] 127)) = w6 at *
    have HB6 := Lib.hid hB6
    clear hB6 K6 d4 d5 d6
    go_loopg [5, 52] 3 (fun n s5 s52 wr => ∃ i : Nat, s52 = .int .i64 i ∧ i + n = 3 ∧ FldAt wr wA.heap.size s5 (head ++ tf ++ acc3 id ab way i) ∧ s5.ownBlock ≠ some wc.heap.size ∧ Blk wr wc.heap.size [.string ⟨#[67, 111, 110, 116, 101, 110, 116, 45, 73, 100]⟩, str id, .string ⟨#[67, 111, 110, 116, 101, 110, 116, 45, 68, 101, 115, 99, 114, 105, 112, 116, 105, 111, 110]⟩, str ab, .string ⟨#[67, 111, 110, 116, 101, 110, 116, 45, 84, 114, 97, 110, 115, 102, 101, 114, 45, 69, 110, 99, 111, 100, 105, 110, 103]⟩, str way] 127 ∧ Keeps No w wr)
    case atStart => exact ⟨0, rfl, rfl, by rw [show acc3 id ab way 0 = [] from rfl, List.append_nil]; exact HV6.out, fun e => by have := (World.ownsRow.lt HV5.out _ e).2; omega, HB6.out, HK6.out⟩
    case round =>
      obtain ⟨i, rfl, hin, hv, hne, hB, hK⟩ := hrel
      have h4 : i = 0 ∨ i = 1 ∨ i = 2 ∨ i = 3 := by omega
      have HV := Lib.hid hv
      have HNE := Lib.hid hne
      have HB := Lib.hid hB
      have HK := Lib.hid hK
      have HIN := Lib.hid hin
      clear hv hne hB hK hin
      obtain ⟨ya, yc, rfl⟩ := fldV HV.out
      rcases h4 with rfl | rfl | rfl | rfl
      · have e0 : wr.cell? ⟨wc.heap.size, 0, none⟩ = some (.string ⟨#[67, 111, 110, 116, 101, 110, 116, 45, 73, 100]⟩) := HB.out.cell 0
        have e1 : wr.cell? ⟨wc.heap.size, 1, none⟩ = some (str id) := HB.out.cell 1
        by_cases hx : id = []
        · have hx1 : (id == []) = true := by rw [hx]; rfl
          have HX := Lib.hid hx
          clear hx
          go_wp2
          go_roundg 2
          case measure => have := HIN.out; omega
          case rel => exact ⟨1, rfl, rfl, by rw [acc3_1, HX.out, show saidOf ciK [] = [] from rfl, List.append_nil]; exact World.ownsRow.alloc HV.out _, HNE.out, HB.out.alloc _, HK.out.alloc _⟩
        · have hx1 : (id == []) = false := beq_eq_false_iff_ne.2 hx
          have HX := Lib.hid hx
          clear hx
          have HR := Lib.hid (show RowsAt ((wr.alloc (.cells #[.string ⟨#[67, 111, 110, 116, 101, 110, 116, 45, 73, 100]⟩, str id] 127)).alloc (.cells #[.string ⟨#[67, 111, 110, 116, 101, 110, 116, 45, 73, 100]⟩, str id] 127)) 2 (.slice (some ⟨(wr.alloc (.cells #[.string ⟨#[67, 111, 110, 116, 101, 110, 116, 45, 73, 100]⟩, str id] 127)).heap.size, 0, none⟩) 1 1) ([(ciK, id)].map hdC) from rows_one _ (ciK, id))
          have hsz : (wr.alloc (.cells #[.string ⟨#[67, 111, 110, 116, 101, 110, 116, 45, 73, 100]⟩, str id] 127)).heap.size = wr.heap.size + 1 := by simp
          rw [hsz] at HR
          have HV2 := Lib.hid (show FldAt ((wr.alloc (.cells #[.string ⟨#[67, 111, 110, 116, 101, 110, 116, 45, 73, 100]⟩, str id] 127)).alloc (.cells #[.string ⟨#[67, 111, 110, 116, 101, 110, 116, 45, 73, 100]⟩, str id] 127)) wA.heap.size _ (head ++ tf ++ acc3 id ab way 0) from World.ownsRow.alloc (World.ownsRow.alloc HV.out _) _)
          have HBB2 := Lib.hid (show wA.heap.size ≤ ((wr.alloc (.cells #[.string ⟨#[67, 111, 110, 116, 101, 110, 116, 45, 73, 100]⟩, str id] 127)).alloc (.cells #[.string ⟨#[67, 111, 110, 116, 101, 110, 116, 45, 73, 100]⟩, str id] 127)).heap.size by have := HK.out.size; have := HSA.out; have := HB.out.lt; simp; omega)
          have HLN := Lib.hid (show (head ++ tf ++ acc3 id ab way 0).length + [((ciK, id) : Hd)].length ≤ 1000000 by have := acc3_len id ab way 0; have := HTL.out; simp; omega)
          clear hsz
          go_wp2_with (at_builtin; refine wpList_append_hd rfl (.tmp 59) (.tmp 61) rfl wA.heap.size _ _ (head ++ tf ++ acc3 id ab way 0) [(ciK, id)] rfl HV2.out rfl HR.out HLN.out HBB2.out ?_; intro v2 W2 hv2 K2 hvo2)
          have HVO := Lib.hid hvo2
          have HK2 := Lib.hid K2
          obtain ⟨vb, vd, hve⟩ := fldV hv2
          subst hve
          have HV3 := Lib.hid hv2
          clear hv2 hvo2 K2
          go_wp2
          go_roundg 2
          case measure => have := HIN.out; omega
          case rel => exact ⟨1, rfl, rfl, by rw [acc3_1, show saidOf ciK id = [(ciK, id)] from if_neg HX.out, ← List.append_assoc]; exact HV3.out, fun e => by
              rcases HVO.out _ e with h | h
              · exact HNE.out h
              · have := HB.out.lt; simp at h; omega, ((HB.out.alloc _).alloc _).keep HK2.out (fun h => HNE.out h), ((HK.out.alloc _).alloc _).trans HK2.out (fun x hx h => by have := (World.ownsRow.lt HV.out x h).1; have := HSA.out; omega)⟩
      · have e0 : wr.cell? ⟨wc.heap.size, 2, none⟩ = some (.string ⟨#[67, 111, 110, 116, 101, 110, 116, 45, 68, 101, 115, 99, 114, 105, 112, 116, 105, 111, 110]⟩) := HB.out.cell 2
        have e1 : wr.cell? ⟨wc.heap.size, 3, none⟩ = some (str ab) := HB.out.cell 3
        by_cases hx : ab = []
        · have hx1 : (ab == []) = true := by rw [hx]; rfl
          have HX := Lib.hid hx
          clear hx
          go_wp2
          go_roundg 1
          case measure => have := HIN.out; omega
          case rel => exact ⟨2, rfl, rfl, by rw [acc3_2, HX.out, show saidOf cdK [] = [] from rfl, List.append_nil]; exact World.ownsRow.alloc HV.out _, HNE.out, HB.out.alloc _, HK.out.alloc _⟩
        · have hx1 : (ab == []) = false := beq_eq_false_iff_ne.2 hx
          have HX := Lib.hid hx
          clear hx
          have HR := Lib.hid (show RowsAt ((wr.alloc (.cells #[.string ⟨#[67, 111, 110, 116, 101, 110, 116, 45, 68, 101, 115, 99, 114, 105, 112, 116, 105, 111, 110]⟩, str ab] 127)).alloc (.cells #[.string ⟨#[67, 111, 110, 116, 101, 110, 116, 45, 68, 101, 115, 99, 114, 105, 112, 116, 105, 111, 110]⟩, str ab] 127)) 2 (.slice (some ⟨(wr.alloc (.cells #[.string ⟨#[67, 111, 110, 116, 101, 110, 116, 45, 68, 101, 115, 99, 114, 105, 112, 116, 105, 111, 110]⟩, str ab] 127)).heap.size, 0, none⟩) 1 1) ([(cdK, ab)].map hdC) from rows_one _ (cdK, ab))
          have hsz : (wr.alloc (.cells #[.string ⟨#[67, 111, 110, 116, 101, 110, 116, 45, 68, 101, 115, 99, 114, 105, 112, 116, 105, 111, 110]⟩, str ab] 127)).heap.size = wr.heap.size + 1 := by simp
          rw [hsz] at HR
          have HV2 := Lib.hid (show FldAt ((wr.alloc (.cells #[.string ⟨#[67, 111, 110, 116, 101, 110, 116, 45, 68, 101, 115, 99, 114, 105, 112, 116, 105, 111, 110]⟩, str ab] 127)).alloc (.cells #[.string ⟨#[67, 111, 110, 116, 101, 110, 116, 45, 68, 101, 115, 99, 114, 105, 112, 116, 105, 111, 110]⟩, str ab] 127)) wA.heap.size _ (head ++ tf ++ acc3 id ab way 1) from World.ownsRow.alloc (World.ownsRow.alloc HV.out _) _)
          have HBB2 := Lib.hid (show wA.heap.size ≤ ((wr.alloc (.cells #[.string ⟨#[67, 111, 110, 116, 101, 110, 116, 45, 68, 101, 115, 99, 114, 105, 112, 116, 105, 111, 110]⟩, str ab] 127)).alloc (.cells #[.string ⟨#[67, 111, 110, 116, 101, 110, 116, 45, 68, 101, 115, 99, 114, 105, 112, 116, 105, 111, 110]⟩, str ab] 127)).heap.size by have := HK.out.size; have := HSA.out; have := HB.out.lt; simp; omega)
          have HLN := Lib.hid (show (head ++ tf ++ acc3 id ab way 1).length + [((cdK, ab) : Hd)].length ≤ 1000000 by have := acc3_len id ab way 1; have := HTL.out; simp; omega)
          clear hsz
          go_wp2_with (at_builtin; refine wpList_append_hd rfl (.tmp 59) (.tmp 61) rfl wA.heap.size _ _ (head ++ tf ++ acc3 id ab way 1) [(cdK, ab)] rfl HV2.out rfl HR.out HLN.out HBB2.out ?_; intro v2 W2 hv2 K2 hvo2)
          have HVO := Lib.hid hvo2
          have HK2 := Lib.hid K2
          obtain ⟨vb, vd, hve⟩ := fldV hv2
          subst hve
          have HV3 := Lib.hid hv2
          clear hv2 hvo2 K2
          go_wp2
          go_roundg 1
          case measure => have := HIN.out; omega
          case rel => exact ⟨2, rfl, rfl, by rw [acc3_2, show saidOf cdK ab = [(cdK, ab)] from if_neg HX.out, ← List.append_assoc]; exact HV3.out, fun e => by
              rcases HVO.out _ e with h | h
              · exact HNE.out h
              · have := HB.out.lt; simp at h; omega, ((HB.out.alloc _).alloc _).keep HK2.out (fun h => HNE.out h), ((HK.out.alloc _).alloc _).trans HK2.out (fun x hx h => by have := (World.ownsRow.lt HV.out x h).1; have := HSA.out; omega)⟩
      · have e0 : wr.cell? ⟨wc.heap.size, 4, none⟩ = some (.string ⟨#[67, 111, 110, 116, 101, 110, 116, 45, 84, 114, 97, 110, 115, 102, 101, 114, 45, 69, 110, 99, 111, 100, 105, 110, 103]⟩) := HB.out.cell 4
        have e1 : wr.cell? ⟨wc.heap.size, 5, none⟩ = some (str way) := HB.out.cell 5
        by_cases hx : way = []
        · have hx1 : (way == []) = true := by rw [hx]; rfl
          have HX := Lib.hid hx
          clear hx
          go_wp2
          go_roundg 0
          case measure => have := HIN.out; omega
          case rel => exact ⟨3, rfl, rfl, by rw [acc3_3, HX.out, show saidOf ceK [] = [] from rfl, List.append_nil]; exact World.ownsRow.alloc HV.out _, HNE.out, HB.out.alloc _, HK.out.alloc _⟩
        · have hx1 : (way == []) = false := beq_eq_false_iff_ne.2 hx
          have HX := Lib.hid hx
          clear hx
          have HR := Lib.hid (show RowsAt ((wr.alloc (.cells #[.string ⟨#[67, 111, 110, 116, 101, 110, 116, 45, 84, 114, 97, 110, 115, 102, 101, 114, 45, 69, 110, 99, 111, 100, 105, 110, 103]⟩, str way] 127)).alloc (.cells #[.string ⟨#[67, 111, 110, 116, 101, 110, 116, 45, 84, 114, 97, 110, 115, 102, 101, 114, 45, 69, 110, 99, 111, 100, 105, 110, 103]⟩, str way] 127)) 2 (.slice (some ⟨(wr.alloc (.cells #[.string ⟨#[67, 111, 110, 116, 101, 110, 116, 45, 84, 114, 97, 110, 115, 102, 101, 114, 45, 69, 110, 99, 111, 100, 105, 110, 103]⟩, str way] 127)).heap.size, 0, none⟩) 1 1) ([(ceK, way)].map hdC) from rows_one _ (ceK, way))
          have hsz : (wr.alloc (.cells #[.string ⟨#[67, 111, 110, 116, 101, 110, 116, 45, 84, 114, 97, 110, 115, 102, 101, 114, 45, 69, 110, 99, 111, 100, 105, 110, 103]⟩, str way] 127)).heap.size = wr.heap.size + 1 := by simp
          rw [hsz] at HR
          have HV2 := Lib.hid (show FldAt ((wr.alloc (.cells #[.string ⟨#[67, 111, 110, 116, 101, 110, 116, 45, 84, 114, 97, 110, 115, 102, 101, 114, 45, 69, 110, 99, 111, 100, 105, 110, 103]⟩, str way] 127)).alloc (.cells #[.string ⟨#[67, 111, 110, 116, 101, 110, 116, 45, 84, 114, 97, 110, 115, 102, 101, 114, 45, 69, 110, 99, 111, 100, 105, 110, 103]⟩, str way] 127)) wA.heap.size _ (head ++ tf ++ acc3 id ab way 2) from World.ownsRow.alloc (World.ownsRow.alloc HV.out _) _)
          have HBB2 := Lib.hid (show wA.heap.size ≤ ((wr.alloc (.cells #[.string ⟨#[67, 111, 110, 116, 101, 110, 116, 45, 84, 114, 97, 110, 115, 102, 101, 114, 45, 69, 110, 99, 111, 100, 105, 110, 103]⟩, str way] 127)).alloc (.cells #[.string ⟨#[67, 111, 110, 116, 101, 110, 116, 45, 84, 114, 97, 110, 115, 102, 101, 114, 45, 69, 110, 99, 111, 100, 105, 110, 103]⟩, str way] 127)).heap.size by have := HK.out.size; have := HSA.out; have := HB.out.lt; simp; omega)
          have HLN := Lib.hid (show (head ++ tf ++ acc3 id ab way 2).length + [((ceK, way) : Hd)].length ≤ 1000000 by have := acc3_len id ab way 2; have := HTL.out; simp; omega)
          clear hsz
          go_wp2_with (at_builtin; refine wpList_append_hd rfl (.tmp 59) (.tmp 61) rfl wA.heap.size _ _ (head ++ tf ++ acc3 id ab way 2) [(ceK, way)] rfl HV2.out rfl HR.out HLN.out HBB2.out ?_; intro v2 W2 hv2 K2 hvo2)
          have HVO := Lib.hid hvo2
          have HK2 := Lib.hid K2
          obtain ⟨vb, vd, hve⟩ := fldV hv2
          subst hve
          have HV3 := Lib.hid hv2
          clear hv2 hvo2 K2
          go_wp2
          go_roundg 0
          case measure => have := HIN.out; omega
          case rel => exact ⟨3, rfl, rfl, by rw [acc3_3, show saidOf ceK way = [(ceK, way)] from if_neg HX.out, ← List.append_assoc]; exact HV3.out, fun e => by
              rcases HVO.out _ e with h | h
              · exact HNE.out h
              · have := HB.out.lt; simp at h; omega, ((HB.out.alloc _).alloc _).keep HK2.out (fun h => HNE.out h), ((HK.out.alloc _).alloc _).trans HK2.out (fun x hx h => by have := (World.ownsRow.lt HV.out x h).1; have := HSA.out; omega)⟩
      · go_wp2
        go_ret
        exact ⟨_, rfl, by rw [show saidOf ciK id ++ saidOf cdK ab ++ saidOf ceK way = acc3 id ab way 3 by simp [acc3]]; exact ownsRow_mono HV.out (by have := HSA.out; omega), HK.out⟩
end Go.Proofs.YtjbbapodcngnaaaGreatDoor
namespace Go.Proofs.YtjbbapodcngnaaaGreatDoor.Hdr

/-! ### Names -/
/-- Behind a byte of a name: whether the next one is a first. -/
def nmStep (first : Bool) (c : UInt8) : Option Bool :=
  if c = 45 ∧ first = false then some true
  else if (first = true ∧ (c.toNat < 65 ∨ 90 < c.toNat)) ∨ (first = false ∧ (c.toNat < 97 ∨ 122 < c.toNat)) then none else some false
def nmScan : Bool → List UInt8 → Option Bool
  | f, [] => some f
  | f, c :: l => (nmStep f c).bind fun g => nmScan g l
theorem nmScan_snoc (f : Bool) (l : List UInt8) (c : UInt8) : nmScan f (l ++ [c]) = (nmScan f l).bind fun g => nmStep g c := by
  induction l generalizing f with
  | nil =>
    show (nmStep f c).bind (fun g => nmScan g []) = nmStep f c
    cases nmStep f c <;> rfl
  | cons x l ih =>
    simp only [List.cons_append, nmScan]
    cases nmStep f x with
    | none => rfl
    | some g => exact ih g
theorem nmStep_ok {f g : Bool} {c : UInt8} (h : nmStep f c = some g) : keyb c = true ∧ tok c = true ∧ cased f c = c ∧ g = (c == 45) := by
  unfold nmStep at h
  split at h
  · rename_i h1
    obtain ⟨rfl, rfl⟩ := h1
    injection h with h
    subst h
    decide
  · rename_i h1
    split at h
    · cases h
    · rename_i h2
      injection h with h
      subst h
      have hc : c ≠ 45 := by
        rintro rfl
        cases f with
        | false => exact h1 ⟨rfl, rfl⟩
        | true => exact h2 (.inl ⟨rfl, .inl (by decide)⟩)
      have hb : (c == 45) = false := beq_eq_false_iff_ne.2 hc
      rw [hb]
      refine ⟨decide_eq_true ?_, decide_eq_true ?_, ?_, rfl⟩
      · unfold keyN
        cases f <;> simp at h2 <;> omega
      · unfold tokN
        cases f <;> simp at h2 <;> omega
      · unfold cased
        cases f with
        | false =>
          simp at h2
          rw [if_neg (by simp), if_neg (by omega)]
        | true =>
          simp at h2
          rw [if_neg (by omega), if_neg (by simp)]
theorem nmScan_ok : ∀ (l : List UInt8) (f g : Bool), nmScan f l = some g → (∀ c ∈ l, keyb c = true) ∧ l.all tok = true ∧ canonGo f l = l
  | [], f, g, _ => ⟨fun c hc => (by cases hc), rfl, rfl⟩
  | c :: l, f, g, h => by
    rw [nmScan] at h
    cases hs : nmStep f c with
    | none => rw [hs] at h; cases h
    | some k =>
      rw [hs] at h
      obtain ⟨h1, h2, h3, h4⟩ := nmStep_ok hs
      obtain ⟨i1, i2, i3⟩ := nmScan_ok l k g h
      refine ⟨fun x hx => ?_, by rw [List.all_cons, h2, i2]; rfl, ?_⟩
      · rcases List.mem_cons.1 hx with rfl | hx
        · exact h1
        · exact i1 x hx
      · rw [canonGo, h3, ← h4, i3]
theorem nmScan_canon {l : List UInt8} {g : Bool} (h : nmScan true l = some g) : canon l = l := by
  obtain ⟨_, h2, h3⟩ := nmScan_ok l true g h
  unfold canon
  rw [if_pos h2, h3]
theorem nmScan_dash {l : List UInt8} {g : Bool} (h : nmScan true l = some g) : l.head? ≠ some 45 := by
  cases l with
  | nil => simp
  | cons c l =>
    rw [List.head?_cons]
    intro e
    injection e with e
    subst e
    rw [nmScan, show nmStep true 45 = none by decide] at h
    cases h
def small (c : UInt8) : UInt8 := if 65 ≤ c.toNat ∧ c.toNat ≤ 90 then c + 32 else c
def contentL : List UInt8 := [99, 111, 110, 116, 101, 110, 116]
theorem small_no {n : List UInt8} (h : (n.map small).take 7 ≠ contentL) : n.take 7 ≠ contentS := by
  intro e
  apply h
  rw [← List.map_take, e]
  decide
theorem headOk_of {n v : List UInt8} {g : Bool} (hne : n ≠ []) (hnl : n.length ≤ 20) (hvne : v ≠ []) (hs : Says v) (hsc : nmScan true n = some g) (hno : (n.map small).take 7 ≠ contentL) : HeadOk (n, v) := by
  have hne2 : ∀ x ∈ v, x ≠ 32 → sp x = false := fun x hx hn => by
    refine sp_of ?_
    have := (hs.all x hx).1
    have h9 : x.toNat ≠ 32 := fun e => hn (UInt8.toNat.inj e)
    omega
  have htr : trim v = v := trim_ends (fun x hx => hne2 x (List.mem_of_mem_head? hx) (fun e => hs.first (e ▸ hx))) (fun x hx => hne2 x (List.mem_of_getLast? hx) (fun e => hs.last (e ▸ hx)))
  exact ⟨⟨hne, (nmScan_ok n true g hsc).1, nmScan_canon hsc, hvne, fun h => by have := hs.all _ h; simp at this, fun h => by have := hs.all _ h; simp at this, htr, nmScan_dash hsc,
    show n.length ≤ 100 by omega, show v.length ≤ 200 by have := hs.len; omega⟩, small_no hno⟩

/-! ### Texts -/
def LinesOk (ls : List (List UInt8)) : Prop := ∀ l ∈ ls, (13 : UInt8) ∉ l ∧ (10 : UInt8) ∉ l ∧ l.length ≤ 60 ∧ l.take 2 ≠ [45, 45]
/-- n lines behind the first f bytes, and what stands of the next one. -/
structure TScan (s : List UInt8) (n f i : Nat) : Prop where
  le : f ≤ i
  il : i ≤ s.length
  ls : ∃ ls, s.take f = raws ls ∧ ls.length = n ∧ LinesOk ls
  cur : ∀ c ∈ (s.take i).drop f, 32 ≤ c.toNat ∧ c.toNat ≤ 126
theorem TScan.start (s : List UInt8) : TScan s 0 0 0 := ⟨Nat.le_refl _, Nat.zero_le _, ⟨[], rfl, rfl, fun l hl => by cases hl⟩, fun c hc => by simp at hc⟩
theorem TScan.char {s : List UInt8} {n f i : Nat} (h : TScan s n f i) (hi : i < s.length) (hc : 32 ≤ s[i].toNat ∧ s[i].toNat ≤ 126) : TScan s n f (i + 1) := by
  refine ⟨by have := h.le; omega, hi, h.ls, fun c hm => ?_⟩
  rw [List.take_succ_eq_append_getElem hi, List.drop_append_of_le_length (by rw [List.length_take]; have := h.le; omega)] at hm
  rcases List.mem_append.1 hm with hm | hm
  · exact h.cur c hm
  · rw [List.mem_singleton] at hm
    subst hm
    exact hc
theorem TScan.line {s : List UInt8} {n f i : Nat} (h : TScan s n f i) (hi : i + 1 < s.length) (h13 : s[i] = 13) (h10 : s[i + 1] = 10) (hlen : i - f ≤ 60) (hd : i - f ≤ 1 ∨ (s.drop f).take 2 ≠ [45, 45]) : TScan s (n + 1) (i + 2) (i + 2) := by
  have hle := h.le
  obtain ⟨ls, h1, h2, h3⟩ := h.ls
  have hcur := h.cur
  refine ⟨Nat.le_refl _, by omega, ⟨ls ++ [(s.take i).drop f], ?_, by simp [h2], fun l hl => ?_⟩, fun c hc => ?_⟩
  · rw [raws_append, ← h1, List.take_succ_eq_append_getElem (by omega : i + 1 < s.length), List.take_succ_eq_append_getElem (by omega : i < s.length), h13, h10]
    have e : s.take i = s.take f ++ (s.take i).drop f := by
      conv => lhs; rw [← List.take_append_drop f (s.take i)]
      rw [List.take_take, Nat.min_eq_left hle]
    conv => lhs; rw [e]
    simp [raws]
  · rcases List.mem_append.1 hl with hl | hl
    · exact h3 l hl
    · rw [List.mem_singleton] at hl
      subst hl
      have hll : ((s.take i).drop f).length = i - f := by rw [List.length_drop, List.length_take]; omega
      refine ⟨fun hm => by have := hcur _ hm; simp at this, fun hm => by have := hcur _ hm; simp at this, by omega, fun e => ?_⟩
      rcases hd with hd | hd
      · have := congrArg List.length e
        rw [List.length_take, hll] at this
        simp at this
        omega
      · apply hd
        rw [← e, List.drop_take, List.take_take]
        congr 1
        have := congrArg List.length e
        rw [List.length_take, hll] at this
        simp at this
        omega
  · rw [List.drop_eq_nil_of_le (by rw [List.length_take]; omega)] at hc
    cases hc
theorem raws_le62 (ls : List (List UInt8)) (h : LinesOk ls) : (raws ls).length ≤ 62 * ls.length := by
  induction ls with
  | nil => simp [raws]
  | cons l ls ih =>
    have h1 := (h l (List.mem_cons_self ..)).2.2.1
    have h2 := ih fun x hx => h x (List.mem_cons_of_mem _ hx)
    have e : raws (l :: ls) = (l ++ [13, 10]) ++ raws ls := by simp [raws]
    rw [e, List.length_append, List.length_append, List.length_cons]
    simp only [List.length_cons, List.length_nil]
    omega
theorem TScan.done {s : List UInt8} {n f i : Nat} (h : TScan s n f i) (hf : f = s.length) (hn : n ≤ 12) : TextOk s := by
  obtain ⟨ls, h1, h2, h3⟩ := h.ls
  rw [hf, List.take_length] at h1
  refine ⟨⟨ls, h1, fun l hl => ?_⟩, ?_⟩
  · obtain ⟨a, b, c, d⟩ := h3 l hl
    exact ⟨a, b, by omega, d⟩
  · rw [h1]
    have := raws_le62 ls h3
    omega

/-! ### Messages are right -/
theorem mlsOk_of : ∀ (l : List Ml), (∀ m ∈ l, MlOk m) → MlsOk l
  | [], _ => by rw [MlsOk]; trivial
  | m :: l, h => by rw [MlsOk]; exact ⟨h m (List.mem_cons_self ..), mlsOk_of l fun x hx => h x (List.mem_cons_of_mem _ hx)⟩
theorem msizes_append (a b : List Ml) : msizes (a ++ b) = msizes a + msizes b := by
  induction a with
  | nil => rw [List.nil_append, show msizes [] = 0 by rw [msizes], Nat.zero_add]
  | cons x a ih => rw [List.cons_append, msizes, msizes, ih, Nat.add_assoc]
theorem msizes_one (m : Ml) : msizes [m] = msize m := by rw [msizes, msizes, Nat.add_zero]
end Go.Proofs.YtjbbapodcngnaaaGreatDoor.Hdr
namespace Go.Proofs.YtjbbapodcngnaaaGreatDoor.Hdr

/-- One part behind its boundary. -/
def partB (m : Ml) (p : List UInt8) (i : Nat) : List UInt8 := 45 :: 45 :: bnd p ++ [13, 10] ++ mtext m (under p i) ++ [13, 10]
def partsPre : List Ml → List UInt8 → Nat → List UInt8
  | [], _, _ => []
  | m :: l, p, i => partB m p i ++ partsPre l p (i + 1)
theorem partsText_pre : ∀ (l : List Ml) (p : List UInt8) (i : Nat), partsText l p i = partsPre l p i ++ (45 :: 45 :: (bnd p ++ [45, 45]) ++ [13, 10])
  | [], p, i => by rw [partsText_nil, partsPre]; simp
  | m :: l, p, i => by
    rw [partsText_cons, partsText_pre l p (i + 1), partsPre]
    unfold partB
    simp only [List.append_assoc]
theorem partsPre_snoc : ∀ (l : List Ml) (m : Ml) (p : List UInt8) (i : Nat), partsPre (l ++ [m]) p i = partsPre l p i ++ partB m p (i + l.length)
  | [], m, p, i => by simp [partsPre]
  | x :: l, m, p, i => by
    rw [List.cons_append, partsPre, partsPre, partsPre_snoc l m p (i + 1), List.length_cons, show i + 1 + l.length = i + (l.length + 1) by omega, List.append_assoc]
theorem partsPre_append : ∀ (l r : List Ml) (p : List UInt8) (i : Nat), partsPre (l ++ r) p i = partsPre l p i ++ partsPre r p (i + l.length)
  | [], r, p, i => by simp [partsPre]
  | x :: l, r, p, i => by
    rw [List.cons_append, partsPre, partsPre, partsPre_append l r p (i + 1), List.length_cons, show i + 1 + l.length = i + (l.length + 1) by omega, List.append_assoc]
theorem partsPre_take (l : List Ml) (i : Nat) (m : Ml) (h : l[i]? = some m) (p : List UInt8) : partsPre (l.take (i + 1)) p 0 = partsPre (l.take i) p 0 ++ partB m p i := by
  have hi : i < l.length := (List.getElem?_eq_some_iff.1 h).1
  rw [List.take_add_one, h]
  simp only [Option.toList_some]
  rw [partsPre_snoc, List.length_take, Nat.min_eq_left (by omega), Nat.zero_add]
theorem partsPre_len (l : List Ml) (i : Nat) (p : List UInt8) : (partsPre (l.take i) p 0).length ≤ (partsText l p 0).length := by
  have e := partsPre_append (l.take i) (l.drop i) p 0
  rw [List.take_append_drop] at e
  rw [partsText_pre, e]
  simp only [List.length_append]
  omega

theorem shapesOf_snoc : ∀ (l : List Ml) (m : Ml) (p : List UInt8) (i : Nat), shapesOf (l ++ [m]) p i = shapesOf l p i ++ [shapeOf m (under p (i + l.length))]
  | [], m, p, i => by rw [List.nil_append, shapesOf_cons, shapesOf_nil]; rfl
  | x :: l, m, p, i => by
    rw [List.cons_append, shapesOf_cons, shapesOf_cons, shapesOf_snoc l m p (i + 1), List.length_cons, show i + 1 + l.length = i + (l.length + 1) by omega]
    rfl
theorem shapesOf_take (l : List Ml) (i : Nat) (m : Ml) (h : l[i]? = some m) (p : List UInt8) : shapesOf (l.take (i + 1)) p 0 = shapesOf (l.take i) p 0 ++ [shapeOf m (under p i)] := by
  have hi : i < l.length := (List.getElem?_eq_some_iff.1 h).1
  rw [List.take_add_one, h]
  simp only [Option.toList_some]
  rw [shapesOf_snoc, List.length_take, Nat.min_eq_left (by omega), Nat.zero_add]
theorem suresOf_snoc : ∀ (l : List Ml) (m : Ml) (p : List UInt8) (i : Nat), suresOf (l ++ [m]) p i = (suresOf l p i && sureOf m (under p (i + l.length)))
  | [], m, p, i => by rw [List.nil_append, suresOf_cons, suresOf_nil, Bool.and_true, suresOf_nil, Bool.true_and]; rfl
  | x :: l, m, p, i => by
    rw [List.cons_append, suresOf_cons, suresOf_cons, suresOf_snoc l m p (i + 1), List.length_cons, show i + 1 + l.length = i + (l.length + 1) by omega, Bool.and_assoc]
theorem suresOf_take (l : List Ml) (i : Nat) (m : Ml) (h : l[i]? = some m) (p : List UInt8) : suresOf (l.take (i + 1)) p 0 = (suresOf (l.take i) p 0 && sureOf m (under p i)) := by
  have hi : i < l.length := (List.getElem?_eq_some_iff.1 h).1
  rw [List.take_add_one, h]
  simp only [Option.toList_some]
  rw [suresOf_snoc, List.length_take, Nat.min_eq_left (by omega), Nat.zero_add]
theorem msizes_take : ∀ (l : List Ml) (i : Nat) (m : Ml), l[i]? = some m → msizes (l.take (i + 1)) = msizes (l.take i) + msize m := by
  intro l i m h
  rw [List.take_add_one, h]
  simp only [Option.toList_some]
  rw [msizes_append, msizes_one]
theorem msizes_len : ∀ l : List Ml, l.length ≤ msizes l
  | [] => by simp
  | m :: l => by have := msizes_len l; have := msize_pos m; rw [msizes, List.length_cons]; omega
end Go.Proofs.YtjbbapodcngnaaaGreatDoor.Hdr
namespace Go.Proofs.YtjbbapodcngnaaaGreatDoor
open Go.RowKit Hdr

theorem MlC.form {w : World} {m : Ml} {cs : List Value} (h : MlC w m cs) : ∃ ha hc ka kc css, cs = mlCs (.slice ha m.head.length hc) m.kind m.type m.sub m.id m.about m.way m.text (.slice ka m.kids.length kc) ∧
    RowsAt w 2 (.slice ha m.head.length hc) (m.head.map hdC) ∧ MlsC w m.kids css ∧ RowsAt w 9 (.slice ka m.kids.length kc) css ∧ css.length = m.kids.length := by
  obtain ⟨hd, k, t, s, i, a, y, x, kids⟩ := m
  rw [MlC_eq] at h
  obtain ⟨_, hv, kv, rfl, h2, css, h3, h4⟩ := h
  have hl := MlsC.len _ _ h3
  have h2' := h2
  have h4' := h4
  obtain ⟨ha, hc, rfl, _⟩ := h2'
  obtain ⟨ka, kc, rfl, _⟩ := h4'
  rw [List.length_map] at h2 ⊢
  rw [hl] at h4 ⊢
  exact ⟨ha, hc, ka, kc, css, rfl, h2, h3, h4, hl⟩
theorem MlC.wf {w : World} {m : Ml} {cs : List Value} (h : MlC w m cs) : MlWf m.head m.kind m.type m.sub m.id m.about m.way m.text := by
  obtain ⟨hd, k, t, s, i, a, y, x, kids⟩ := m
  rw [MlC_eq] at h
  exact h.1
/-- A row's cells. -/
theorem RowsAt.at {w : World} {size n cap : Nat} {a : Option Addr} {css : List (List Value)} (h : RowsAt w size (.slice a n cap) css) {i : Nat} {c : List Value} (hc : css[i]? = some c) :
    ∃ b o, a = some ⟨b, o, none⟩ ∧ n = css.length ∧ n ≤ cap ∧ b < w.heap.size ∧ ∀ (j : Nat) (u : Value), c[j]? = some u → w.cell? ⟨b, o + (i * size + j), none⟩ = some u := by
  obtain ⟨a', cap', h1, h2, _, h3⟩ := h
  injection h1 with h1 h4 h5
  subst h1
  subst h4
  subst h5
  rcases h3 with rfl | ⟨b, o, rfl, h6, h7⟩
  · cases hc
  · exact ⟨b, o, rfl, rfl, h2, h6, fun j u hu => h7 i c hc j u hu⟩
theorem hd_cells {w : World} {n cap : Nat} {a : Option Addr} {l : List Hd} (h : RowsAt w 2 (.slice a n cap) (l.map hdC)) {i : Nat} {x : Hd} (hx : l[i]? = some x) :
    ∃ b o, a = some ⟨b, o, none⟩ ∧ n = l.length ∧ n ≤ cap ∧ w.cell? ⟨b, o + i * 2, none⟩ = some (str x.1) ∧ w.cell? ⟨b, o + i * 2 + 1, none⟩ = some (str x.2) := by
  obtain ⟨b, o, h1, h2, h3, _, h5⟩ := h.at (i := i) (c := hdC x) (by rw [List.getElem?_map, hx]; rfl)
  exact ⟨b, o, h1, by simpa using h2, h3, h5 0 _ rfl, h5 1 _ rfl⟩
theorem kid_cells {w : World} {n cap : Nat} {a : Option Addr} {kids : List Ml} {css : List (List Value)} (hm : MlsC w kids css) (h : RowsAt w 9 (.slice a n cap) css) {i : Nat} {k : Ml} (hk : kids[i]? = some k) :
    ∃ b o ha hc ka kc, a = some ⟨b, o, none⟩ ∧ n = kids.length ∧ n ≤ cap ∧ MlC w k (mlCs (.slice ha k.head.length hc) k.kind k.type k.sub k.id k.about k.way k.text (.slice ka k.kids.length kc)) ∧
      w.cell? ⟨b, o + i * 9, none⟩ = some (.slice ha k.head.length hc) ∧ w.cell? ⟨b, o + i * 9 + 1, none⟩ = some (.int .i64 k.kind) ∧ w.cell? ⟨b, o + i * 9 + 2, none⟩ = some (str k.type) ∧ w.cell? ⟨b, o + i * 9 + 3, none⟩ = some (str k.sub) ∧
      w.cell? ⟨b, o + i * 9 + 4, none⟩ = some (str k.id) ∧ w.cell? ⟨b, o + i * 9 + 5, none⟩ = some (str k.about) ∧ w.cell? ⟨b, o + i * 9 + 6, none⟩ = some (str k.way) ∧ w.cell? ⟨b, o + i * 9 + 7, none⟩ = some (str k.text) ∧ w.cell? ⟨b, o + i * 9 + 8, none⟩ = some (.slice ka k.kids.length kc) := by
  obtain ⟨c, h1, h2⟩ := MlsC.get kids css hm i k hk
  obtain ⟨ha, hc, ka, kc, css', rfl, _⟩ := h2.form
  obtain ⟨b, o, e1, e2, e3, _, e5⟩ := h.at h1
  exact ⟨b, o, ha, hc, ka, kc, e1, by rw [e2, MlsC.len kids css hm], e3, h2, e5 0 _ rfl, e5 1 _ rfl, e5 2 _ rfl, e5 3 _ rfl, e5 4 _ rfl, e5 5 _ rfl, e5 6 _ rfl, e5 7 _ rfl, e5 8 _ rfl⟩
end Go.Proofs.YtjbbapodcngnaaaGreatDoor
namespace Go.Proofs.YtjbbapodcngnaaaGreatDoor
open Go.RowKit Hdr

theorem hdCs_at : ∀ (l : List Hd) (i : Nat) (x : Hd), l[i]? = some x → ∀ (k : Nat) (u : Value), (hdC x)[k]? = some u → (hdCs l)[i * 2 + k]? = some u
  | y :: l, 0, x, h, k, u, hu => by
    simp at h
    subst h
    have e : hdCs (y :: l) = hdC y ++ hdCs l := rfl
    have hk : k < (hdC y).length := (List.getElem?_eq_some_iff.1 hu).1
    rw [e, Nat.zero_mul, Nat.zero_add, List.getElem?_append_left hk]
    exact hu
  | y :: l, i + 1, x, h, k, u, hu => by
    have e : hdCs (y :: l) = hdC y ++ hdCs l := rfl
    rw [e, List.getElem?_append_right (by simp [hdC]; omega), show (i + 1) * 2 + k - (hdC y).length = i * 2 + k by simp [hdC]; omega]
    exact hdCs_at l i x (by simpa using h) k u hu
theorem flds_len (l : List Hd) (H : ∀ h ∈ l, HdOk h) : (l.flatMap fieldB).length ≤ 304 * l.length := by
  induction l with
  | nil => simp
  | cons h l ih =>
    have h1 := (H h (List.mem_cons_self ..)).llen
    have h2 := ih fun y hy => H y (List.mem_cons_of_mem _ hy)
    have h3 : (fieldB h).length = (fieldL h).length + 2 := by simp [fieldB]
    rw [List.flatMap_cons, List.length_append, List.length_cons, h3]
    omega

set_option maxRecDepth 100000 in
set_option maxHeartbeats 1000000 in
theorem headerText_any (mv : Value) (hmv : ∃ hv kind ty sub id ab way text kv, mv = .agg #[hv, .int .i64 kind, str ty, str sub, str id, str ab, str way, str text, kv] ∧ (∃ a n c, hv = .slice a n c) ∧ ∃ a n c, kv = .slice a n c) (p : List UInt8) (l : List Hd) (w : World) (hf : ∀ W, Keeps No w W → Calls Tryz.prog 67 #[mv, str p] W (FlPost l W)) (hl : ∀ h ∈ l, HdOk h) (hn : l.length ≤ 12) :
    Calls Tryz.prog 45 #[mv, str p, .slice none 0 0, .bool false] w fun e w' => e = .returned (str (hdrText l)) ∧ Keeps No w w' := by
  obtain ⟨_, kind, ty, sub, id, ab, way, text, _, rfl, ⟨ha, hn', hc, rfl⟩, ⟨ka, kn, kc, rfl⟩⟩ := hmv
  have HF := Lib.hid hf
  have HL := Lib.hid hl
  have KA : Keeps No w (w.alloc (.cells #[.slice ha hn' hc, .int .i64 kind, str ty, str sub, str id, str ab, str way, str text, .slice ka kn kc] 42)) := (Keeps.refl No w).alloc _
  clear hf hl
  go_enter Tryz.func45, Tryz.ntmps45
  go_wp2_with (fail)
  refine (HF.out _ KA).mono ?_
  rintro e w1 ⟨v, rfl, hv, K1⟩
  obtain ⟨va, vc, rfl⟩ := fldV hv
  have HV := Lib.hid hv
  have HK := Lib.hid (KA.trans_no K1)
  clear hv K1 KA
  go_wp2
  go_loopg [9, 11] l.length (fun n s9 s11 wr => ∃ i : Nat, s11 = .int .i64 i ∧ i + n = l.length ∧ s9 = str ((l.take i).flatMap fieldB) ∧ Keeps No w1 wr)
  case atStart => exact ⟨0, rfl, Nat.zero_add _, rfl, Keeps.refl _ _⟩
  case round =>
    obtain ⟨i, rfl, hin, rfl, hK⟩ := hrel
    have HKR := Lib.hid hK
    have HIN := Lib.hid hin
    obtain ⟨acc, hacc⟩ : ∃ acc, acc = (l.take i).flatMap fieldB := ⟨_, rfl⟩
    rw [← hacc]
    have HAC := Lib.hid hacc
    by_cases hi : i < l.length
    · have hlt : decide ((i : Int) < (l.length : Int)) = true := decide_eq_true (by omega)
      have hlt2 : (i : Int) < (l.length : Int) := by omega
      have hi0 : (0 : Int) ≤ (i : Int) := by omega
      obtain ⟨x, hx⟩ : ∃ x, l[i]? = some x := ⟨_, List.getElem?_eq_getElem hi⟩
      have hok := HL.out x (List.mem_of_getElem? hx)
      have hnext : (l.take (i + 1)).flatMap fieldB = acc ++ fieldB x := by rw [List.take_add_one, hx, hacc]; simp
      have hnl := flds_len (l.take (i + 1)) (fun h hh => HL.out h (List.mem_of_mem_take hh))
      rw [hnext, List.length_append] at hnl
      have htl : (l.take (i + 1)).length ≤ l.length := by rw [List.length_take]; omega
      have hfl : (fieldB x).length = x.1.length + x.2.length + 4 := by simp [fieldB, fieldL]; omega
      obtain ⟨g, rfl, hcell⟩ : ∃ g, va = some ⟨g, 0, none⟩ ∧ ∀ j u, (hdCs l)[j]? = some u → w1.cell? ⟨g, j, none⟩ = some u := by
        rcases HV.out.2 with ⟨_, h0⟩ | ⟨g, cap, cur, he, _, hg, _, _, _, ht⟩
        · omega
        · simp only [Value.slice.injEq] at he
          refine ⟨g, he.1, fun j u hj => ?_⟩
          rw [← ht, List.getElem?_take] at hj
          split at hj
          · simp only [World.cell?, hg]
            simpa using hj
          · cases hj
      have f0 : wr.cell? ⟨g, i * 2, none⟩ = some (str x.1) := HKR.out.cell (hcell _ _ (hdCs_at l i x hx 0 _ rfl)) (fun h => h)
      have f1 : wr.cell? ⟨g, i * 2 + 1, none⟩ = some (str x.2) := HKR.out.cell (hcell _ _ (hdCs_at l i x hx 1 _ rfl)) (fun h => h)
      obtain ⟨a1, ha1⟩ : ∃ a1, a1 = x.1 ++ [58, 32] := ⟨_, rfl⟩
      obtain ⟨a2, ha2⟩ : ∃ a2, a2 = a1 ++ x.2 := ⟨_, rfl⟩
      obtain ⟨a3, ha3⟩ : ∃ a3, a3 = a2 ++ [13, 10] := ⟨_, rfl⟩
      obtain ⟨a4, ha4⟩ : ∃ a4, a4 = acc ++ a3 := ⟨_, rfl⟩
      have s1 := str_app x.1 [58, 32]
      have s2 := str_app a1 x.2
      have s3 := str_app a2 [13, 10]
      have s4 := str_app acc a3
      rw [← ha1] at s1
      rw [← ha2] at s2
      rw [← ha3] at s3
      rw [← ha4] at s4
      have e4 : a4 = (l.take (i + 1)).flatMap fieldB := by rw [hnext, ha4, ha3, ha2, ha1]; simp [fieldB, fieldL]
      have HE4 := Lib.hid e4
      have l1 : a1.length = x.1.length + 2 := by rw [ha1]; simp
      have l2 : a2.length = x.1.length + x.2.length + 2 := by rw [ha2, List.length_append, l1]; omega
      have l3 : a3.length = x.1.length + x.2.length + 4 := by rw [ha3, List.length_append, l2]; rfl
      have n1 : ¬ (9223372036854775807 < x.1.length + 2) := by omega
      have n2 : ¬ (9223372036854775807 < a1.length + x.2.length) := by omega
      have n3 : ¬ (9223372036854775807 < a2.length + 2) := by omega
      have n4 : ¬ (9223372036854775807 < acc.length + a3.length) := by omega
      obtain ⟨k1, hk1⟩ : ∃ k1 : Nat, k1 = i + 1 := ⟨_, rfl⟩
      have hadd : (i : Int) + 1 = (k1 : Int) := by omega
      have hadd2 : IntKind.i64.wrap (k1 : Int) = (k1 : Int) := IntWalk.i64_in _ (by omega)
      have hadd3 : IntKind.i64.wrap ((i : Int) + 1) = (k1 : Int) := by rw [hadd]; exact hadd2
      have HK1 := Lib.hid hk1
      clear hin hK hacc hx hok hnext hnl htl hfl hcell ha1 ha2 ha3 ha4 e4 l1 l2 l3 hk1 hi
      go_wp2
      refine wp_loop_rounds 1 ?_
      rw [rounds_succ]
      go_upto_region 12 with (fail)
      go_quiet (fail)
      go_wp2
      go_roundg (l.length - k1)
      case measure => have := HIN.out; have := HK1.out; omega
      case rel => exact ⟨k1, rfl, by have := HIN.out; have := HK1.out; omega, by rw [HK1.out, ← HE4.out], HKR.out.drewN _⟩
    · have hlt : decide ((i : Int) < (l.length : Int)) = false := decide_eq_false (by omega)
      have hlt2 : ¬ ((i : Int) < (l.length : Int)) := by omega
      have hte : l.take i = l := List.take_of_length_le (by omega)
      have hal : acc.length ≤ 304 * l.length := by rw [hacc, hte]; exact flds_len l HL.out
      have hln : ¬ (9223372036854775807 < acc.length + 2) := by omega
      have ha := str_app acc [13, 10]
      have hfin : acc ++ [13, 10] = hdrText l := by rw [hacc, hte]; rfl
      have HFN := Lib.hid hfin
      clear hin hK hacc hte hfin
      go_wp2
      go_ret
      exact ⟨by rw [← HFN.out]; rfl, HK.out.trans_no HKR.out⟩
end Go.Proofs.YtjbbapodcngnaaaGreatDoor
namespace Go.Proofs.YtjbbapodcngnaaaGreatDoor
open Go.RowKit Hdr

def StrTo (T : List UInt8) (w : World) (e : Ending) (w' : World) : Prop := e = .returned (str T) ∧ Keeps No w w'
/-- A message as a value. -/
def mlVal (ha : Option Addr) (hn hc : Nat) (kind : Int) (ty sub id ab way text : List UInt8) (ka : Option Addr) (kn kc : Nat) : Value := .agg #[.slice ha hn hc, .int .i64 kind, str ty, str sub, str id, str ab, str way, str text, .slice ka kn kc]

set_option maxRecDepth 100000 in
set_option maxHeartbeats 1000000 in
theorem mailText_node (ha : Option Addr) (hn hc : Nat) (kind : Int) (ty sub id ab way text : List UInt8) (ka : Option Addr) (kn kc : Nat) (p T C : List UInt8) (w : World)
    (h45 : ∀ W, Keeps No w W → Calls Tryz.prog 45 #[mlVal ha hn hc kind ty sub id ab way text ka kn kc, str p, .slice none 0 0, .bool false] W (StrTo T W))
    (h40 : ∀ W, Keeps No w W → Calls Tryz.prog 40 #[mlVal ha hn hc kind ty sub id ab way text ka kn kc, str p] W (StrTo C W)) (hl : T.length + C.length ≤ 10000000) :
    Calls Tryz.prog 18 #[mlVal ha hn hc kind ty sub id ab way text ka kn kc, str p] w (StrTo (T ++ C) w) := by
  have hB : Blk (w.alloc (.cells #[.slice ha hn hc, .int .i64 kind, str ty, str sub, str id, str ab, str way, str text, .slice ka kn kc] 42)) w.heap.size [.slice ha hn hc, .int .i64 kind, str ty, str sub, str id, str ab, str way, str text, .slice ka kn kc] 42 := Blk.new w _ _
  have KA : Keeps No w (w.alloc (.cells #[.slice ha hn hc, .int .i64 kind, str ty, str sub, str id, str ab, str way, str text, .slice ka kn kc] 42)) := (Keeps.refl No w).alloc _
  unfold mlVal at h45 h40 ⊢
  have H45 := Lib.hid h45
  have H40 := Lib.hid h40
  have ha1 := str_app T C
  have hn1 : ¬ (9223372036854775807 < T.length + C.length) := by omega
  clear h45 h40
  go_enter Tryz.func18, Tryz.ntmps18
  go_upto_region 1 with (fail)
  generalize (w.alloc (.cells #[.slice ha hn hc, .int .i64 kind, str ty, str sub, str id, str ab, str way, str text, .slice ka kn kc] 42)) = wA at *
  have HB := Lib.hid hB
  have HKA := Lib.hid KA
  clear hB KA
  refine region_segs [([0, 1, 3, 4], 2), ([], 5)] [6] 7 (fun W' => Keeps No wA W') (by kernel_rfl) (by kernel_rfl) ?_ ?_
  · exact (Keeps.refl No wA).drew
  simp only [segPick, List.map_cons, List.map_nil, pick, List.filterMap_cons, List.filterMap_nil, List.getElem?_cons_succ, List.getElem?_cons_zero, List.drop_succ_cons, List.drop_zero]
  rw [wpSegs]
  intro ι F hne hF
  have k0 := fun i => (HB.out.keep_no (hF i)).cell 0
  have k1 := fun i => (HB.out.keep_no (hF i)).cell 1
  have k2 := fun i => (HB.out.keep_no (hF i)).cell 2
  have k3 := fun i => (HB.out.keep_no (hF i)).cell 3
  have k4 := fun i => (HB.out.keep_no (hF i)).cell 4
  have k5 := fun i => (HB.out.keep_no (hF i)).cell 5
  have k6 := fun i => (HB.out.keep_no (hF i)).cell 6
  have k7 := fun i => (HB.out.keep_no (hF i)).cell 7
  have k8 := fun i => (HB.out.keep_no (hF i)).cell 8
  simp only [List.getElem?_cons_succ, List.getElem?_cons_zero] at k0 k1 k2 k3 k4 k5 k6 k7 k8
  clear hF
  repeat (quiet_step (fail))
  refine wpQuiet_nil ?_
  clear k0 k1 k2 k3 k4 k5 k6 k7 k8 hne F ι
  have KD : Keeps No wA wA.drew := (Keeps.refl No wA).drew
  generalize wA.drew = wd at *
  have HKD := Lib.hid KD
  go_wp2_with (fail)
  refine (H45.out wd (HKA.out.trans_no HKD.out)).mono ?_
  rintro e w2 ⟨rfl, K2⟩
  have HK2 := Lib.hid (HKD.out.trans_no K2)
  clear K2 KD
  go_wp2
  refine EffPost.intro HK2.out ?_
  rw [wpSegs]
  intro ι F hne hF
  clear hF
  repeat (quiet_step (fail))
  refine wpQuiet_nil ?_
  clear hne F ι
  go_wp2_with (fail)
  refine (H40.out w2 (HKA.out.trans_no HK2.out)).mono ?_
  rintro e w3 ⟨rfl, K3⟩
  have HK3 := Lib.hid (HK2.out.trans_no K3)
  clear K3
  go_wp2
  refine EffPost.intro HK3.out ?_
  rw [wpSegs]
  intro ι F hne hF
  clear hF
  repeat (quiet_step (fail))
  refine wpQuiet_nil ?_
  clear hne F ι
  go_wp2
  go_ret
  exact ⟨rfl, HKA.out.trans_no HK3.out⟩
end Go.Proofs.YtjbbapodcngnaaaGreatDoor
namespace Go.Proofs.YtjbbapodcngnaaaGreatDoor
open Go.RowKit Hdr

/-- A part's text, wherever it is asked for. -/
def KidsSay (w : World) (kids : List Ml) (p : List UInt8) : Prop := ∀ (i : Nat) (k : Ml) (ha : Option Addr) (hc : Nat) (ka : Option Addr) (kc : Nat), kids[i]? = some k → MlC w k (mlCs (.slice ha k.head.length hc) k.kind k.type k.sub k.id k.about k.way k.text (.slice ka k.kids.length kc)) → ∀ W, Keeps No w W →
  Calls Tryz.prog 18 #[mlVal ha k.head.length hc k.kind k.type k.sub k.id k.about k.way k.text ka k.kids.length kc, str (under p i)] W (StrTo (mtext k (under p i)) W)

set_option maxRecDepth 100000 in
set_option maxHeartbeats 4000000 in
theorem content_node (ha : Option Addr) (hn hc : Nat) (kind : Int) (ty sub id ab way text : List UInt8) (ka : Option Addr) (kc : Nat) (kids : List Ml) (p C : List UInt8) (css : List (List Value)) (w : World)
    (hm : MlsC w kids css) (hr : RowsAt w 9 (.slice ka kids.length kc) css) (hk : KidsSay w kids p) (hkn : kids.length ≤ 1000) (hp : p.length ≤ 100)
    (hC : (if kind = 0 then text else if kind = 2 then oneText kids p else partsText kids p 0) = C) (hl : C.length ≤ 10000000) (hone : kind = 2 → kids.length = 1) :
    Calls Tryz.prog 40 #[mlVal ha hn hc kind ty sub id ab way text ka kids.length kc, str p] w (StrTo C w) := by
  have hB : Blk (w.alloc (.cells #[.slice ha hn hc, .int .i64 kind, str ty, str sub, str id, str ab, str way, str text, .slice ka kids.length kc] 42)) w.heap.size [.slice ha hn hc, .int .i64 kind, str ty, str sub, str id, str ab, str way, str text, .slice ka kids.length kc] 42 := Blk.new w _ _
  have KA : Keeps No w (w.alloc (.cells #[.slice ha hn hc, .int .i64 kind, str ty, str sub, str id, str ab, str way, str text, .slice ka kids.length kc] 42)) := (Keeps.refl No w).alloc _
  have HM := Lib.hid hm
  have HR := Lib.hid hr
  have HKS := Lib.hid hk
  have HC := Lib.hid hC
  have HO := Lib.hid hone
  unfold mlVal
  clear hm hr hk hC hone
  by_cases h0 : kind = 0
  · subst h0
    have hc : text = C := by have := HC.out; rwa [if_pos rfl] at this
    subst hc
    clear HC
    go_enter Tryz.func40, Tryz.ntmps40
    go_wp2
    go_ret
    exact ⟨rfl, KA⟩
  have e0 : (kind == 0) = false := beq_eq_false_iff_ne.2 h0
  by_cases h2 : kind = 2
  · have e2 : (kind == 2) = true := by rw [h2]; rfl
    obtain ⟨k, rfl⟩ : ∃ k, kids = [k] := by
      have hl := HO.out h2
      match kids, hl with
      | [k], _ => exact ⟨k, rfl⟩
    have hc : mtext k (under p 0) = C := by have := HC.out; rwa [if_neg h0, if_pos h2, oneText_one] at this
    have HC2 := Lib.hid hc
    obtain ⟨b, o, kha, khc, kka, kkc, rfl, -, hcap, hmk, d0, d1, d2, d3, d4, d5, d6, d7, d8⟩ := kid_cells HM.out HR.out (i := 0) (k := k) rfl
    simp only [Nat.zero_mul, Nat.add_zero] at d0 d1 d2 d3 d4 d5 d6 d7 d8
    have H18 := Lib.hid (HKS.out 0 k kha khc kka kkc rfl hmk)
    unfold mlVal at H18
    have H38 := Lib.hid (show ∀ W, Calls Tryz.prog 38 #[str p, .int .i64 0] W fun e w' => e = .returned (str (under p 0)) ∧ Keeps No W w' from fun W => under_any p 0 W (by omega) (by omega))
    have HD := Lib.hid (show (w.cell? ⟨b, o, none⟩ = some (.slice kha k.head.length khc) ∧ w.cell? ⟨b, o + 1, none⟩ = some (.int .i64 k.kind) ∧ w.cell? ⟨b, o + 2, none⟩ = some (str k.type) ∧ w.cell? ⟨b, o + 3, none⟩ = some (str k.sub) ∧ w.cell? ⟨b, o + 4, none⟩ = some (str k.id) ∧ w.cell? ⟨b, o + 5, none⟩ = some (str k.about) ∧ w.cell? ⟨b, o + 6, none⟩ = some (str k.way) ∧ w.cell? ⟨b, o + 7, none⟩ = some (str k.text) ∧ w.cell? ⟨b, o + 8, none⟩ = some (.slice kka k.kids.length kkc)) from ⟨d0, d1, d2, d3, d4, d5, d6, d7, d8⟩)
    clear d0 d1 d2 d3 d4 d5 d6 d7 d8 h0 h2 hc hmk
    obtain ⟨n1, hn1⟩ : ∃ n1, n1 = k.head.length := ⟨_, rfl⟩
    obtain ⟨n2, hn2⟩ : ∃ n2, n2 = k.kids.length := ⟨_, rfl⟩
    rw [← hn1, ← hn2] at HD H18
    clear hn1 hn2
    go_enter Tryz.func40, Tryz.ntmps40
    go_upto_region 5 with (fail)
    generalize (w.alloc (.cells #[.slice ha hn hc, .int .i64 kind, str ty, str sub, str id, str ab, str way, str text, .slice (some ⟨b, o, none⟩) [k].length kc] 42)) = wA at *
    have HB := Lib.hid hB
    have HKA := Lib.hid KA
    clear hB KA
    refine region_segs [([0, 1, 2, 3, 4], 5), ([], 6)] [] 7 (fun W' => Keeps No wA W') (by kernel_rfl) (by kernel_rfl) ?_ ?_
    · exact (Keeps.refl No wA).drew
    simp only [segPick, List.map_cons, List.map_nil, pick, List.filterMap_cons, List.filterMap_nil, List.getElem?_cons_succ, List.getElem?_cons_zero, List.drop_succ_cons, List.drop_zero]
    rw [wpSegs]
    intro ι F hne hF
    have k8 := fun i => (HB.out.keep_no (hF i)).cell 8
    have d0 := fun i => (HKA.out.trans_no (hF i)).cell HD.out.1 (fun h => h)
    have d1 := fun i => (HKA.out.trans_no (hF i)).cell HD.out.2.1 (fun h => h)
    have d2 := fun i => (HKA.out.trans_no (hF i)).cell HD.out.2.2.1 (fun h => h)
    have d3 := fun i => (HKA.out.trans_no (hF i)).cell HD.out.2.2.2.1 (fun h => h)
    have d4 := fun i => (HKA.out.trans_no (hF i)).cell HD.out.2.2.2.2.1 (fun h => h)
    have d5 := fun i => (HKA.out.trans_no (hF i)).cell HD.out.2.2.2.2.2.1 (fun h => h)
    have d6 := fun i => (HKA.out.trans_no (hF i)).cell HD.out.2.2.2.2.2.2.1 (fun h => h)
    have d7 := fun i => (HKA.out.trans_no (hF i)).cell HD.out.2.2.2.2.2.2.2.1 (fun h => h)
    have d8 := fun i => (HKA.out.trans_no (hF i)).cell HD.out.2.2.2.2.2.2.2.2 (fun h => h)
    simp only [List.getElem?_cons_succ, List.getElem?_cons_zero, List.length_cons, List.length_nil] at k8
    clear hF
    repeat (quiet_step (fail))
    refine wpQuiet_nil ?_
    clear k8 d0 d1 d2 d3 d4 d5 d6 d7 d8 hne F ι
    have KD : Keeps No wA wA.drew := (Keeps.refl No wA).drew
    generalize wA.drew = wd at *
    have HKD := Lib.hid KD
    go_wp2_with (fail)
    refine (H38.out wd).mono ?_
    rintro e w2 ⟨rfl, K2⟩
    have HK2 := Lib.hid (HKD.out.trans_no K2)
    clear K2 KD
    go_wp2
    refine EffPost.intro HK2.out ?_
    rw [wpSegs]
    intro ι F hne hF
    clear hF
    repeat (quiet_step (fail))
    refine wpQuiet_nil ?_
    clear hne F ι
    go_wp2_with (fail)
    refine (H18.out w2 (HKA.out.trans_no HK2.out)).mono ?_
    rintro e w3 ⟨rfl, K3⟩
    have HK3 := Lib.hid (HK2.out.trans_no K3)
    clear K3
    go_wp2
    refine EffPost.intro HK3.out ?_
    rw [wpSegs]
    intro ι F hne hF
    clear hF
    repeat (quiet_step (fail))
    refine wpQuiet_nil ?_
    clear hne F ι
    go_wp2
    go_ret
    exact ⟨by rw [HC2.out]; rfl, HKA.out.trans_no HK3.out⟩
  have e2 : (kind == 2) = false := beq_eq_false_iff_ne.2 h2
  have hc : partsText kids p 0 = C := by have := HC.out; rwa [if_neg h0, if_neg h2] at this
  have HC2 := Lib.hid hc
  have H39 := Lib.hid (fun W => bnd_any p W (by omega))
  clear h0 h2 hc HC
  go_enter Tryz.func40, Tryz.ntmps40
  go_wp2
  generalize (w.alloc (.cells #[.slice ha hn hc, .int .i64 kind, str ty, str sub, str id, str ab, str way, str text, .slice ka kids.length kc] 42)) = wA at *
  have HB := Lib.hid hB
  have HKA := Lib.hid KA
  clear hB KA
  go_loopg [5, 6] kids.length (fun n s5 s6 wr => ∃ i : Nat, s6 = .int .i64 i ∧ i + n = kids.length ∧ s5 = str (partsPre (kids.take i) p 0) ∧ Keeps No wA wr)
  case atStart => exact ⟨0, rfl, Nat.zero_add _, rfl, Keeps.refl _ _⟩
  case round =>
    obtain ⟨i, rfl, hin, rfl, hK⟩ := hrel
    have HKR := Lib.hid hK
    have HIN := Lib.hid hin
    have hpl := partsPre_len kids i p
    rw [HC2.out] at hpl
    obtain ⟨acc, hacc⟩ : ∃ acc, acc = partsPre (kids.take i) p 0 := ⟨_, rfl⟩
    rw [← hacc] at hpl ⊢
    have HAC := Lib.hid hacc
    have r8 : wr.cell? ⟨w.heap.size, 8, none⟩ = some (.slice ka kids.length kc) := (HB.out.keep_no hK).cell 8
    clear hin hK hacc
    by_cases hi : i < kids.length
    · have hlt : decide ((i : Int) < (kids.length : Int)) = true := decide_eq_true (by omega)
      have hlt2 : (i : Int) < (kids.length : Int) := by omega
      obtain ⟨k, hkk⟩ : ∃ k, kids[i]? = some k := ⟨_, List.getElem?_eq_getElem hi⟩
      obtain ⟨b, o, kha, khc, kka, kkc, rfl, -, hcap, hmk, d0, d1, d2, d3, d4, d5, d6, d7, d8⟩ := kid_cells HM.out HR.out hkk
      have H18 := Lib.hid (HKS.out i k kha khc kka kkc hkk hmk)
      unfold mlVal at H18
      have H38 := Lib.hid (fun W => under_any p i W (by omega) (by omega))
      have HD := Lib.hid (show (w.cell? ⟨b, o + i * 9, none⟩ = some (.slice kha k.head.length khc) ∧ w.cell? ⟨b, o + i * 9 + 1, none⟩ = some (.int .i64 k.kind) ∧ w.cell? ⟨b, o + i * 9 + 2, none⟩ = some (str k.type) ∧ w.cell? ⟨b, o + i * 9 + 3, none⟩ = some (str k.sub) ∧ w.cell? ⟨b, o + i * 9 + 4, none⟩ = some (str k.id) ∧ w.cell? ⟨b, o + i * 9 + 5, none⟩ = some (str k.about) ∧ w.cell? ⟨b, o + i * 9 + 6, none⟩ = some (str k.way) ∧ w.cell? ⟨b, o + i * 9 + 7, none⟩ = some (str k.text) ∧ w.cell? ⟨b, o + i * 9 + 8, none⟩ = some (.slice kka k.kids.length kkc)) from ⟨d0, d1, d2, d3, d4, d5, d6, d7, d8⟩)
      obtain ⟨n1, hn1⟩ : ∃ n1, n1 = k.head.length := ⟨_, rfl⟩
      obtain ⟨n2, hn2⟩ : ∃ n2, n2 = k.kids.length := ⟨_, rfl⟩
      rw [← hn1, ← hn2] at HD H18
      -- the part's own text
      have hnext := partsPre_take kids i k hkk p
      rw [← HAC.out] at hnext
      have hnl := partsPre_len kids (i + 1) p
      rw [HC2.out, hnext, List.length_append] at hnl
      have hpb : (partB k p i).length = 3 + p.length + 2 + (mtext k (under p i)).length + 2 := by simp [partB, bnd]; omega
      obtain ⟨kt, hkt⟩ : ∃ kt, kt = mtext k (under p i) := ⟨_, rfl⟩
      rw [← hkt] at hpb H18
      have hbl : (bnd p).length = p.length + 1 := by simp [bnd]
      obtain ⟨a1, ha1⟩ : ∃ a, a = [45, 45] ++ bnd p := ⟨_, rfl⟩
      obtain ⟨a2, ha2⟩ : ∃ a, a = a1 ++ [13, 10] := ⟨_, rfl⟩
      obtain ⟨a3, ha3⟩ : ∃ a, a = a2 ++ kt := ⟨_, rfl⟩
      obtain ⟨a4, ha4⟩ : ∃ a, a = a3 ++ [13, 10] := ⟨_, rfl⟩
      obtain ⟨a5, ha5⟩ : ∃ a, a = acc ++ a4 := ⟨_, rfl⟩
      have s1 := str_app [45, 45] (bnd p)
      have s2 := str_app a1 [13, 10]
      have s3 := str_app a2 kt
      have s4 := str_app a3 [13, 10]
      have s5 := str_app acc a4
      rw [← ha1] at s1
      rw [← ha2] at s2
      rw [← ha3] at s3
      rw [← ha4] at s4
      rw [← ha5] at s5
      have l1 : a1.length = p.length + 3 := by rw [ha1, List.length_append, hbl]; simp; omega
      have l2 : a2.length = p.length + 5 := by rw [ha2, List.length_append, l1]; rfl
      have l3 : a3.length = p.length + 5 + kt.length := by rw [ha3, List.length_append, l2]
      have l4 : a4.length = p.length + 7 + kt.length := by rw [ha4, List.length_append, l3]; simp; omega
      have e5 : a5 = partsPre (kids.take (i + 1)) p 0 := by rw [hnext, ha5, ha4, ha3, ha2, ha1, hkt]; simp [partB]
      have HE5 := Lib.hid e5
      have n1' : ¬ (9223372036854775807 < 2 + (bnd p).length) := by omega
      have n2' : ¬ (9223372036854775807 < a1.length + 2) := by omega
      have n3' : ¬ (9223372036854775807 < a2.length + kt.length) := by omega
      have n4' : ¬ (9223372036854775807 < a3.length + 2) := by omega
      have n5' : ¬ (9223372036854775807 < acc.length + a4.length) := by omega
      have hw1 : IntKind.i64.wrap ((i : Int) + 1) = (i : Int) + 1 := IntWalk.i64_in _ (by omega)
      clear d0 d1 d2 d3 d4 d5 d6 d7 d8 hkk hmk hn1 hn2 hnext hnl hpb hkt ha1 ha2 ha3 ha4 ha5 l1 l2 l3 l4 e5 hbl
      go_upto_region 10 with (fail)
      clear r8
      refine region_segs [([0, 1, 5, 6, 7, 8, 9, 10, 11], 2), ([3, 4], 12), ([], 13)] [14, 15, 16] 17 (fun W' => Keeps No wr W') (by kernel_rfl) (by kernel_rfl) ?_ ?_
      · exact (Keeps.refl No wr).drew
      simp only [segPick, List.map_cons, List.map_nil, pick, List.filterMap_cons, List.filterMap_nil, List.getElem?_cons_succ, List.getElem?_cons_zero, List.drop_succ_cons, List.drop_zero]
      rw [wpSegs]
      intro ι F hne hF
      have k8 := fun i => (HB.out.keep_no (HKR.out.trans_no (hF i))).cell 8
      have d0 := fun i => ((HKA.out.trans_no HKR.out).trans_no (hF i)).cell HD.out.1 (fun h => h)
      have d1 := fun i => ((HKA.out.trans_no HKR.out).trans_no (hF i)).cell HD.out.2.1 (fun h => h)
      have d2 := fun i => ((HKA.out.trans_no HKR.out).trans_no (hF i)).cell HD.out.2.2.1 (fun h => h)
      have d3 := fun i => ((HKA.out.trans_no HKR.out).trans_no (hF i)).cell HD.out.2.2.2.1 (fun h => h)
      have d4 := fun i => ((HKA.out.trans_no HKR.out).trans_no (hF i)).cell HD.out.2.2.2.2.1 (fun h => h)
      have d5 := fun i => ((HKA.out.trans_no HKR.out).trans_no (hF i)).cell HD.out.2.2.2.2.2.1 (fun h => h)
      have d6 := fun i => ((HKA.out.trans_no HKR.out).trans_no (hF i)).cell HD.out.2.2.2.2.2.2.1 (fun h => h)
      have d7 := fun i => ((HKA.out.trans_no HKR.out).trans_no (hF i)).cell HD.out.2.2.2.2.2.2.2.1 (fun h => h)
      have d8 := fun i => ((HKA.out.trans_no HKR.out).trans_no (hF i)).cell HD.out.2.2.2.2.2.2.2.2 (fun h => h)
      simp only [List.getElem?_cons_succ, List.getElem?_cons_zero] at k8
      clear hF
      repeat (quiet_step (fail))
      refine wpQuiet_nil ?_
      clear k8 d0 d1 d2 d3 d4 d5 d6 d7 d8 hne F ι
      have KD : Keeps No wr wr.drew := (Keeps.refl No wr).drew
      generalize wr.drew = wd at *
      have HKD := Lib.hid KD
      go_wp2_with (fail)
      refine (H39.out wd).mono ?_
      rintro e w2 ⟨rfl, rfl⟩
      clear KD
      go_wp2
      refine EffPost.intro HKD.out ?_
      rw [wpSegs]
      intro ι F hne hF
      clear hF
      repeat (quiet_step (fail))
      refine wpQuiet_nil ?_
      clear hne F ι
      go_wp2_with (fail)
      refine (H38.out w2).mono ?_
      rintro e w3 ⟨rfl, K3⟩
      have HK3 := Lib.hid (HKD.out.trans_no K3)
      clear K3
      go_wp2
      refine EffPost.intro HK3.out ?_
      rw [wpSegs]
      intro ι F hne hF
      clear hF
      repeat (quiet_step (fail))
      refine wpQuiet_nil ?_
      clear hne F ι
      go_wp2_with (fail)
      refine (H18.out w3 ((HKA.out.trans_no HKR.out).trans_no HK3.out)).mono ?_
      rintro e w4 ⟨rfl, K4⟩
      have HK4 := Lib.hid (HK3.out.trans_no K4)
      clear K4
      go_wp2
      refine EffPost.intro HK4.out ?_
      rw [wpSegs]
      intro ι F hne hF
      clear hF
      repeat (quiet_step (fail))
      refine wpQuiet_nil ?_
      clear hne F ι
      go_wp2
      go_roundg (gk - 1)
      case measure => have := HIN.out; omega
      case rel => exact ⟨i + 1, by simp, by have := HIN.out; omega, by rw [← HE5.out], HKR.out.trans_no HK4.out⟩
    · have hlt : decide ((i : Int) < (kids.length : Int)) = false := decide_eq_false (by omega)
      have hlt2 : ¬ ((i : Int) < (kids.length : Int)) := by omega
      have hte : kids.take i = kids := List.take_of_length_le (by omega)
      have hfin := partsText_pre kids p 0
      rw [← hte, ← HAC.out, hte, HC2.out] at hfin
      have hbl : (bnd p).length = p.length + 1 := by simp [bnd]
      have hcl := congrArg List.length hfin
      simp only [List.length_append, List.length_cons, List.length_nil, hbl] at hcl
      obtain ⟨a1, ha1⟩ : ∃ a, a = acc ++ [45, 45] := ⟨_, rfl⟩
      obtain ⟨a2, ha2⟩ : ∃ a, a = a1 ++ bnd p := ⟨_, rfl⟩
      have s1 := str_app acc [45, 45]
      have s2 := str_app a1 (bnd p)
      have s3 := str_app a2 [45, 45, 13, 10]
      rw [← ha1] at s1
      rw [← ha2] at s2
      have l1 : a1.length = acc.length + 2 := by rw [ha1]; simp
      have l2 : a2.length = acc.length + 2 + p.length + 1 := by rw [ha2, List.length_append, l1, hbl]; omega
      have n1' : ¬ (9223372036854775807 < acc.length + 2) := by omega
      have n2' : ¬ (9223372036854775807 < a1.length + (bnd p).length) := by omega
      have n3' : ¬ (9223372036854775807 < a2.length + 4) := by omega
      have e3 : a2 ++ [45, 45, 13, 10] = C := by rw [hfin, ha2, ha1]; simp
      have HE3 := Lib.hid e3
      clear hte hfin hbl hcl ha1 ha2 l1 l2 e3
      go_wp2_with (fail)
      refine (H39.out wr).mono ?_
      rintro e w2 ⟨rfl, rfl⟩
      go_wp2
      go_ret
      exact ⟨by rw [← HE3.out]; rfl, HKA.out.trans_no HKR.out⟩
end Go.Proofs.YtjbbapodcngnaaaGreatDoor
namespace Go.Proofs.YtjbbapodcngnaaaGreatDoor
open Go.RowKit Hdr

/-- The fields of a message, from its cells. -/
theorem mlFields_any {m : Ml} (ok : MlOk m) {ha : Option Addr} {hc : Nat} {ka : Option Addr} {kc : Nat} {p : List UInt8} (hp : p.length ≤ 30) {w : World} (hh : RowsAt w 2 (.slice ha m.head.length hc) (m.head.map hdC)) : ∀ W, Keeps No w W →
    Calls Tryz.prog 67 #[mlVal ha m.head.length hc m.kind m.type m.sub m.id m.about m.way m.text ka m.kids.length kc, str p] W (FlPost (fieldsOf m p) W) := by
  intro W K
  have h1 := (tok7_print ok.node.typ).2
  have h2 := (tok7_print ok.node.sb).2
  have e : fieldsOf m p = m.head ++ typeOf m p ++ (saidOf ciK m.id ++ saidOf cdK m.about ++ saidOf ceK m.way) := by unfold fieldsOf; simp
  rw [e]
  exact specFields_any m.head m.kind m.type m.sub m.id m.about m.way m.text p _ ka m.kids.length kc W (hh.keep K) ok.node.heads (by omega) (by omega) (by omega) (typeOf m p) rfl

theorem headerText_ml {m : Ml} (ok : MlOk m) {ha : Option Addr} {hc : Nat} {ka : Option Addr} {kc : Nat} {p : List UInt8} (hp : PlOk p) (hpl : p.length ≤ 30) {w : World} (hh : RowsAt w 2 (.slice ha m.head.length hc) (m.head.map hdC)) : ∀ W, Keeps No w W →
    Calls Tryz.prog 45 #[mlVal ha m.head.length hc m.kind m.type m.sub m.id m.about m.way m.text ka m.kids.length kc, str p, .slice none 0 0, .bool false] W (StrTo (hdrText (fieldsOf m p)) W) := by
  intro W K
  have hf := fields_ok ok hp (by omega)
  have hl := fields_len ok p
  exact headerText_any _ ⟨_, _, _, _, _, _, _, _, _, rfl, ⟨_, _, _, rfl⟩, ⟨_, _, _, rfl⟩⟩ p (fieldsOf m p) W (fun W' K' => mlFields_any ok hpl hh W' (K.trans_no K')) hf (by omega)

/-- The text, and what stands behind the header, wherever they are asked for. -/
theorem text_all (n : Nat) : ∀ (m : Ml), msize m ≤ n → MlOk m → ∀ (p : List UInt8), PlOk p → p.length + msize m ≤ 30 → ∀ (ha : Option Addr) (hc : Nat) (ka : Option Addr) (kc : Nat) (w : World), MlC w m (mlCs (.slice ha m.head.length hc) m.kind m.type m.sub m.id m.about m.way m.text (.slice ka m.kids.length kc)) →
    ∀ W, Keeps No w W → Calls Tryz.prog 18 #[mlVal ha m.head.length hc m.kind m.type m.sub m.id m.about m.way m.text ka m.kids.length kc, str p] W (StrTo (mtext m p) W) ∧
      Calls Tryz.prog 40 #[mlVal ha m.head.length hc m.kind m.type m.sub m.id m.about m.way m.text ka m.kids.length kc, str p] W (StrTo (content m p) W) := by
  induction n with
  | zero => intro m h; have := msize_pos m; omega
  | succ n ih =>
    intro m hm ok p hp hpl ha hc ka kc w h W K
    have hsz := msize_eq m
    obtain ⟨ha', hc', ka', kc', css, he, hh, hms, hr, hcl⟩ := h.form
    simp only [mlCs, List.cons.injEq, Value.slice.injEq, true_and, and_true] at he
    obtain ⟨⟨rfl, rfl⟩, rfl, rfl⟩ := he
    have hlen := (any_lns ok hp hpl).2.2
    have hcle := content_le m p
    have hml : (mtext m p).length ≤ 6000 * 30 := by omega
    have hsum : (hdrText (fieldsOf m p)).length + (content m p).length ≤ 10000000 := by
      have : (mtext m p).length = (hdrText (fieldsOf m p)).length + (content m p).length := by unfold mtext; simp
      omega
    have hkn : m.kids.length ≤ 1000 := by have := msizes_len m.kids; omega
    have hcont : ∀ W, Keeps No w W → Calls Tryz.prog 40 #[mlVal ha m.head.length hc m.kind m.type m.sub m.id m.about m.way m.text ka m.kids.length kc, str p] W (StrTo (content m p) W) := fun W K => by
      refine content_node ha m.head.length hc m.kind m.type m.sub m.id m.about m.way m.text ka kc m.kids p (content m p) css W (MlsC.keep K _ _ hms) (hr.keep K) (fun i k kha khc kka kkc hk hkc W' K' => ?_) hkn (by omega) (content_eq m p).symm (by omega) (fun h2 => ?_)
      · have hmem := List.mem_of_getElem? hk
        have h1 := msizes_mem hmem
        exact (ih k (by omega) (ok.kids.mem hmem) (under p i) (under_ok hp i) (by rw [under_len]; omega) kha khc kka kkc W hkc W' K').1
      · rcases ok.node.knd.all with ⟨h0, _⟩ | ⟨h0, _⟩ | ⟨_, h1, _⟩
        · omega
        · omega
        · exact h1
    refine ⟨?_, hcont W K⟩
    exact mailText_node ha m.head.length hc m.kind m.type m.sub m.id m.about m.way m.text ka m.kids.length kc p (hdrText (fieldsOf m p)) (content m p) W (fun W' K' => headerText_ml ok hp (by omega) hh W' (K.trans_no K')) (fun W' K' => hcont W' (K.trans_no K')) hsum
end Go.Proofs.YtjbbapodcngnaaaGreatDoor
namespace Go.Proofs.YtjbbapodcngnaaaGreatDoor
open Go.RowKit Hdr

theorem nlf_snoc (l : List UInt8) (c : UInt8) : nlf (l ++ [c]) = nlf l + (if c = 10 then 1 else 0) := by
  unfold nlf
  rw [List.countP_append]
  by_cases h : c = 10
  · subst h; simp
  · rw [if_neg h]; simp [h]

set_option maxRecDepth 100000 in
set_option maxHeartbeats 1000000 in
theorem lines_any (l : List UInt8) (w : World) (hlen : l.length ≤ 1000000000) :
    Calls Tryz.prog 41 #[str l] w fun e w' => e = .returned (.int .i64 (nlf l)) ∧ w' = w := by
  have hls := str_len l
  go_enter Tryz.func41, Tryz.ntmps41
  go_wp2
  go_loopg [3, 4] l.length (fun n s3 s4 wr => ∃ (j k : Nat), s4 = .int .i64 (j : Int) ∧ s3 = .int .i64 (k : Int) ∧ j + n = l.length ∧ k = nlf (l.take j) ∧ k ≤ j ∧ w = wr)
  case atStart => exact ⟨0, 0, rfl, rfl, by omega, rfl, Nat.le_refl _, rfl⟩
  case round =>
    obtain ⟨j, k, rfl, rfl, hjn, hk, hkj, rfl⟩ := hrel
    have HJN := Lib.hid hjn
    have HK := Lib.hid hk
    have hjl : j ≤ l.length := by omega
    clear hjn hk
    by_cases hj : j < l.length
    · have hx := str_get l j hj
      have htk : l.take (j + 1) = l.take j ++ [l[j]] := List.take_succ_eq_append_getElem hj
      have hnx := nlf_snoc (l.take j) l[j]
      rw [← htk] at hnx
      generalize l[j] = c at *
      have HNX := Lib.hid hnx
      have hjj : (j : Int) < (l.length : Int) := by omega
      have hm : c.toNat < 256 := c.toNat_lt
      clear htk hnx
      by_cases hc : c = 10
      · subst hc
        have HC := Lib.hid (show nlf (l.take (j + 1)) = k + 1 by rw [HNX.out, ← HK.out, if_pos rfl])
        go_wp2
        go_roundg (gk - 1)
        case measure => have := HJN.out; omega
        case rel => exact ⟨j + 1, k + 1, by simp, by simp, by have := HJN.out; omega, HC.out.symm, by omega, rfl⟩
      · have e1 : ((c.toNat : Int) == 10) = false := by
          simp only [beq_eq_false_iff_ne, ne_eq]
          intro h
          exact hc (UInt8.toNat.inj (by show c.toNat = 10; omega))
        have HC := Lib.hid (show nlf (l.take (j + 1)) = k by rw [HNX.out, ← HK.out, if_neg hc]; rfl)
        clear hc
        go_wp2
        go_roundg (gk - 1)
        case measure => have := HJN.out; omega
        case rel => exact ⟨j + 1, k, by simp, rfl, by have := HJN.out; omega, HC.out.symm, by omega, rfl⟩
    · have hjn : j = l.length := by omega
      have e1 : decide (j < l.length) = false := decide_eq_false hj
      have e2 : decide ((j : Int) < (l.length : Int)) = false := decide_eq_false (by omega)
      have hfin : k = nlf l := by have := HK.out; rwa [hjn, List.take_length] at this
      have HF := Lib.hid hfin
      clear hjn hfin
      go_wp2
      go_ret
      exact ⟨by rw [← HF.out]; rfl, rfl⟩

set_option maxRecDepth 100000 in
set_option maxHeartbeats 2000000 in
theorem token7_any (l : List UInt8) (w : World) (hlen : l.length ≤ 9223372036854775807) :
    Calls Tryz.prog 59 #[str l] w fun e w' => e = .returned (.bool (tok7 l)) ∧ w' = w := by
  have hls := str_len l
  generalize ht7 : tok7 l = t7
  have HT7 := Lib.hid ht7
  clear ht7
  go_enter Tryz.func59, Tryz.ntmps59
  go_wp2
  go_loopg [3] l.length (fun n s3 wr => ∃ j : Nat, s3 = .int .i64 (j : Int) ∧ j + n = l.length ∧ (l.take j).all t7b = true ∧ w = wr)
  case atStart => exact ⟨0, rfl, by omega, rfl, rfl⟩
  case round =>
    obtain ⟨j, rfl, hjn, hal, rfl⟩ := hrel
    have HJN := Lib.hid hjn
    have HAL := Lib.hid hal
    have hjl : j ≤ l.length := by omega
    clear hjn hal
    by_cases hj : j < l.length
    · have hx := str_get l j hj
      have htk : l.take (j + 1) = l.take j ++ [l[j]] := List.take_succ_eq_append_getElem hj
      have hmem : l[j] ∈ l := List.getElem_mem _
      generalize l[j] = c at *
      have HTK := Lib.hid htk
      have HMEM := Lib.hid hmem
      have hjj : (j : Int) < (l.length : Int) := by omega
      have hm : c.toNat < 256 := c.toNat_lt
      clear htk hmem
      have hgo : t7b c = true → (l.take (j + 1)).all t7b = true := fun h => by
        rw [HTK.out, List.all_append, HAL.out]
        simp [h]
      have hno : t7b c = false → t7 = false := fun h => by
        rw [← HT7.out]
        unfold tok7
        have : l.all t7b = false := by
          cases h2 : l.all t7b with
          | false => rfl
          | true =>
            rw [List.all_eq_true] at h2
            rw [h2 c HMEM.out] at h
            cases h
        rw [this]
        rfl
      have HGO := Lib.hid hgo
      have HNO := Lib.hid hno
      clear hgo hno
      have hr : c.toNat < 48 ∨ (48 ≤ c.toNat ∧ c.toNat ≤ 57) ∨ (58 ≤ c.toNat ∧ c.toNat ≤ 96) ∨ (97 ≤ c.toNat ∧ c.toNat ≤ 122) ∨ 123 ≤ c.toNat := by omega
      rcases hr with hq | hq | hq | hq | hq
      · have a1 : decide ((c.toNat : Int) < 97) = true := decide_eq_true (by omega)
        have a5 : decide ((c.toNat : Int) < 48) = true := decide_eq_true (by omega)
        have HH := Lib.hid (HNO.out (decide_eq_false (by unfold t7N; omega)))
        go_wp2
        go_ret
        exact ⟨by rw [HH.out]; rfl, rfl⟩
      · have a1 : decide ((c.toNat : Int) < 97) = true := decide_eq_true (by omega)
        have a5 : decide ((c.toNat : Int) < 48) = false := decide_eq_false (by omega)
        have a6 : decide ((57 : Int) < (c.toNat : Int)) = false := decide_eq_false (by omega)
        have HH := Lib.hid (HGO.out (decide_eq_true (by unfold t7N; omega)))
        go_wp2
        go_roundg (gk - 1)
        case measure => have := HJN.out; omega
        case rel => exact ⟨j + 1, by simp, by have := HJN.out; omega, HH.out, rfl⟩
      · have a1 : decide ((c.toNat : Int) < 97) = true := decide_eq_true (by omega)
        have a5 : decide ((c.toNat : Int) < 48) = false := decide_eq_false (by omega)
        have a6 : decide ((57 : Int) < (c.toNat : Int)) = true := decide_eq_true (by omega)
        have HH := Lib.hid (HNO.out (decide_eq_false (by unfold t7N; omega)))
        go_wp2
        go_ret
        exact ⟨by rw [HH.out]; rfl, rfl⟩
      · have a1 : decide ((c.toNat : Int) < 97) = false := decide_eq_false (by omega)
        have a2 : decide ((122 : Int) < (c.toNat : Int)) = false := decide_eq_false (by omega)
        have HH := Lib.hid (HGO.out (decide_eq_true (by unfold t7N; omega)))
        go_wp2
        go_roundg (gk - 1)
        case measure => have := HJN.out; omega
        case rel => exact ⟨j + 1, by simp, by have := HJN.out; omega, HH.out, rfl⟩
      · have a1 : decide ((c.toNat : Int) < 97) = false := decide_eq_false (by omega)
        have a2 : decide ((122 : Int) < (c.toNat : Int)) = true := decide_eq_true (by omega)
        have a5 : decide ((c.toNat : Int) < 48) = false := decide_eq_false (by omega)
        have a6 : decide ((57 : Int) < (c.toNat : Int)) = true := decide_eq_true (by omega)
        have HH := Lib.hid (HNO.out (decide_eq_false (by unfold t7N; omega)))
        go_wp2
        go_ret
        exact ⟨by rw [HH.out]; rfl, rfl⟩
    · have hjn : j = l.length := by omega
      have e1 : decide (j < l.length) = false := decide_eq_false hj
      have e2 : decide ((j : Int) < (l.length : Int)) = false := decide_eq_false (by omega)
      have hall : l.all t7b = true := by have := HAL.out; rwa [hjn, List.take_length] at this
      have ht : t7 = decide (l.length ≤ 20) := by
        rw [← HT7.out]
        unfold tok7
        rw [hall]
        rfl
      have HT := Lib.hid ht
      clear hjn hall ht
      by_cases h20 : l.length ≤ 20
      · have e3 : decide (l.length ≤ 20) = true := decide_eq_true h20
        have e4 : decide ((l.length : Int) ≤ 20) = true := decide_eq_true (by omega)
        go_wp2
        go_ret
        exact ⟨by rw [HT.out, e3]; rfl, rfl⟩
      · have e3 : decide (l.length ≤ 20) = false := decide_eq_false h20
        have e4 : decide ((l.length : Int) ≤ 20) = false := decide_eq_false (by omega)
        go_wp2
        go_ret
        exact ⟨by rw [HT.out, e3]; rfl, rfl⟩

end Go.Proofs.YtjbbapodcngnaaaGreatDoor
namespace Go.Proofs.YtjbbapodcngnaaaGreatDoor
open Go.RowKit Hdr

set_option maxRecDepth 100000 in
set_option maxHeartbeats 2000000 in
theorem saying_any (l : List UInt8) (w : World) (hlen : l.length ≤ 9223372036854775807) :
    Calls Tryz.prog 60 #[str l] w fun e w' => ∃ b : Bool, e = .returned (.bool b) ∧ (b = true → Says l) ∧ w' = w := by
  have hls := str_len l
  by_cases h60 : 60 < l.length
  · have e1 : decide ((60 : Int) < (l.length : Int)) = true := decide_eq_true (by omega)
    go_enter Tryz.func60, Tryz.ntmps60
    go_wp2
    go_ret
    exact ⟨false, rfl, (fun h => by cases h), rfl⟩
  · have e1 : decide ((60 : Int) < (l.length : Int)) = false := decide_eq_false (by omega)
    cases l with
    | nil =>
      go_enter Tryz.func60, Tryz.ntmps60
      go_wp2
      refine wp_loop_rounds 1 ?_
      rw [rounds_succ]
      go_wp2
      go_ret
      exact ⟨true, rfl, fun _ => ⟨by simp, by simp, by simp, by simp⟩, rfl⟩
    | cons x r =>
      have hg0 := str_get (x :: r) 0 (by simp)
      have hgn := str_get (x :: r) r.length (by simp)
      rw [List.getElem_cons_zero] at hg0
      have hlast : (x :: r).getLast? = some ((x :: r)[r.length]'(by simp)) := by
        rw [List.getLast?_eq_getElem?]
        simp
      generalize (x :: r)[r.length]'(by simp) = y at *
      have HLAST := Lib.hid hlast
      rw [List.length_cons] at hls h60 hlen e1
      have b1 : (r.length : Int) < (r.length : Int) + 1 := by omega
      have hk : ∀ (c d : UInt8), ((c.toNat : Int) == (d.toNat : Int)) = (c == d) := fun c d => by
        rw [Bool.eq_iff_iff, beq_iff_eq, beq_iff_eq]
        exact ⟨fun h => UInt8.toNat.inj (by omega), fun h => by rw [h]⟩
      have kx : ((x.toNat : Int) == 32) = (x == 32) := hk x 32
      have ky : ((y.toNat : Int) == 32) = (y == 32) := hk y 32
      clear hk hlast
      cases hx : (x == 32) with
      | true =>
        rw [hx] at kx
        clear hx
        go_enter Tryz.func60, Tryz.ntmps60
        go_wp2
        go_ret
        exact ⟨false, rfl, (fun h => by cases h), rfl⟩
      | false =>
        cases hy : (y == 32) with
        | true =>
          rw [hx] at kx
          rw [hy] at ky
          clear hx hy
          go_enter Tryz.func60, Tryz.ntmps60
          go_wp2
          go_ret
          exact ⟨false, rfl, (fun h => by cases h), rfl⟩
        | false =>
          have HX := Lib.hid hx
          have HY := Lib.hid hy
          rw [hx] at kx
          rw [hy] at ky
          clear hx hy
          clear hg0 hgn
          have hq0 : (x :: r)[0]? = some x := rfl
          have hqn : (x :: r)[r.length]? = some y := by rw [← HLAST.out, List.getLast?_eq_getElem?]; simp
          have hqh : (x :: r).head? = some x := rfl
          have hqe : (x :: r).isEmpty = false := rfl
          have hll : (x :: r).length = r.length + 1 := rfl
          generalize hl : x :: r = l at *
          clear hl
          have g0 := str_get_of hq0 (by rw [str_len]; omega)
          have gn := str_get_of hqn (by rw [str_len]; omega)
          have HQH := Lib.hid hqh
          clear hq0 hqn hqh
          go_enter Tryz.func60, Tryz.ntmps60
          go_wp2
          go_loopg [3] l.length (fun n s3 wr => ∃ j : Nat, s3 = .int .i64 (j : Int) ∧ j + n = l.length ∧ (∀ c ∈ l.take j, 32 ≤ c.toNat ∧ c.toNat ≤ 126) ∧ w = wr)
          case atStart => exact ⟨0, rfl, by omega, by simp, rfl⟩
          case round =>
            obtain ⟨j, rfl, hjn, hal, rfl⟩ := hrel
            have HAL := Lib.hid hal
            clear hal
            by_cases hj : j < l.length
            · have hx := str_get l j hj
              have htk : l.take (j + 1) = l.take j ++ [l[j]] := List.take_succ_eq_append_getElem hj
              generalize l[j] = c at *
              have HTK := Lib.hid htk
              have e5 : decide ((j : Int) < (r.length : Int) + 1) = true := decide_eq_true (by omega)
              have b5 : (j : Int) < (r.length : Int) + 1 := by omega
              have hw1 : IntKind.i64.wrap ((j : Int) + 1) = (j : Int) + 1 := IntWalk.i64_in _ (by omega)
              clear htk g0 gn
              by_cases h1 : c.toNat < 32
              · have e6 : decide ((c.toNat : Int) < 32) = true := decide_eq_true (by omega)
                go_wp2
                go_ret
                exact ⟨false, rfl, (fun h => by cases h), rfl⟩
              · have e6 : decide ((c.toNat : Int) < 32) = false := decide_eq_false (by omega)
                by_cases h2 : 126 < c.toNat
                · have e7 : decide ((126 : Int) < (c.toNat : Int)) = true := decide_eq_true (by omega)
                  go_wp2
                  go_ret
                  exact ⟨false, rfl, (fun h => by cases h), rfl⟩
                · have e7 : decide ((126 : Int) < (c.toNat : Int)) = false := decide_eq_false (by omega)
                  go_wp2
                  go_roundg (gk - 1)
                  case measure => omega
                  case rel =>
                    refine ⟨j + 1, by simp, by omega, fun d hd => ?_, rfl⟩
                    rw [HTK.out] at hd
                    rcases List.mem_append.1 hd with hd | hd
                    · exact HAL.out d hd
                    · rw [List.mem_singleton] at hd
                      subst hd
                      omega
            · have e5 : decide ((j : Int) < (r.length : Int) + 1) = false := decide_eq_false (by omega)
              have hjl : l.take j = l := List.take_of_length_le (by omega)
              have HJL := Lib.hid hjl
              clear g0 gn hjl
              go_wp2
              go_ret
              refine ⟨true, rfl, fun _ => ⟨by omega, by rw [← HJL.out]; exact HAL.out, ?_, ?_⟩, rfl⟩
              · rw [HQH.out]
                intro e
                injection e with e
                have := HX.out
                rw [e] at this
                cases this
              · rw [HLAST.out]
                intro e
                injection e with e
                have := HY.out
                rw [e] at this
                cases this
end Go.Proofs.YtjbbapodcngnaaaGreatDoor
