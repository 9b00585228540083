/- FnEntryBuilderTextReadsBack (4): the walk. -/
import Derived.Test.Qxb6604050aZZ
import Derived.BigRegion
import Derived.Deep.DeepCutAuto
namespace Go.Proofs.Qxb6604050a
open Go.RowKit
set_option linter.unusedVariables false
set_option linter.unusedSimpArgs false
attribute [local go_sem ↓] Go.wp_at_zero Go.wp_at_succ

/-- The law's answer. -/
def LawPost (w : World) (e : Ending) (w' : World) : Prop := e = .returned (.bool true) ∧ Below w.heap.size w w'

/-- What stands behind the copies. -/
structure Mid (w : World) (n n2 m : Nat) (b : Option Addr) (c2 : Nat) (S T2 T : Nat → Int) (v0 v3 : Value) (wc : World) : Prop where
  bel : Below w.heap.size w wc
  src : ∃ a c, v0 = .slice a n c ∧ Arg wc a n c S
  txt : ∃ t d, v3 = .slice t m d ∧ Arg wc t m d T
  more : Arg wc b n2 c2 T2

theorem own_none (a : Option Addr) (n c : Nat) : (Value.slice a n c).ownBlock = none ↔ a = none := by
  cases a with
  | none => exact ⟨fun _ => rfl, fun _ => rfl⟩
  | some x => exact ⟨fun h => (by cases h), fun h => (by cases h)⟩

theorem isNone_eq {a b : Option Addr} (h : a = none ↔ b = none) : (a.isNone == b.isNone) = true := by
  cases a <;> cases b <;> simp_all

theorem app_left (n m : Nat) (S T : Nat → Int) (k : Nat) (hk : k < n) : (listOf n S ++ listOf m T).getD k 0 = S k := by
  rw [List.getD_eq_getElem?_getD, List.getElem?_append_left (by rw [listOf_length]; exact hk), ← List.getD_eq_getElem?_getD, listOf_getD n S k hk]
theorem app_right (n m : Nat) (S T : Nat → Int) (k : Nat) (hk : k < m) : (listOf n S ++ listOf m T).getD (n + k) 0 = T k := by
  rw [List.getD_eq_getElem?_getD, List.getElem?_append_right (by rw [listOf_length]; omega), listOf_length, Nat.add_sub_cancel_left, ← List.getD_eq_getElem?_getD, listOf_getD m T k hk]

theorem mem_below {B : Nat} {w w1 w2 : World} (hb : Below B w w1) (hm : Mem w1 w2) : Below B w w2 :=
  hb.trans ⟨hm.os, hm.tape, hm.output, by rw [hm.heap]; exact Nat.le_refl _, fun k _ => by rw [hm.heap]⟩

theorem touch_below {w w1 w2 : World} (h : Below w.heap.size w w1) (ht : Touch (fun _ => False) w1 w2) : Below w.heap.size w w2 := h.trans (ht.below h.size fun _ h => h.elim)

theorem Mid.copied0 {w wc W2 : World} {n n2 m c2 g : Nat} {b : Option Addr} {S T2 T : Nat → Int} {v0 v3 : Value} (h : Mid w n n2 m b c2 S T2 T v0 v3 wc) (hown : W2.ownsRow w.heap.size 5 1 (.slice (some ⟨g, 0, none⟩) n n) n (ints (listOf n S))) (hT : Touch (fun _ => False) wc W2) :
    Mid w n n2 m b c2 S T2 T (.slice (some ⟨g, 0, none⟩) n n) v3 W2 := by
  obtain ⟨t, d, e3, h3⟩ := h.txt
  exact ⟨touch_below h.bel hT, ⟨_, _, rfl, ⟨Rb.ofRow hown, fun h => by cases h⟩⟩, ⟨t, d, e3, h3.touch hT⟩, h.more.touch hT⟩

theorem Mid.copied3 {w wc W2 : World} {n n2 m c2 g : Nat} {b : Option Addr} {S T2 T : Nat → Int} {v0 v3 : Value} (h : Mid w n n2 m b c2 S T2 T v0 v3 wc) (hown : W2.ownsRow w.heap.size 5 1 (.slice (some ⟨g, 0, none⟩) m m) m (ints (listOf m T))) (hT : Touch (fun _ => False) wc W2) :
    Mid w n n2 m b c2 S T2 T v0 (.slice (some ⟨g, 0, none⟩) m m) W2 := by
  obtain ⟨t, d, e3, h3⟩ := h.src
  exact ⟨touch_below h.bel hT, ⟨t, d, e3, h3.touch hT⟩, ⟨_, _, rfl, ⟨Rb.ofRow hown, fun h => by cases h⟩⟩, h.more.touch hT⟩

set_option maxHeartbeats 4000000 in
set_option maxRecDepth 100000 in
theorem law4_copy (a b t : Option Addr) (n c n2 c2 m d : Nat) (S T2 T : Nat → Int) (size q : Int) (w : World) (h0 : Arg w a n c S) (h1 : Arg w b n2 c2 T2) (h3 : Arg w t m d T) (hq : q < 0) (hs : (Lit.int .i64 size).wf = true) :
    Calls Try.prog 4 #[.slice a n c, .slice b n2 c2, .int .i64 size, .slice t m d, .int .i64 q] w (LawPost w) := by
  have hn := h0.rd.1; have hc := h0.rd.2.1
  have hn2 := h1.rd.1; have hc2 := h1.rd.2.1
  have hm := h3.rd.1; have hd := h3.rd.2.1
  have HG9 : Hid (Calls Try.prog 9 #[.slice a n c, .slice b n2 c2, .int .i64 size, .slice t m d, .int .i64 q] w (BoolPost w)) := guard9 a b t n c n2 c2 m d size q w (by omega) (by omega) (by omega)
  have HM : Hid (Mid w n n2 m b c2 S T2 T (.slice a n c) (.slice t m d) w) := ⟨Below.refl _ _, ⟨a, c, rfl, h0⟩, ⟨t, d, rfl, h3⟩, h1⟩
  unfold maxLen at hc hc2 hd
  clear h0 h1 h3
  have hneq := fun w a n c => run_neq_slice_nil_any (P := Try.prog) w 22 5 a n c 0 0 Try.underlying22
  have heq := fun w a n c => Lib.run_eql_slice_nil (P := Try.prog) w 22 5 a n c 0 0 Try.underlying22
  go_enter Try.func4, Try.ntmps4
  go_wp2_with fail
  refine HG9.out.mono ?_
  rintro e w1 ⟨r, rfl, rfl⟩
  cases r
  · go_wp2
    go_ret
    exact ⟨rfl, HM.out.bel⟩
  by_cases l1 : n ≤ 262144
  case neg =>
    go_wp2
    go_ret
    exact ⟨rfl, HM.out.bel⟩
  by_cases l2 : n2 ≤ 262144
  case neg =>
    go_wp2
    go_ret
    exact ⟨rfl, HM.out.bel⟩
  by_cases l3 : m ≤ 262144
  case neg =>
    go_wp2
    go_ret
    exact ⟨rfl, HM.out.bel⟩
  go_upto_if 57 with fail
  go_cut [0, 11] (fun v0 _ wc => Hid (Mid w n n2 m b c2 S T2 T v0 (.slice t m d) wc))
  case first =>
    cases a with
    | none =>
      go_wp2
      go_meet
      case rel => exact HM.out
    | some x =>
      obtain ⟨bel, ⟨a', c', e', hA⟩, hX, hY⟩ := HM.out
      cases e'
      obtain ⟨W1, W2, cv, hmk, hT1, hcp, hown, hT2, hsz⟩ := bytesRow w.heap.size w (some x) n c S hA.rd (by omega) (Nat.le_refl _)
      have HP : Hid (Mid w n n2 m b c2 S T2 T (.slice (some ⟨w.heap.size, 0, none⟩) n n) (.slice t m d) W2) := Mid.copied0 HM.out hown hT2
      clear hX hY hA hown hT1 hT2 bel
      go_wp2
      go_meet
      case rel => exact HP.out
  case rest =>
    obtain ⟨v0, hv0⟩ : ∃ v0, v0 = u0 := ⟨_, rfl⟩
    rw [← hv0] at hcut ⊢
    clear hv0 HM
    obtain ⟨a', c', e', hA⟩ := hcut.out.src
    have hcut' := hcut
    have ha1 := hA.rd.1
    have ha2 := hA.rd.2.1
    unfold maxLen at ha2
    subst e'
    clear hA hcut
    go_upto_if 66 with fail
    go_cut [0, 3, 12] (fun v0 v3 _ wd => v0 = .slice a' n c' ∧ Hid (Mid w n n2 m b c2 S T2 T (.slice a' n c') v3 wd))
    case first =>
      cases t with
      | none =>
        go_wp2
        go_meet
        case rel => exact ⟨rfl, hcut'.out⟩
      | some x =>
        obtain ⟨bel, hX, ⟨t', d', e', hA⟩, hY⟩ := hcut'.out
        cases e'
        obtain ⟨W1, W2, cv, hmk, hT1, hcp, hown, hT2, hsz⟩ := bytesRow w.heap.size wc (some x) m d T hA.rd (by omega) bel.size
        have HP : Hid (Mid w n n2 m b c2 S T2 T (.slice a' n c') (.slice (some ⟨wc.heap.size, 0, none⟩) m m) W2) := Mid.copied3 hcut'.out hown hT2
        clear hX hY hA hown hT1 hT2 bel
        go_wp2
        go_meet
        case rel => exact ⟨rfl, HP.out⟩
    case rest =>
      obtain ⟨hu0, hcut⟩ := hcut
      obtain ⟨v0, hv0⟩ : ∃ v0, v0 = u0 := ⟨_, rfl⟩
      obtain ⟨v3, hv3⟩ : ∃ v3, v3 = u3 := ⟨_, rfl⟩
      rw [← hv0] at hu0 ⊢
      rw [← hv3] at hcut ⊢
      clear hv0 hv3 hcut'
      obtain ⟨bel, ⟨a1, c1, e1, hA⟩, ⟨t1, d1, e3, hX⟩, hY⟩ := hcut.out
      cases e1
      subst hu0 e3
      clear hcut
      obtain ⟨W0, hW0⟩ : ∃ W0 : World, W0 = wc := ⟨_, rfl⟩
      rw [← hW0] at bel hA hX hY ⊢
      clear hW0
      have ht1 := hX.rd.1; have ht2 := hX.rd.2.1
      unfold maxLen at ht2
      have HC1 : Hid (Calls Try.prog 11 #[.slice b n2 c2] W0 (ClonePost w.heap.size b n2 T2 W0)) := clone11_any _ _ _ _ _ _ hY (by omega) bel.size
      have HA : Hid (Below w.heap.size w W0 ∧ Arg W0 a' n c' S ∧ Arg W0 t1 m d1 T) := ⟨bel, hA, hX⟩
      clear bel hA hX hY
      go_wp2_with fail
      refine HC1.out.mono ?_
      rintro e W1 ⟨v1, rfl, ho1, hf1, hn1, hT1⟩
      obtain ⟨b1, e1, rfl, y1, y2⟩ := ownsRow_slice ho1
      unfold maxLen at y2
      have HC2 : Hid (Calls Try.prog 11 #[.slice b1 n2 e1] W1 (ClonePost w.heap.size b1 n2 T2 W1)) := clone11_any _ _ _ _ _ _ (Arg.ofRow ho1) (by omega) (Nat.le_trans HA.out.1.size hT1.size)
      have HR1 : Hid (W1.ownsRow w.heap.size 5 1 (.slice b1 n2 e1) n2 (ints (listOf n2 T2)) ∧ (∀ k, (Value.slice b1 n2 e1).ownBlock = some k → W0.heap.size ≤ k) ∧ Touch (fun _ => False) W0 W1) := ⟨ho1, hf1, hT1⟩
      clear ho1 hf1 hn1 hT1
      go_wp2_with fail
      refine HC2.out.mono ?_
      rintro e W2 ⟨v2, rfl, ho2, hf2, hn2', hT2⟩
      obtain ⟨b2, e2, rfl, z1, z2⟩ := ownsRow_slice ho2
      unfold maxLen at z2
      have hll := listOf_length n2 T2
      have HC3 : Hid (Calls Try.prog 12 #[.slice a' n c', .slice b1 n2 e1, .int .i64 size, .slice t1 m d1, .int .i64 q] W2 (ZZPost w.heap.size (.slice b1 n2 e1) size (n + n2) m (listOf n2 T2) (listOf m T) W2)) := by
        obtain ⟨bel, hA, hX⟩ := HA.out
        obtain ⟨ho1, hf1, hT1⟩ := HR1.out
        have := zz12_copy n c' m d1 w.heap.size q a' t1 T (.slice b1 n2 e1) (listOf n2 T2) size W2 (by rw [hll]; exact ownsRow_touch ho1 hT2 fun _ _ h => h) ((hX.touch hT1).touch hT2) (Nat.le_trans (Nat.le_trans bel.size hT1.size) hT2.size) hq (by omega) (by rw [hll]; omega) (by omega)
        rw [hll] at this
        exact this
      have HR2 : Hid (W2.ownsRow w.heap.size 5 1 (.slice b2 n2 e2) n2 (ints (listOf n2 T2)) ∧ (∀ k, (Value.slice b2 n2 e2).ownBlock = some k → W1.heap.size ≤ k) ∧ ((Value.slice b2 n2 e2).ownBlock = none ↔ b1 = none) ∧ Touch (fun _ => False) W1 W2) := ⟨ho2, hf2, hn2', hT2⟩
      clear ho2 hf2 hn2' hT2 hll
      go_wp2_with fail
      refine HC3.out.mono ?_
      rintro e W3 ⟨v', z, rfl, hz, hG, hT3⟩
      obtain ⟨a3, e3, rfl, x1, x2⟩ := ownsRow_slice hG.owns
      have hll : (listOf n2 T2 ++ listOf m T).length = n2 + m := by rw [List.length_append, listOf_length, listOf_length]
      rw [hll] at hG x1 ⊢
      unfold maxLen at x2
      subst hz
      obtain ⟨bel, hA, hX⟩ := HA.out
      obtain ⟨ho1, hf1, hT1⟩ := HR1.out
      obtain ⟨ho2, hf2, hn2', hT2⟩ := HR2.out
      have T03 : Touch (fun k => (Value.slice b1 n2 e1).ownBlock = some k) W0 W3 := ((hT1.mono fun _ _ h => h.elim).trans hT2 fun _ _ h => h.elim).trans hT3 fun _ _ h => h
      have belE : Below w.heap.size w W3 := bel.trans (T03.below bel.size fun k hk => ownsRow_ge ho1 hk)
      have rA : Rb W3 a' n c' S := hA.rd.touch T03 fun x hx h0 e => by have := hf1 _ e; have := hA.rd.lt x hx h0; omega
      have rX : Rb W3 t1 m d1 T := hX.rd.touch T03 fun x hx h0 e => by have := hf1 _ e; have := hX.rd.lt x hx h0; omega
      have r2 : Rb W3 b2 n2 e2 T2 := Rb.ofRow (ownsRow_touch ho2 hT3 fun k hk e => by have := hf2 _ hk; have := (ownsRow_lt ho1 e).2; omega)
      have r3 : Rb W3 a3 (n2 + m) e3 (fun k => (listOf n2 T2 ++ listOf m T).getD k 0) := by
        obtain ⟨a9, c9, e9, h9⟩ := Rb.ofOwns (B := w.heap.size) (v := .slice a3 (n2 + m) e3) (l := listOf n2 T2 ++ listOf m T) (w := W3) hG.owns
        rw [hll] at e9 h9
        cases e9
        exact h9
      have HC4 : Hid (Calls Try.prog 13 #[.slice b2 n2 e2, .slice a3 (n2 + m) e3, .int .i64 0, .int .i64 (n2 : Int)] W3 (SaysPost _ W3)) := range13 b2 a3 n2 e2 (n2 + m) e3 T2 _ W3 r2 r3 (by omega)
      have HS4 : Hid (∀ k, k < n2 → T2 k = (listOf n2 T2 ++ listOf m T).getD k 0) := fun k hk => (app_left n2 m T2 T k hk).symm
      have HC5 : Hid (∀ W4, Mem W3 W4 → Calls Try.prog 15 #[.slice a' n c', .slice a3 (n2 + m) e3, .int .u32 ((n + n2 : Nat) : Int), .int .u32 ((n + n2 + m : Nat) : Int), .slice t1 m d1] W4 (TruePost W4)) := fun W4 hM =>
        reads15 a' a3 t1 n c' (n2 + m) e3 m d1 (n + n2) S _ T W4 (rA.mem hM) (r3.mem hM) (rX.mem hM) (by omega) (by omega) (by omega) (fun k hk => by
          unfold atStore
          rw [if_neg (by omega), show n + n2 + k - n = n2 + k by omega]
          exact app_right n2 m T2 T k hk)
      have hnil : m = 0 → (a3.isNone == b2.isNone) = true := fun hm0 => isNone_eq (by
        subst hm0
        rw [← own_none a3 (n2 + 0) e3, hG.same rfl, own_none, ← hn2', own_none])
      have HB : Hid (Below w.heap.size w W3) := belE
      have w1 : IntKind.i64.wrap ((n2 : Int) + (m : Int)) = (n2 : Int) + (m : Int) := by rw [IntKind.wrap_i64]; omega
      have w2 : IntKind.i64.wrap ((n : Int) + (n2 : Int)) = (n : Int) + (n2 : Int) := by rw [IntKind.wrap_i64]; omega
      clear bel hA hX ho1 hf1 hT1 ho2 hf2 hn2' hT2 T03 belE rA rX r2 r3 hG hT3 hll
      by_cases hm0 : m = 0
      · have hx := hnil hm0
        have hmm : ((m : Int) == 0) = true := by simp [hm0]
        have hmm' : decide ((m : Int) = 0) = true := by simp [hm0]
        clear hnil hm0
        go_wp2_with fail
        refine HC4.out.mono ?_
        rintro e W4 ⟨r, rfl, hM, hr⟩
        obtain rfl : r = true := hr.2 HS4.out
        have HM : Hid (Mem W3 W4) := hM
        clear hM hr
        go_wp2_with fail
        refine (HC5.out W4 HM.out).mono ?_
        rintro e W5 ⟨rfl, hM⟩
        have HM5 : Hid (Mem W4 W5) := hM
        clear hM
        go_wp2
        go_ret
        exact ⟨rfl, mem_below (mem_below HB.out HM.out) HM5.out⟩
      · have hmm : ((m : Int) == 0) = false := by simp [hm0]
        have hmm' : decide ((m : Int) = 0) = false := by simp [hm0]
        clear hnil hm0
        go_wp2_with fail
        refine HC4.out.mono ?_
        rintro e W4 ⟨r, rfl, hM, hr⟩
        obtain rfl : r = true := hr.2 HS4.out
        have HM : Hid (Mem W3 W4) := hM
        clear hM hr
        go_wp2_with fail
        refine (HC5.out W4 HM.out).mono ?_
        rintro e W5 ⟨rfl, hM⟩
        have HM5 : Hid (Mem W4 W5) := hM
        clear hM
        go_wp2
        go_ret
        exact ⟨rfl, mem_below (mem_below HB.out HM.out) HM5.out⟩
theorem Mid.mem {w wc W2 : World} {n n2 m c2 : Nat} {b : Option Addr} {S T2 T : Nat → Int} {v0 v3 : Value} (h : Mid w n n2 m b c2 S T2 T v0 v3 wc) (hT : Mem wc W2) : Mid w n n2 m b c2 S T2 T v0 v3 W2 := by
  obtain ⟨t, d, e3, h3⟩ := h.src
  obtain ⟨t', d', e3', h3'⟩ := h.txt
  exact ⟨mem_below h.bel hT, ⟨t, d, e3, h3.rd.mem hT, h3.nil⟩, ⟨t', d', e3', h3'.rd.mem hT, h3'.nil⟩, h.more.rd.mem hT, h.more.nil⟩

set_option maxHeartbeats 4000000 in
set_option maxRecDepth 100000 in
theorem law4_in (a b t : Option Addr) (n c n2 c2 m d : Nat) (S T2 T : Nat → Int) (size : Int) (q : Nat) (w : World) (h0 : Arg w a n c S) (h1 : Arg w b n2 c2 T2) (h3 : Arg w t m d T) (hqi : q ≤ 9223372036854775807) (hs : (Lit.int .i64 size).wf = true) :
    Calls Try.prog 4 #[.slice a n c, .slice b n2 c2, .int .i64 size, .slice t m d, .int .i64 (q : Int)] w (LawPost w) := by
  have hn := h0.rd.1; have hc := h0.rd.2.1
  have hn2 := h1.rd.1; have hc2 := h1.rd.2.1
  have hm := h3.rd.1; have hd := h3.rd.2.1
  have HG9 : Hid (Calls Try.prog 9 #[.slice a n c, .slice b n2 c2, .int .i64 size, .slice t m d, .int .i64 (q : Int)] w (BoolPost w)) := guard9 a b t n c n2 c2 m d size (q : Int) w (by omega) (by omega) (by omega)
  have HM : Hid (Mid w n n2 m b c2 S T2 T (.slice a n c) (.slice t m d) w) := ⟨Below.refl _ _, ⟨a, c, rfl, h0⟩, ⟨t, d, rfl, h3⟩, h1⟩
  unfold maxLen at hc hc2 hd
  clear h0 h1 h3
  have hneq := fun w a n c => run_neq_slice_nil_any (P := Try.prog) w 22 5 a n c 0 0 Try.underlying22
  have heq := fun w a n c => Lib.run_eql_slice_nil (P := Try.prog) w 22 5 a n c 0 0 Try.underlying22
  go_enter Try.func4, Try.ntmps4
  go_wp2_with fail
  refine HG9.out.mono ?_
  rintro e w1 ⟨r, rfl, rfl⟩
  cases r
  · go_wp2
    go_ret
    exact ⟨rfl, HM.out.bel⟩
  by_cases l1 : n ≤ 262144
  case neg =>
    go_wp2
    go_ret
    exact ⟨rfl, HM.out.bel⟩
  by_cases l2 : n2 ≤ 262144
  case neg =>
    go_wp2
    go_ret
    exact ⟨rfl, HM.out.bel⟩
  by_cases l3 : m ≤ 262144
  case neg =>
    go_wp2
    go_ret
    exact ⟨rfl, HM.out.bel⟩
  have v1 : IntKind.i64.wrap ((n : Int) - (m : Int)) = (n : Int) - (m : Int) := by rw [IntKind.wrap_i64]; omega
  by_cases hq : q + m ≤ n
  case neg =>
    have v2 : (n : Int) - (m : Int) < (q : Int) := by omega
    go_wp2
    go_ret
    exact ⟨rfl, HM.out.bel⟩
  have v2 : ¬ ((n : Int) - (m : Int) < (q : Int)) := by omega
  have HC0 : Hid (Calls Try.prog 10 #[.slice a n c, .int .i64 (q : Int), .slice t m d] w (SaysPost (∀ k, k < m → S (q + k) = T k) w)) := by
    obtain ⟨_, ⟨a9, c9, e9, h9⟩, ⟨t8, d8, e8, h8⟩, _⟩ := HM.out
    cases e9; cases e8
    exact match10 a t n c m d q S T w h9.rd h8.rd hq
  go_wp2_with fail
  refine HC0.out.mono ?_
  rintro e w0 ⟨r, rfl, hM0, hr⟩
  cases r
  · have HM0 : Hid (Mem w w0) := hM0
    clear hM0 hr
    go_wp2
    go_ret
    exact ⟨rfl, mem_below HM.out.bel HM0.out⟩
  have HQ : Hid (∀ k, k < m → S (q + k) = T k) := hr.1 rfl
  have HM' : Hid (Mid w n n2 m b c2 S T2 T (.slice a n c) (.slice t m d) w0) := Mid.mem HM.out hM0
  have hws : w.heap.size ≤ w0.heap.size := by rw [hM0.heap]; exact Nat.le_refl _
  clear HM hM0 hr
  go_upto_if 57 with fail
  go_cut [0, 11] (fun v0 _ wc => Hid (Mid w n n2 m b c2 S T2 T v0 (.slice t m d) wc))
  case first =>
    cases a with
    | none =>
      go_wp2
      go_meet
      case rel => exact HM'.out
    | some x =>
      obtain ⟨bel, ⟨a', c', e', hA⟩, hX, hY⟩ := HM'.out
      cases e'
      obtain ⟨W1, W2, cv, hmk, hT1, hcp, hown, hT2, hsz⟩ := bytesRow w.heap.size w0 (some x) n c S hA.rd (by omega) hws
      have HP : Hid (Mid w n n2 m b c2 S T2 T (.slice (some ⟨w0.heap.size, 0, none⟩) n n) (.slice t m d) W2) := Mid.copied0 HM'.out hown hT2
      clear hX hY hA hown hT1 hT2 bel
      go_wp2
      go_meet
      case rel => exact HP.out
  case rest =>
    obtain ⟨v0, hv0⟩ : ∃ v0, v0 = u0 := ⟨_, rfl⟩
    rw [← hv0] at hcut ⊢
    clear hv0 HM'
    obtain ⟨a', c', e', hA⟩ := hcut.out.src
    have hcut' := hcut
    have ha1 := hA.rd.1
    have ha2 := hA.rd.2.1
    unfold maxLen at ha2
    subst e'
    clear hA hcut
    go_upto_if 66 with fail
    go_cut [0, 3, 12] (fun v0 v3 _ wd => v0 = .slice a' n c' ∧ Hid (Mid w n n2 m b c2 S T2 T (.slice a' n c') v3 wd))
    case first =>
      cases t with
      | none =>
        go_wp2
        go_meet
        case rel => exact ⟨rfl, hcut'.out⟩
      | some x =>
        obtain ⟨bel, hX, ⟨t', d', e', hA⟩, hY⟩ := hcut'.out
        cases e'
        obtain ⟨W1, W2, cv, hmk, hT1, hcp, hown, hT2, hsz⟩ := bytesRow w.heap.size wc (some x) m d T hA.rd (by omega) bel.size
        have HP : Hid (Mid w n n2 m b c2 S T2 T (.slice a' n c') (.slice (some ⟨wc.heap.size, 0, none⟩) m m) W2) := Mid.copied3 hcut'.out hown hT2
        clear hX hY hA hown hT1 hT2 bel
        go_wp2
        go_meet
        case rel => exact ⟨rfl, HP.out⟩
    case rest =>
      obtain ⟨hu0, hcut⟩ := hcut
      obtain ⟨v0, hv0⟩ : ∃ v0, v0 = u0 := ⟨_, rfl⟩
      obtain ⟨v3, hv3⟩ : ∃ v3, v3 = u3 := ⟨_, rfl⟩
      rw [← hv0] at hu0 ⊢
      rw [← hv3] at hcut ⊢
      clear hv0 hv3 hcut'
      obtain ⟨bel, ⟨a1, c1, e1, hA⟩, ⟨t1, d1, e3, hX⟩, hY⟩ := hcut.out
      cases e1
      subst hu0 e3
      clear hcut
      obtain ⟨W0, hW0⟩ : ∃ W0 : World, W0 = wc := ⟨_, rfl⟩
      rw [← hW0] at bel hA hX hY ⊢
      clear hW0
      have ht1 := hX.rd.1; have ht2 := hX.rd.2.1
      unfold maxLen at ht2
      have HC1 : Hid (Calls Try.prog 11 #[.slice b n2 c2] W0 (ClonePost w.heap.size b n2 T2 W0)) := clone11_any _ _ _ _ _ _ hY (by omega) bel.size
      have HA : Hid (Below w.heap.size w W0 ∧ Arg W0 a' n c' S ∧ Arg W0 t1 m d1 T) := ⟨bel, hA, hX⟩
      clear bel hA hX hY
      go_wp2_with fail
      refine HC1.out.mono ?_
      rintro e W1 ⟨v1, rfl, ho1, hf1, hn1, hT1⟩
      obtain ⟨b1, e1, rfl, y1, y2⟩ := ownsRow_slice ho1
      unfold maxLen at y2
      have HC2 : Hid (Calls Try.prog 11 #[.slice b1 n2 e1] W1 (ClonePost w.heap.size b1 n2 T2 W1)) := clone11_any _ _ _ _ _ _ (Arg.ofRow ho1) (by omega) (Nat.le_trans HA.out.1.size hT1.size)
      have HR1 : Hid (W1.ownsRow w.heap.size 5 1 (.slice b1 n2 e1) n2 (ints (listOf n2 T2)) ∧ (∀ k, (Value.slice b1 n2 e1).ownBlock = some k → W0.heap.size ≤ k) ∧ Touch (fun _ => False) W0 W1) := ⟨ho1, hf1, hT1⟩
      clear ho1 hf1 hn1 hT1
      go_wp2_with fail
      refine HC2.out.mono ?_
      rintro e W2 ⟨v2, rfl, ho2, hf2, hn2', hT2⟩
      obtain ⟨b2, e2, rfl, z1, z2⟩ := ownsRow_slice ho2
      unfold maxLen at z2
      have hll := listOf_length n2 T2
      have HC3 : Hid (Calls Try.prog 12 #[.slice a' n c', .slice b1 n2 e1, .int .i64 size, .slice t1 m d1, .int .i64 (q : Int)] W2 (ZZPost w.heap.size (.slice b1 n2 e1) size q m (listOf n2 T2) [] W2)) := by
        obtain ⟨bel, hA, hX⟩ := HA.out
        obtain ⟨ho1, hf1, hT1⟩ := HR1.out
        have := zz12_in n c' m d1 w.heap.size q a' t1 (.slice b1 n2 e1) (listOf n2 T2) size W2 (by rw [hll]; exact ownsRow_touch ho1 hT2 fun _ _ h => h) (Nat.le_trans (Nat.le_trans bel.size hT1.size) hT2.size) hq (by omega)
        exact this
      have HR2 : Hid (W2.ownsRow w.heap.size 5 1 (.slice b2 n2 e2) n2 (ints (listOf n2 T2)) ∧ (∀ k, (Value.slice b2 n2 e2).ownBlock = some k → W1.heap.size ≤ k) ∧ ((Value.slice b2 n2 e2).ownBlock = none ↔ b1 = none) ∧ Touch (fun _ => False) W1 W2) := ⟨ho2, hf2, hn2', hT2⟩
      clear ho2 hf2 hn2' hT2 hll
      go_wp2_with fail
      refine HC3.out.mono ?_
      rintro e W3 ⟨v', z, rfl, hz, hG, hT3⟩
      obtain ⟨a3, e3, rfl, x1, x2⟩ := ownsRow_slice hG.owns
      have hll : (listOf n2 T2 ++ []).length = n2 := by rw [List.append_nil, listOf_length]
      rw [hll] at hG x1 ⊢
      unfold maxLen at x2
      subst hz
      obtain ⟨bel, hA, hX⟩ := HA.out
      obtain ⟨ho1, hf1, hT1⟩ := HR1.out
      obtain ⟨ho2, hf2, hn2', hT2⟩ := HR2.out
      have T03 : Touch (fun k => (Value.slice b1 n2 e1).ownBlock = some k) W0 W3 := ((hT1.mono fun _ _ h => h.elim).trans hT2 fun _ _ h => h.elim).trans hT3 fun _ _ h => h
      have belE : Below w.heap.size w W3 := bel.trans (T03.below bel.size fun k hk => ownsRow_ge ho1 hk)
      have rA : Rb W3 a' n c' S := hA.rd.touch T03 fun x hx h0 e => by have := hf1 _ e; have := hA.rd.lt x hx h0; omega
      have rX : Rb W3 t1 m d1 T := hX.rd.touch T03 fun x hx h0 e => by have := hf1 _ e; have := hX.rd.lt x hx h0; omega
      have r2 : Rb W3 b2 n2 e2 T2 := Rb.ofRow (ownsRow_touch ho2 hT3 fun k hk e => by have := hf2 _ hk; have := (ownsRow_lt ho1 e).2; omega)
      have r3 : Rb W3 a3 n2 e3 T2 := Rb.ofRow (B := w.heap.size) (by
        have := hG.owns
        rw [hll, List.append_nil] at this
        exact this)
      have HC4 : Hid (Calls Try.prog 14 #[.slice a3 n2 e3, .slice b2 n2 e2] W3 (SaysPost _ W3)) := same14 a3 b2 n2 e3 n2 e2 T2 T2 W3 r3 r2
      have HS4 : Hid (n2 = n2 ∧ ∀ k, k < n2 → T2 k = T2 k) := ⟨rfl, fun _ _ => rfl⟩
      have HC5 : Hid (∀ W4, Mem W3 W4 → Calls Try.prog 15 #[.slice a' n c', .slice a3 n2 e3, .int .u32 (q : Int), .int .u32 ((q + m : Nat) : Int), .slice t1 m d1] W4 (TruePost W4)) := fun W4 hM =>
        reads15 a' a3 t1 n c' n2 e3 m d1 q S T2 T W4 (rA.mem hM) (r3.mem hM) (rX.mem hM) (by omega) (by omega) (by omega) (fun k hk => by
          unfold atStore
          rw [if_pos (by omega)]
          exact HQ.out k hk)
      have hx : (a3.isNone == b2.isNone) = true := isNone_eq (by
        rw [← own_none a3 n2 e3, hG.same rfl, own_none, ← hn2', own_none])
      have HB : Hid (Below w.heap.size w W3) := belE
      clear bel hA hX ho1 hf1 hT1 ho2 hf2 hn2' hT2 T03 belE rA rX r2 r3 hG hT3 hll
      go_wp2_with fail
      refine HC4.out.mono ?_
      rintro e W4 ⟨r, rfl, hM, hr⟩
      obtain rfl : r = true := hr.2 HS4.out
      have HM : Hid (Mem W3 W4) := hM
      clear hM hr
      go_wp2_with fail
      refine (HC5.out W4 HM.out).mono ?_
      rintro e W5 ⟨rfl, hM⟩
      have HM5 : Hid (Mem W4 W5) := hM
      clear hM
      go_wp2
      go_ret
      exact ⟨rfl, mem_below (mem_below HB.out HM.out) HM5.out⟩
end Go.Proofs.Qxb6604050a
