/- FnJudgeDropsLeadingRunAndWeighsOnlyAnswered (5): the walk. -/
import Derived.Test.Qxb6602606aPlan
namespace Go.Proofs.Qxb6602606a
open Go.RowKit
set_option linter.unusedVariables false
set_option linter.unusedSimpArgs false
attribute [local go_sem ↓] Go.wp_at_zero Go.wp_at_succ

/-- The law's answer. -/
def LawPost (w : World) (e : Ending) (w' : World) : Prop := e = .returned (.bool true) ∧ Below w.heap.size w w'

/-- What stands behind the copies. -/
structure Cop (w : World) (n : Nat) (S Q R : Nat → Int) (a0 a1 a2 : Option Addr) (W : World) : Prop where
  touch : Touch (fun _ => False) w W
  s : RI .u64 W a0 n n S
  q : RI .i64 W a1 n n Q
  r : RI .i64 W a2 n n R
  nil : a0 = none → n = 0

theorem Cop.keep {w : World} {n : Nat} {S Q R : Nat → Int} {a0 a1 a2 : Option Addr} {W W' : World} (h : Cop w n S Q R a0 a1 a2 W) (ht : Touch (fun _ => False) W W') : Cop w n S Q R a0 a1 a2 W' :=
  ⟨h.touch.trans ht fun _ _ h => h, h.s.keep ht, h.q.keep ht, h.r.keep ht, h.nil⟩

/-- .. and after a tally behind them was judged. -/
theorem Cop.turn {w : World} {n p : Nat} {S Q R : Nat → Int} {a0 a1 a2 : Option Addr} {W W' W'' : World} (h : Cop w n S Q R a0 a1 a2 W) (ht : Touch (fun _ => False) W W') (hp : W.heap.size ≤ p) (hj : Touch (· = p) W' W'') : Cop w n S Q R a0 a1 a2 W'' := by
  have hT : Touch (· = p) W W'' := (ht.mono fun _ _ h => h.elim).trans hj fun _ _ h => h
  have hws := h.touch.size
  exact ⟨h.touch.trans hT fun i hi e => by omega, h.s.touch hT fun x hx h0 e => by have := h.s.lt x hx h0; omega, h.q.touch hT fun x hx h0 e => by have := h.q.lt x hx h0; omega, h.r.touch hT fun x hx h0 e => by have := h.r.lt x hx h0; omega, h.nil⟩

set_option maxHeartbeats 8000000 in
set_option maxRecDepth 100000 in
theorem law5 (a0 a1 a2 : Option Addr) (n c n1 c1 n2 c2 : Nat) (S Q R : Nat → Int) (after before : Int) (u j : Nat) (w : World) (h0 : RI .u64 w a0 n c S) (z0 : a0 = none → n = 0 ∧ c = 0) (h1 : RI .i64 w a1 n1 c1 Q) (z1 : a1 = none → n1 = 0 ∧ c1 = 0) (h2 : RI .i64 w a2 n2 c2 R) (z2 : a2 = none → n2 = 0 ∧ c2 = 0) :
    Calls Try.prog 5 #[.slice a0 n c, .slice a1 n1 c1, .slice a2 n2 c2, .int .u64 after, .float .f64 u, .float .f64 j, .int .u64 before] w (LawPost w) := by
  have e0 := h0.1; have f0 := h0.2.1
  have e1 := h1.1; have f1 := h1.2.1
  have e2 := h2.1; have f2 := h2.2.1
  have HG : Hid (Calls Try.prog 16 #[.slice a0 n c, .slice a1 n1 c1, .slice a2 n2 c2, .int .u64 after, .float .f64 u, .float .f64 j, .int .u64 before] w (BoolPost w)) := guard16 a0 a1 a2 n c n1 c1 n2 c2 after before u j w (by omega) (by omega) (by omega)
  have HB : Hid (Calls Try.prog 17 #[.slice a0 n c, .slice a1 n1 c1, .slice a2 n2 c2] w (BigPost n n1 n2 w)) := big17 a0 a1 a2 n c n1 c1 n2 c2 w (by omega) (by omega) (by omega)
  have HA : Hid (RI .u64 w a0 n c S ∧ (a0 = none → n = 0 ∧ c = 0) ∧ RI .i64 w a1 n1 c1 Q ∧ (a1 = none → n1 = 0 ∧ c1 = 0) ∧ RI .i64 w a2 n2 c2 R ∧ (a2 = none → n2 = 0 ∧ c2 = 0)) := ⟨h0, z0, h1, z1, h2, z2⟩
  unfold maxLen at f0 f1 f2
  clear h0 z0 h1 z1 h2 z2
  go_enter Try.func5, Try.ntmps5
  go_wp2_with fail
  refine HG.out.mono ?_
  rintro e w1 ⟨r, rfl, rfl⟩
  cases r
  · go_wp2
    go_ret
    exact ⟨rfl, Below.refl _ _⟩
  go_wp2_with fail
  refine HB.out.mono ?_
  rintro e w1 ⟨r, rfl, rfl, hr⟩
  cases r
  case true =>
    go_wp2
    go_ret
    exact ⟨rfl, Below.refl _ _⟩
  obtain ⟨l0, l1, l2⟩ := hr rfl
  clear hr
  by_cases hn1 : n1 = n
  case neg =>
    have hb : ((n1 : Int) != (n : Int)) = true := by rw [bne_iff_ne]; omega
    clear hn1
    go_wp2
    go_ret
    exact ⟨rfl, Below.refl _ _⟩
  by_cases hn2 : n2 = n
  case neg =>
    subst hn1
    have hb : ((n1 : Int) != (n1 : Int)) = false := by simp
    have hb2 : ((n2 : Int) != (n1 : Int)) = true := by rw [bne_iff_ne]; omega
    clear hn2
    go_wp2
    go_ret
    exact ⟨rfl, Below.refl _ _⟩
  subst hn1 hn2
  have hb : ((n2 : Int) != (n2 : Int)) = false := by simp
  have HC0 : Hid (Calls Try.prog 10 #[.slice a0 n2 c] w (CopyPost .u64 a0 n2 S w)) := copyU a0 n2 c S w HA.out.1 HA.out.2.1 l0
  go_wp2_with fail
  refine HC0.out.mono ?_
  rintro e W1 ⟨b0, rfl, r0, m0, t0⟩
  have HC1 : Hid (Calls Try.prog 18 #[.slice a1 n2 c1] W1 (CopyPost .i64 a1 n2 Q W1)) := copyI a1 n2 c1 Q W1 (HA.out.2.2.1.keep t0) HA.out.2.2.2.1 l0
  have H1 : Hid (RI .u64 W1 b0 n2 n2 S ∧ (b0 = none ↔ a0 = none) ∧ Touch (fun _ => False) w W1) := ⟨r0, m0, t0⟩
  clear r0 m0 t0
  go_wp2_with fail
  refine HC1.out.mono ?_
  rintro e W2 ⟨b1, rfl, r1, m1, t1⟩
  have HC2 : Hid (Calls Try.prog 18 #[.slice a2 n2 c2] W2 (CopyPost .i64 a2 n2 R W2)) := copyI a2 n2 c2 R W2 ((HA.out.2.2.2.2.1.keep H1.out.2.2).keep t1) HA.out.2.2.2.2.2 l0
  have H2 : Hid (RI .i64 W2 b1 n2 n2 Q ∧ Touch (fun _ => False) W1 W2) := ⟨r1, t1⟩
  clear r1 m1 t1
  go_wp2_with fail
  refine HC2.out.mono ?_
  rintro e W3 ⟨b2, rfl, r2, m2, t2⟩
  have HCop : Hid (Cop w n2 S Q R b0 b1 b2 W3) := ⟨(H1.out.2.2.trans H2.out.2 fun _ _ h => h).trans t2 fun _ _ h => h, (H1.out.1.keep H2.out.2).keep t2, H2.out.1.keep t2, r2, fun h => (HA.out.2.1 (H1.out.2.1.1 h)).1⟩
  clear r2 m2 t2
  have HC3 : Hid (Calls Try.prog 19 #[.slice b0 n2 n2, .slice b1 n2 n2, .slice b2 n2 n2, .int .u64 after, .float .f64 u, .float .f64 j] W3 (MadePost n2 S Q R after u j W3)) := make19 b0 b1 b2 n2 n2 n2 n2 S Q R after u j W3 HCop.out.s HCop.out.q HCop.out.r (fun h => ⟨HCop.out.nil h, HCop.out.nil h⟩) l0
  go_wp2_with fail
  refine HC3.out.mono ?_
  rintro e W4 ⟨p, pa, pc, rfl, hpW, hobj, hrc, hap, t4⟩
  have HC4 : Hid (Calls Try.prog 20 #[.pointer (some ⟨p, 0, none⟩), .int .u64 before] W4 (JudgePost p n2 S Q R after before u j W4)) := judge20 p pa n2 pc S Q R after before u j W4 hobj hrc hap
  have H4 : Hid (W3.heap.size ≤ p ∧ Touch (fun _ => False) W3 W4) := ⟨hpW, t4⟩
  clear hpW hobj hrc hap t4
  go_wp2_with fail
  refine HC4.out.mono ?_
  rintro e W5 ⟨d, da, dc, u1, j1, rfl, hJ⟩
  have HJ : Hid (Judged p n2 S Q R after before u j W4 d da dc u1 j1 W5) := hJ
  have hdn : d ≤ n2 := hJ.le
  have HC5 : Hid (Calls Try.prog 21 #[.pointer (some ⟨p, 0, none⟩)] W5 (PendPost (n2 - d) (fun i => S (d + i)) (fun i => Q (d + i)) (fun i => R (d + i)) W5)) := pend21 p da (n2 - d) dc _ _ _ after u1 j1 W5 hJ.obj hJ.rows (by omega)
  have HCop5 : Hid (Cop w n2 S Q R b0 b1 b2 W5) := HCop.out.turn H4.out.2 H4.out.1 hJ.touch
  clear hJ
  go_wp2_with fail
  refine HC5.out.mono ?_
  rintro e W6 ⟨p1, q1, p2, q2, p3, q3, rfl, s1, s2, s3, t6⟩
  have HC6 : Hid (Calls Try.prog 22 #[.pointer (some ⟨p, 0, none⟩)] W6 (StatePost after u1 j1 W6)) := state22 p (.slice da (n2 - d) dc) after u1 j1 W6 (by
    rw [← HJ.out.obj]
    exact t6.block p (World.block_lt_of_cell? W5 _ (tObj_cell HJ.out.obj).1) fun h => h)
  have H6 : Hid (RI .u64 W6 p1 (n2 - d) q1 (fun i => S (d + i)) ∧ RI .i64 W6 p2 (n2 - d) q2 (fun i => Q (d + i)) ∧ RI .i64 W6 p3 (n2 - d) q3 (fun i => R (d + i)) ∧ Cop w n2 S Q R b0 b1 b2 W6) := ⟨s1, s2, s3, HCop5.out.keep t6⟩
  clear s1 s2 s3 t6
  go_wp2_with fail
  refine HC6.out.mono ?_
  rintro e W7 ⟨rfl, hM7⟩
  have H7 : Hid (RI .u64 W7 p1 (n2 - d) q1 (fun i => S (d + i)) ∧ RI .i64 W7 p2 (n2 - d) q2 (fun i => Q (d + i)) ∧ RI .i64 W7 p3 (n2 - d) q3 (fun i => R (d + i)) ∧ Cop w n2 S Q R b0 b1 b2 W7) := ⟨H6.out.1.mem hM7, H6.out.2.1.mem hM7, H6.out.2.2.1.mem hM7, H6.out.2.2.2.keep (Mem.touch (Touch.refl _ _) hM7)⟩
  clear hM7
  go_wp2
  go_loop [23, 24] (fun v23 v24 => ∃ k i : Nat, k ≤ n2 ∧ i ≤ k ∧ v23 = .int .i64 (k : Int) ∧ v24 = .int .i64 ((i : Int) - 1) ∧ Hid ((∀ x, i ≤ x → x < k → S x < before) ∧ (k < n2 → ¬ S k < before))) (fun _ v24 => (intOf v24 + 1).toNat)
  case atStart => exact ⟨n2, n2, Nat.le_refl _, Nat.le_refl _, rfl, rfl, fun x h1 h2 => by omega, fun h => absurd h (Nat.lt_irrefl _)⟩
  case round =>
    obtain ⟨k, i, hk, hik, rfl, rfl, hK⟩ := hrel
    cases i with
    | succ i =>
      obtain ⟨b, off, rfl, hc⟩ := H7.out.2.2.2.s.2.2 (by omega)
      have hci := hc i (by omega)
      have hin : (i : Int) < (n2 : Int) := by omega
      have x1 : (((i + 1 : Nat) : Int) - 1) = (i : Int) := by omega
      rw [x1]
      clear hc x1
      by_cases hs : S i < before
      · have HK' : Hid ((∀ x, i ≤ x → x < k → S x < before) ∧ (k < n2 → ¬ S k < before)) := ⟨fun x h1 h2 => (Nat.lt_or_eq_of_le h1).elim (fun h => hK.out.1 x h h2) (fun e => e ▸ hs), hK.out.2⟩
        clear hK
        go_wp2
        go_round
        case rel => exact ⟨k, i, hk, by omega, rfl, by go_num, HK'⟩
        case measure => simp [intOf]
      · have HK' : Hid ((∀ x, i ≤ x → x < i → S x < before) ∧ (i < n2 → ¬ S i < before)) := ⟨fun x h1 h2 => by omega, fun _ => hs⟩
        clear hK
        go_wp2
        go_round
        case rel => exact ⟨i, i, by omega, Nat.le_refl _, rfl, by go_num, HK'⟩
        case measure => simp [intOf]
    | zero =>
      have hkd : k = d := by
        rcases Nat.lt_trichotomy k d with h | h | h
        · exact absurd (HJ.out.all k h) (hK.out.2 (by omega))
        · exact h
        · exact absurd (hK.out.1 d (Nat.zero_le _) h) (HJ.out.stop (by omega))
      subst hkd
      clear hK
      have x2 : IntKind.i64.wrap ((n2 : Int) - (k : Int)) = ((n2 - k : Nat) : Int) := by rw [IntKind.wrap_i64]; omega
      have x3 : (((n2 - k : Nat) : Int) != ((n2 - k : Nat) : Int)) = false := by simp
      obtain ⟨y0, g0, g0', i0⟩ := slice_from H7.out.2.2.2.s k hdn 24 22 Try.underlying24 elem24 sizeU
      obtain ⟨y1, g1, g1', i1⟩ := slice_from H7.out.2.2.2.q k hdn 38 3 Try.underlying38 elem38 sizeI
      obtain ⟨y2, g2, g2', i2⟩ := slice_from H7.out.2.2.2.r k hdn 38 3 Try.underlying38 elem38 sizeI
      have HE1 : Hid (Calls Try.prog 23 #[.slice p1 (n2 - k) q1, .slice y0 (n2 - k) (n2 - k)] W7 (SaysPost _ W7)) := sameU p1 y0 (n2 - k) q1 (n2 - k) (n2 - k) _ _ W7 H7.out.1 i0
      have HI : Hid (RI .i64 W7 y1 (n2 - k) (n2 - k) (fun i => Q (k + i)) ∧ RI .i64 W7 y2 (n2 - k) (n2 - k) (fun i => R (k + i))) := ⟨i1, i2⟩
      clear i0 i1 i2
      go_wp2_with fail
      refine HE1.out.mono ?_
      rintro e W8 ⟨r, rfl, hM8, hr⟩
      obtain rfl : r = true := hr.2 (by simp)
      have HE2 : Hid (Calls Try.prog 24 #[.slice p2 (n2 - k) q2, .slice y1 (n2 - k) (n2 - k)] W8 (SaysPost _ W8)) := sameI p2 y1 (n2 - k) q2 (n2 - k) (n2 - k) _ _ W8 (H7.out.2.1.mem hM8) (HI.out.1.mem hM8)
      have HM8 : Hid (Mem W7 W8) := hM8
      clear hM8 hr
      go_wp2_with fail
      refine HE2.out.mono ?_
      rintro e W9 ⟨r, rfl, hM9, hr⟩
      obtain rfl : r = true := hr.2 (by simp)
      have HE3 : Hid (Calls Try.prog 24 #[.slice p3 (n2 - k) q3, .slice y2 (n2 - k) (n2 - k)] W9 (SaysPost _ W9)) := sameI p3 y2 (n2 - k) q3 (n2 - k) (n2 - k) _ _ W9 ((H7.out.2.2.1.mem HM8.out).mem hM9) ((HI.out.2.mem HM8.out).mem hM9)
      have HM9 : Hid (Mem W8 W9) := hM9
      clear hM9 hr
      go_wp2_with fail
      refine HE3.out.mono ?_
      rintro e W10 ⟨r, rfl, hM10, hr⟩
      obtain rfl : r = true := hr.2 (by simp)
      have HCt : Hid (Cop w n2 S Q R b0 b1 b2 W10) := H7.out.2.2.2.keep (Mem.touch (Mem.touch (Mem.touch (Touch.refl _ _) HM8.out) HM9.out) hM10)
      clear hM10 hr g0 g0' g1 g1' g2 g2' x2 x3
      have xa : (after != after) = false := by simp
      go_wp2
      go_loop [25, 26] (fun v25 v26 => ∃ m i : Nat, i ≤ k ∧ m ≤ i ∧ v25 = .int .i64 (m : Int) ∧ v26 = .int .i64 (i : Int) ∧ Hid (m = (wIdx S after i).length)) (fun _ v26 => k - (intOf v26).toNat)
      case atStart => exact ⟨0, 0, by omega, by omega, rfl, rfl, rfl⟩
      case round =>
        obtain ⟨m, i, hi, hmi, rfl, rfl, hm⟩ := hrel
        by_cases hlt : i < k
        · obtain ⟨b, off, rfl, hc⟩ := HCt.out.s.2.2 (by omega)
          have hci := hc i (by omega)
          have hin : (i : Int) < (n2 : Int) := by omega
          have hik2 : (i : Int) < (k : Int) := by omega
          clear hc
          by_cases hs : S i < after
          · have HM' : Hid (m + 1 = (wIdx S after (i + 1)).length) := by
              show _ = _
              rw [wIdx_succ, if_pos hs, List.length_append, ← hm.out]; rfl
            clear hm
            go_wp2
            go_round
            case rel => exact ⟨m + 1, i + 1, by omega, by omega, by go_num, by go_num, HM'⟩
            case measure => simp [intOf]; omega
          · have HM' : Hid (m = (wIdx S after (i + 1)).length) := by
              show _ = _
              rw [wIdx_succ, if_neg hs, List.append_nil]; exact hm.out
            clear hm
            go_wp2
            go_round
            case rel => exact ⟨m, i + 1, by omega, by omega, rfl, by go_num, HM'⟩
            case measure => simp [intOf]; omega
        · obtain rfl : k = i := by omega
          by_cases hm0 : m = 0
          · have hnil : wIdx S after k = [] := List.length_eq_zero_iff.1 (by rw [← hm.out]; exact hm0)
            have hu : u1 = u := by have := HJ.out.un; rw [hnil] at this; exact this
            have hj : j1 = j := by have := HJ.out.ju; rw [hnil] at this; exact this
            have HF1 : Hid (Calls Try.prog 25 #[.float .f64 u1, .float .f64 u] W10 (TruePost W10)) := same25 u1 u W10 (.inr hu)
            have HF2 : Hid (Calls Try.prog 25 #[.float .f64 j1, .float .f64 j] W10 (TruePost W10)) := same25 j1 j W10 (.inr hj)
            have hz : ((m : Int) == 0) = true := by simp [hm0]
            clear hm0 hm hnil hu hj
            go_wp2_with fail
            refine HF1.out.mono ?_
            rintro e w' ⟨rfl, rfl⟩
            go_wp2_with fail
            refine HF2.out.mono ?_
            rintro e w' ⟨rfl, rfl⟩
            go_wp2
            go_ret
            exact ⟨rfl, HCt.out.touch.below (Nat.le_refl _) fun _ h => h.elim⟩
          · have hz : ((m : Int) == 0) = false := by simp [hm0]
            have hmp : 0 < m := by omega
            have k1 := makeU m (by omega) W10
            have k2 := makeI m (by omega) (W10.alloc (.cells (madeCells #[.int .u64 0] m) 22))
            have k3 := makeI m (by omega) ((W10.alloc (.cells (madeCells #[.int .u64 0] m) 22)).alloc (.cells (madeCells #[.int .i64 0] m) 3))
            obtain ⟨Z, hZ⟩ : ∃ Z, Z = ((W10.alloc (.cells (madeCells #[.int .u64 0] m) 22)).alloc (.cells (madeCells #[.int .i64 0] m) 3)).alloc (.cells (madeCells #[.int .i64 0] m) 3) := ⟨_, rfl⟩
            have HP0 : Hid (P3 W10 m 0 (fun x => .int .u64 (S ((wIdx S after k).getD x 0))) (fun x => .int .i64 (Q ((wIdx S after k).getD x 0))) (fun x => .int .i64 (R ((wIdx S after k).getD x 0))) Z) := by rw [hZ]; exact P3.made W10 m _ _ _
            have HZ : Hid (Z = ((W10.alloc (.cells (madeCells #[.int .u64 0] m) 22)).alloc (.cells (madeCells #[.int .i64 0] m) 3)).alloc (.cells (madeCells #[.int .i64 0] m) 3)) := hZ
            clear hZ hm0
            go_wp2
            rw [← HZ.out]
            clear k1 k2 k3
            obtain ⟨L, hL⟩ : ∃ L, L = wIdx S after k := ⟨_, rfl⟩
            have HL : Hid (L = wIdx S after k ∧ m = L.length) := ⟨hL, by rw [hL]; exact hm.out⟩
            rw [← hL] at HP0
            clear hL hm
            go_loopw [30, 31] (fun v30 v31 wr => ∃ q i : Nat, i ≤ k ∧ q ≤ m ∧ v30 = .int .i64 (q : Int) ∧ v31 = .int .i64 (i : Int) ∧ Hid (q = (wIdx S after i).length ∧ P3 W10 m q (fun x => .int .u64 (S (L.getD x 0))) (fun x => .int .i64 (Q (L.getD x 0))) (fun x => .int .i64 (R (L.getD x 0))) wr)) (fun _ v31 _ => k - (intOf v31).toNat)
            case atStart => exact ⟨0, 0, by omega, by omega, rfl, rfl, rfl, HP0.out⟩
            case round =>
              obtain ⟨q, i, hi3, hq3, rfl, rfl, hP⟩ := hrel
              by_cases hlt3 : i < k
              · obtain ⟨b, off, rfl, hc⟩ := HCt.out.s.2.2 (by omega)
                obtain ⟨bb, ob, rfl, hcb⟩ := HCt.out.q.2.2 (by omega)
                obtain ⟨bc, oc, rfl, hcc⟩ := HCt.out.r.2.2 (by omega)
                have hbb : b < W10.heap.size := World.block_lt_of_cell? W10 _ (hc i (by omega))
                have hbq : bb < W10.heap.size := World.block_lt_of_cell? W10 _ (hcb i (by omega))
                have hbr : bc < W10.heap.size := World.block_lt_of_cell? W10 _ (hcc i (by omega))
                have hT := hP.out.2.2.2.2
                have c1 : wr.cell? ⟨b, off + i, none⟩ = some (.int .u64 (S i)) := by rw [← hc i (by omega)]; exact World.cell?_of_block (hT.block _ hbb fun h => h)
                have c2 : wr.cell? ⟨bb, ob + i, none⟩ = some (.int .i64 (Q i)) := by rw [← hcb i (by omega)]; exact World.cell?_of_block (hT.block _ hbq fun h => h)
                have c3 : wr.cell? ⟨bc, oc + i, none⟩ = some (.int .i64 (R i)) := by rw [← hcc i (by omega)]; exact World.cell?_of_block (hT.block _ hbr fun h => h)
                have hin : (i : Int) < (n2 : Int) := by omega
                have hik2 : (i : Int) < (k : Int) := by omega
                clear hc hcb hcc hT
                by_cases hs : S i < after
                · obtain ⟨hw1, hw2⟩ := wIdx_at S after hlt3 hs
                  rw [← HL.out.1, ← hP.out.1] at hw1 hw2
                  rw [← HL.out.2] at hw1
                  obtain ⟨x0, x1, x2⟩ := hP.out.2.1.cell q hw1
                  obtain ⟨y0', y1', y2'⟩ := hP.out.2.2.1.cell q hw1
                  obtain ⟨z0', z1', z2'⟩ := hP.out.2.2.2.1.cell q hw1
                  have hqm : (q : Int) < (m : Int) := by omega
                  have hne1 : W10.heap.size ≠ W10.heap.size + 1 := by omega
                  have hne2 : W10.heap.size ≠ W10.heap.size + 1 + 1 := by omega
                  have hne3 : W10.heap.size + 1 ≠ W10.heap.size + 1 + 1 := by omega
                  have hb0 : b ≠ W10.heap.size := by omega
                  have hb1 : b ≠ W10.heap.size + 1 := by omega
                  have hb2 : b ≠ W10.heap.size + 1 + 1 := by omega
                  have hq0 : bb ≠ W10.heap.size := by omega
                  have hq1 : bb ≠ W10.heap.size + 1 := by omega
                  have hr0 : bc ≠ W10.heap.size := by omega
                  have hr1 : bc ≠ W10.heap.size + 1 := by omega
                  have hr2 : bc ≠ W10.heap.size + 1 + 1 := by omega
                  have HN : Hid (q + 1 = (wIdx S after (i + 1)).length ∧ P3 W10 m (q + 1) (fun x => .int .u64 (S (L.getD x 0))) (fun x => .int .i64 (Q (L.getD x 0))) (fun x => .int .i64 (R (L.getD x 0))) (((wr.setCell ⟨W10.heap.size, q, none⟩ (.int .u64 (S i))).setCell ⟨W10.heap.size + 1, q, none⟩ (.int .i64 (Q i))).setCell ⟨W10.heap.size + 1 + 1, q, none⟩ (.int .i64 (R i)))) :=
                    ⟨by rw [wIdx_succ, if_pos hs, List.length_append, ← hP.out.1]; rfl, hP.out.2.put hw1 _ _ _ (by show Value.int .u64 (S (L.getD q 0)) = _; rw [hw2]) (by show Value.int .i64 (Q (L.getD q 0)) = _; rw [hw2]) (by show Value.int .i64 (R (L.getD q 0)) = _; rw [hw2])⟩
                  clear hP hw1 hw2
                  go_wp2
                  go_roundw
                  case rel => exact ⟨q + 1, i + 1, by omega, by omega, by go_num, by go_num, HN⟩
                  case measure => simp [intOf]; omega
                · have HN : Hid (q = (wIdx S after (i + 1)).length ∧ P3 W10 m q (fun x => .int .u64 (S (L.getD x 0))) (fun x => .int .i64 (Q (L.getD x 0))) (fun x => .int .i64 (R (L.getD x 0))) wr) :=
                    ⟨by rw [wIdx_succ, if_neg hs, List.append_nil]; exact hP.out.1, hP.out.2⟩
                  clear hP
                  go_wp2
                  go_roundw
                  case rel => exact ⟨q, i + 1, by omega, by omega, rfl, by go_num, HN⟩
                  case measure => simp [intOf]; omega
              · obtain rfl : k = i := by omega
                obtain rfl : q = m := by rw [HL.out.2, hP.out.1, HL.out.1]
                have hsm : q ≤ 1048576 := by omega
                obtain ⟨V, hV⟩ : ∃ V : World, V = wr := ⟨_, rfl⟩
                rw [← hV] at hP ⊢
                clear hV
                have HC8 : Hid (Calls Try.prog 19 #[.slice (some ⟨W10.heap.size, 0, none⟩) q q, .slice (some ⟨W10.heap.size + 1, 0, none⟩) q q, .slice (some ⟨W10.heap.size + 1 + 1, 0, none⟩) q q, .int .u64 after, .float .f64 u, .float .f64 j] V (MadePost q (fun x => S (L.getD x 0)) (fun x => Q (L.getD x 0)) (fun x => R (L.getD x 0)) after u j V)) :=
                  make19 _ _ _ q q q q _ _ _ after u j V (hP.out.2.1.whole hsm) (hP.out.2.2.1.whole hsm) (hP.out.2.2.2.1.whole hsm) (fun h => by cases h) hsm
                have HT0 : Hid (Touch (fun _ => False) w V) := HCt.out.touch.trans hP.out.2.2.2.2 fun _ _ h => h
                clear hP
                go_wp2_with fail
                refine HC8.out.mono ?_
                rintro e V1 ⟨pp, pa', pc', rfl, hpV, hobj, hrc, hap, tV1⟩
                have HC9 : Hid (Calls Try.prog 20 #[.pointer (some ⟨pp, 0, none⟩), .int .u64 before] V1 (JudgePost pp q _ _ _ after before u j V1)) := judge20 pp pa' q pc' _ _ _ after before u j V1 hobj hrc hap
                have HV : Hid (V.heap.size ≤ pp ∧ Touch (fun _ => False) V V1) := ⟨hpV, tV1⟩
                clear hpV hobj hrc hap tV1
                go_wp2_with fail
                refine HC9.out.mono ?_
                rintro e V2 ⟨d2, da2, dc2, u2, j2, rfl, hJ2⟩
                have hd2 : d2 = q := by
                  rcases Nat.lt_or_eq_of_le hJ2.le with h | h
                  · have hw := wIdx_mem S after k d2 (by rw [← HL.out.1, ← HL.out.2]; exact h)
                    rw [← HL.out.1] at hw
                    exact absurd (HJ.out.all _ hw.1) (hJ2.stop h)
                  · exact h
                subst hd2
                have hzz : d2 - d2 = 0 := by omega
                have HC10 : Hid (Calls Try.prog 21 #[.pointer (some ⟨pp, 0, none⟩)] V2 (PendPost 0 _ _ _ V2)) := pend21 pp da2 0 dc2 _ _ _ after u2 j2 V2 (by have := hJ2.obj; rw [hzz] at this; exact this) (by have := hJ2.rows; rw [hzz] at this; exact this) (by omega)
                have HSF : Hid (SameF u1 u2 ∧ SameF j1 j2) := by
                  have a1 := hJ2.un
                  have a2 := hJ2.ju
                  have e1 := wIdx_again S after k (zU Q R) (zU (fun x => Q (L.getD x 0)) (fun x => R (L.getD x 0))) (fun x => by rw [← HL.out.1]; rfl)
                  have e2 := wIdx_again S after k (zJ Q) (zJ (fun x => Q (L.getD x 0))) (fun x => by rw [← HL.out.1]; rfl)
                  rw [← HL.out.1, ← HL.out.2] at e1 e2
                  rw [e1] at a1
                  rw [e2] at a2
                  have b1 := HJ.out.un
                  have b2 := HJ.out.ju
                  rw [← HL.out.1] at b1 b2
                  exact ⟨Reach.same (.inr rfl) b1 a1, Reach.same (.inr rfl) b2 a2⟩
                have HTV : Hid (Touch (fun _ => False) w V2) := by
                  have hvs := HT0.out.size
                  refine (HT0.out.trans HV.out.2 fun _ _ h => h).trans hJ2.touch fun i hi e => ?_
                  have := HV.out.1
                  have e' : i = pp := e
                  omega
                have HO : Hid (V2.heap[pp]? = some (tObj (.slice da2 (d2 - d2) dc2) after u2 j2)) := hJ2.obj
                clear hJ2 hzz
                go_wp2_with fail
                refine HC10.out.mono ?_
                rintro e V3 ⟨_, _, _, _, _, _, rfl, -, -, -, t3⟩
                have HC11 : Hid (Calls Try.prog 22 #[.pointer (some ⟨pp, 0, none⟩)] V3 (StatePost after u2 j2 V3)) := state22 pp (.slice da2 (d2 - d2) dc2) after u2 j2 V3 (by
                  rw [← HO.out]
                  exact t3.block pp (World.block_lt_of_cell? V2 _ (tObj_cell HO.out).1) fun h => h)
                have HT3 : Hid (Touch (fun _ => False) w V3) := HTV.out.trans t3 fun _ _ h => h
                clear t3
                go_wp2_with fail
                refine HC11.out.mono ?_
                rintro e V4 ⟨rfl, hM4⟩
                have HF1 : Hid (Calls Try.prog 25 #[.float .f64 u1, .float .f64 u2] V4 (TruePost V4)) := same25 u1 u2 V4 HSF.out.1
                have HF2 : Hid (Calls Try.prog 25 #[.float .f64 j1, .float .f64 j2] V4 (TruePost V4)) := same25 j1 j2 V4 HSF.out.2
                have HT4 : Hid (Touch (fun _ => False) w V4) := Mem.touch HT3.out hM4
                clear hM4
                go_wp2_with fail
                refine HF1.out.mono ?_
                rintro e w' ⟨rfl, rfl⟩
                go_wp2_with fail
                refine HF2.out.mono ?_
                rintro e w' ⟨rfl, rfl⟩
                go_wp2
                go_ret
                exact ⟨rfl, HT4.out.below (Nat.le_refl _) fun _ h => h.elim⟩

end Go.Proofs.Qxb6602606a
