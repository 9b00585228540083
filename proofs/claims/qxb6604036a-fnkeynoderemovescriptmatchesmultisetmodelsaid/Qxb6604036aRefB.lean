/- refill (39), where the child behind can spare a key. -/
import Derived.Test.Qxb6604036aRefA
import Derived.BigQuiet
import Derived.BigRegion
import Derived.Deep.DeepCutAuto
import Derived.Deep.QuietTactic
import Derived.Deep.RegionHeld3
import Derived.Deep.DrawnRows
namespace Go.Proofs.Qxb6604036a
open Go.RowKit Plain
set_option linter.unusedVariables false
set_option linter.unusedSimpArgs false
attribute [local go_sem ↓] Go.wp_at_zero Go.wp_at_succ


/-- The child before cannot spare a key, or there is none. -/
def NoLeft (w : World) (ps : List Value) (i : Nat) : Prop := i = 0 ∨ ∃ i' q a k c, i = i' + 1 ∧ ps[i']? = some (.pointer (some ⟨q, 0, none⟩)) ∧ w.cell? ⟨q, 0, none⟩ = some (.slice a k c) ∧ k ≤ 32

/-- What is left where the child behind gives its first key. -/
def RefB (B : Nat) (S : Nat → Prop) (w0 : World) (n R c : NS) (j : Nat) (x y : ByteArray) (r0 : List ByteArray) (e : Ending) (w' : World) : Prop :=
  e = .returned (.tuple #[]) ∧ ∃ kv1 kv3 cv1 cv3 cps rps, St B S w0 w' [⟨c.p, kv1, cv1, c.ks ++ [x], cps⟩, ⟨n.p, n.kv, n.cv, n.ks.set j y, n.ps⟩, ⟨R.p, kv3, cv3, r0, rps⟩] ∧
    ((R.ps = [] ∧ cps = c.ps ∧ rps = [] ∧ cv1 = c.cv ∧ cv3 = R.cv) ∨ ∃ q0 u, R.ps = u :: q0 ∧ cps = c.ps ++ [u] ∧ rps = q0)

set_option maxHeartbeats 40000000 in
set_option maxRecDepth 100000 in
theorem refB (B : Nat) (S : Nat → Prop) (w0 w : World) (n R c : NS) (j : Nat) (x y : ByteArray) (r0 : List ByteArray) (h : St B S w0 w [c, n, R]) (hnk : n.ks.length ≤ 64) (hnp : n.ps.length = n.ks.length + 1) (hj : n.ks[j]? = some x)
    (hc : n.ps[j]? = some (.pointer (some ⟨c.p, 0, none⟩))) (hR : n.ps[j + 1]? = some (.pointer (some ⟨R.p, 0, none⟩))) (hck : c.ks.length = 31) (hRk : R.ks = y :: r0) (hr0 : 32 ≤ r0.length) (hr1 : r0.length ≤ 63) (hno : NoLeft w n.ps j)
    (hleaf : (R.cv = .slice none 0 0 ∧ R.ps = []) ∨ (R.ps.length = R.ks.length + 1 ∧ c.ps.length ≤ 65)) (hptr : ∀ u ∈ R.ps, ∃ p, u = .pointer (some ⟨p, 0, none⟩)) :
    Calls Try.prog 39 #[.pointer (some ⟨n.p, 0, none⟩), .int .i64 j] w (RefB B S w0 n R c j x y r0) := by
  obtain ⟨np, nkv, ncv, nks, nps⟩ := n
  obtain ⟨lp, lkv, lcv, lks, lps⟩ := R
  obtain ⟨cp, ckv, ccv, cks, cps⟩ := c
  simp only at hnk hnp hj hc hR hck hRk hleaf hptr hno
  have HPTR : Hid (∀ u ∈ lps, ∃ p, u = .pointer (some ⟨p, 0, none⟩)) := hptr
  clear hptr
  have hjl : j < nks.length := (List.getElem?_eq_some_iff.1 hj).1
  obtain ⟨a1, a2, a3, a4, ⟨ga, ca, e1, e2, e3⟩, _⟩ := h.head
  obtain ⟨b1, b2, b3, b4, _, _⟩ := h.rot.head
  obtain ⟨d1, d2, d3, d4, _, _⟩ := h.rot.rot.head
  obtain ⟨gn, cn, hn1, hn2, hn3, hn4, hn5⟩ := h.rot.keyAt (i := j) hjl
  obtain ⟨gm, cm, hm1, hm2, hm3, hm4⟩ := h.rot.kidAt (i := j) (by simp only; omega)
  simp only at a1 a2 a3 a4 b1 b2 b3 b4 d1 d2 d3 d4 e1 e2 hn1 hn2 hn5 hm1 hm2 hm4
  have hkid : ∀ i u, nps[i]? = some u → w.cell? ⟨gm, i, none⟩ = some u := fun i u hu => by
    have hi := (List.getElem?_eq_some_iff.1 hu).1
    obtain ⟨g2, c2, q1, q2, q3, q4⟩ := h.rot.kidAt (i := i) hi
    simp only at q1 q2 q4
    obtain rfl : g2 = gm := by rw [hm2] at q2; simpa using q2.symm
    rw [q4, ← hu, List.getElem?_eq_getElem]
  have hm4' := hkid _ _ hc
  have hm5 := hkid _ _ hR
  clear hm4
  have hjx : nks[j] = x := by rw [List.getElem?_eq_getElem hjl] at hj; simpa using hj
  rw [hjx] at hn5
  have hLl : lks.length = r0.length + 1 := by rw [hRk]; simp
  obtain ⟨gl, cl, hl2, hl3, hl4, hl5, hl6⟩ := h.rot.rot.keyAt (i := 0) (by simp only; omega)
  simp only at hl2 hl3 hl6
  have hly : lks[0]'(by omega) = y := by simp [hRk]
  rw [hly] at hl6
  rw [hck] at e1 e2
  obtain ⟨nn, hnn⟩ : ∃ nn, nn = nks.length := ⟨_, rfl⟩
  obtain ⟨m, hm⟩ : ∃ m, m = nps.length := ⟨_, rfl⟩
  obtain ⟨ll, hll⟩ : ∃ ll, ll = r0.length := ⟨_, rfl⟩
  have hm6 : nn < m := by omega
  have hm7 : m ≤ nn + 1 := by omega
  rw [← hnn] at hn1 hnk hjl
  rw [← hm] at hm1
  rw [← hll] at hr0 hr1
  rw [hLl, ← hll] at hl2
  subst e1 hn1 hm1 hl2
  have H0 : Hid (St B S w0 w [⟨cp, .slice ga 31 ca, ccv, cks, cps⟩, ⟨np, .slice (some ⟨gn, 0, none⟩) nn cn, .slice (some ⟨gm, 0, none⟩) m cm, nks, nps⟩, ⟨lp, .slice (some ⟨gl, 0, none⟩) (ll + 1) cl, lcv, lks, lps⟩]) := h
  have HE : Hid (nn = nks.length ∧ m = nps.length ∧ ll = r0.length ∧ lks = y :: r0 ∧ nks[j]? = some x ∧ cks.length = 31) := ⟨hnn, hm, hll, hRk, hj, hck⟩
  have HLEAF : Hid ((lcv = .slice none 0 0 ∧ lps = []) ∨ (lps.length = lks.length + 1 ∧ cps.length ≤ 65)) := hleaf
  have HNO : Hid (NoLeft w nps j ∧ ∀ i u, nps[i]? = some u → w.cell? ⟨gm, i, none⟩ = some u) := ⟨hno, hkid⟩
  have hjI : (j : Int) < (m : Int) := by omega
  have hjI2 : (j : Int) < (nn : Int) := by omega
  have hjI3 : (j : Int) + 1 < (m : Int) := by omega
  clear h hnp hj hc hR hck hRk hleaf hjx hLl hly hnn hm hll hn2 hm2 hl3 hn3 hl4 hno hkid
  obtain ⟨K1, hK1⟩ : ∃ K1, K1 = cks ++ [x] := ⟨_, rfl⟩
  obtain ⟨N, hN⟩ : ∃ N : NS, N = ⟨np, .slice (some ⟨gn, 0, none⟩) nn cn, .slice (some ⟨gm, 0, none⟩) m cm, nks, nps⟩ := ⟨_, rfl⟩
  obtain ⟨L, hL⟩ : ∃ L : NS, L = ⟨lp, .slice (some ⟨gl, 0, none⟩) (ll + 1) cl, lcv, lks, lps⟩ := ⟨_, rfl⟩
  obtain ⟨v1, w1, hr1', hst⟩ := (show St B S w0 w.drew [⟨cp, .slice ga 31 ca, ccv, cks, cps⟩, N, L] by rw [hN, hL]; exact H0.out.mem ⟨rfl, rfl, rfl, rfl⟩).app1 x (by show cks.length ≤ 1000; have := HE.out; omega)
  rw [show (⟨cp, .slice ga 31 ca, ccv, cks, cps⟩ : NS).ks ++ [x] = K1 from hK1.symm] at hst
  obtain ⟨g1, c1, hv1, q1, q2, q3⟩ := hst
  simp only [Ending.returned.injEq] at hv1
  subst hv1
  simp only at q1
  have HR1 : Hid ((Builtin.append_ #[23, 23] 23 #[.slice ga 31 ca, .slice (some ⟨w.heap.size, 0, none⟩) 1 1]).run Try.prog (w.drew.alloc (.cells #[.string x] 9)) = .ok (.slice g1 K1.length c1) w1) := hr1'
  have HST : Hid (St B S w0 (w1.setCell ⟨cp, 0, none⟩ (.slice g1 K1.length c1)) [⟨cp, .slice g1 K1.length c1, ccv, K1, cps⟩, N, L]) := q3
  have HNL : Hid (K1 = cks ++ [x] ∧ N = ⟨np, .slice (some ⟨gn, 0, none⟩) nn cn, .slice (some ⟨gm, 0, none⟩) m cm, nks, nps⟩ ∧ L = ⟨lp, .slice (some ⟨gl, 0, none⟩) (ll + 1) cl, lcv, lks, lps⟩) := ⟨hK1, hN, hL⟩
  clear hK1 hN hL hr1' q3 H0
  go_enter Try.func39, Try.ntmps39
  go_upto_region 8 with fail
  go_cut [103] from 103 to 120 (fun s wc => s = .bool false ∧ w = wc)
  case first =>
    clear q1 q2
    rcases HNO.out.1 with hj0 | ⟨i', q, aq, kq, cq, hi', hq1, hq2, hq3⟩
    · subst hj0
      go_wp2
      go_meet
      case rel => exact ⟨rfl, rfl⟩
    · have hq4 := HNO.out.2 _ _ hq1
      subst hi'
      have hkI : ¬ (32 : Int) < (kq : Int) := by omega
      have hi2 : (i' : Int) < (m : Int) := by omega
      clear hq1
      go_wp2
      go_meet
      case rel => exact ⟨rfl, rfl⟩
  case rest =>
    obtain ⟨rfl, rfl⟩ := hcut
    clear HNO
    go_wp2
    go_cut [] from 243 to 258 (fun wc => Hid (St B S w0 wc [⟨cp, .slice g1 K1.length c1, ccv, K1, cps⟩, N, L]))
    case first =>
      go_region_law (refine step_append_run rfl _ _ 23 23 rfl (.slice ga 31 ca) (.slice (some ⟨w.heap.size, 0, none⟩) 1 1) (by simp [Act.eval, Act.put]) (by simp [Act.eval, Act.put]) HR1.out ?_)
      all_goals
        go_wp2
        go_meet
        case rel => exact HST.out
    case rest =>
    obtain ⟨wA, rfl⟩ : ∃ wA : World, wA = wc := ⟨_, rfl⟩
    have HA : Hid (St B S w0 wA [⟨cp, .slice g1 K1.length c1, ccv, K1, cps⟩, N, L]) := hcut
    clear hcut HR1 HST q1 q2 a1 a2 a3 a4 b1 b2 b3 b4 d1 d2 d3 d4 hn4 hn5 hm3 hm4' hm5 hl5 hl6
    have hB : St B S w0 wA [⟨np, .slice (some ⟨gn, 0, none⟩) nn cn, .slice (some ⟨gm, 0, none⟩) m cm, nks, nps⟩, L, ⟨cp, .slice g1 K1.length c1, ccv, K1, cps⟩] := by
      have := HA.out.rot
      rw [HNL.out.2.1] at this; exact this
    obtain ⟨b1, b2, b3, b4, _, _⟩ := hB.head
    obtain ⟨gn', cn', hn1, _, hn3, hn4, hn5⟩ := hB.keyAt (i := j) (by show j < nks.length; rw [← HE.out.1]; exact hjl)
    simp only [Value.slice.injEq, Option.some.injEq, Addr.mk.injEq, and_true, true_and] at hn1
    obtain ⟨rfl, -, rfl⟩ := hn1
    have hC : St B S w0 wA [⟨lp, .slice (some ⟨gl, 0, none⟩) (ll + 1) cl, lcv, lks, lps⟩, ⟨cp, .slice g1 K1.length c1, ccv, K1, cps⟩, N] := by
      have := HA.out.rot.rot
      rw [HNL.out.2.2] at this; exact this
    obtain ⟨d1, d2, d3, d4, _, _⟩ := hC.head
    have hlll : 0 < lks.length := by rw [HE.out.2.2.2.1]; simp
    obtain ⟨gl', cl', hl2, _, hl4, hl5, hl6⟩ := hC.keyAt (i := 0) hlll
    simp only [Value.slice.injEq, Option.some.injEq, Addr.mk.injEq, and_true, true_and] at hl2
    obtain ⟨rfl, -, rfl⟩ := hl2
    have hly : lks[0] = y := by
      have e1 := HE.out.2.2.2.1
      subst e1
      simp
    simp only at b1 b2 b3 b4 hn5 d1 d2 d3 d4 hl6
    rw [hly] at hl6
    have hfz : ∀ o, wA.frozen? ⟨gn, o, none⟩ = false := hn3
    have HSET : Hid (∀ W, Mem wA W → St B S w0 (W.setCell ⟨gn, j, none⟩ (.string y)) [⟨np, .slice (some ⟨gn, 0, none⟩) nn cn, .slice (some ⟨gm, 0, none⟩) m cm, nks.set j y, nps⟩, L, ⟨cp, .slice g1 K1.length c1, ccv, K1, cps⟩]) := fun W hW => (hB.mem hW).setKey (g := gn) rfl (by show j < nks.length; rw [← HE.out.1]; exact hjl) y
    obtain ⟨z0, hz0⟩ : ∃ z0, z0 = nks[j]'(by rw [← HE.out.1]; exact hjl) := ⟨_, rfl⟩
    rw [← hz0] at hn5
    clear hB hC hn3 hl4 hlll hly hz0
    go_wp2
    go_cut [] from 259 to 270 (fun wc => Hid (St B S w0 wc [⟨np, .slice (some ⟨gn, 0, none⟩) nn cn, .slice (some ⟨gm, 0, none⟩) m cm, nks.set j y, nps⟩, L, ⟨cp, .slice g1 K1.length c1, ccv, K1, cps⟩]))
    case first =>
      go_region
      all_goals
        go_wp2
        go_meet
        case rel => exact St.mem (HSET.out wA (Mem.refl _)) ⟨rfl, rfl, rfl, rfl⟩
    case rest =>
      obtain ⟨wB, rfl⟩ : ∃ wB : World, wB = wc := ⟨_, rfl⟩
      have HB : Hid (St B S w0 wB [⟨np, .slice (some ⟨gn, 0, none⟩) nn cn, .slice (some ⟨gm, 0, none⟩) m cm, nks.set j y, nps⟩, L, ⟨cp, .slice g1 K1.length c1, ccv, K1, cps⟩]) := hcut
      clear hcut HSET HA b1 b2 b3 b4 d1 d2 d3 d4 hn4 hn5 hl5 hl6 hfz
      obtain ⟨N1, hN1⟩ : ∃ N1 : NS, N1 = ⟨np, .slice (some ⟨gn, 0, none⟩) nn cn, .slice (some ⟨gm, 0, none⟩) m cm, nks.set j y, nps⟩ := ⟨_, rfl⟩
      obtain ⟨C1, hC1⟩ : ∃ C1 : NS, C1 = ⟨cp, .slice g1 K1.length c1, ccv, K1, cps⟩ := ⟨_, rfl⟩
      have HNC : Hid (N1 = ⟨np, .slice (some ⟨gn, 0, none⟩) nn cn, .slice (some ⟨gm, 0, none⟩) m cm, nks.set j y, nps⟩ ∧ C1 = ⟨cp, .slice g1 K1.length c1, ccv, K1, cps⟩) := ⟨hN1, hC1⟩
      have hB2 : St B S w0 wB [⟨lp, .slice (some ⟨gl, 0, none⟩) (ll + 1) cl, lcv, lks, lps⟩, C1, N1] := by
        have := HB.out.rot
        rw [HNL.out.2.2, ← hN1, ← hC1] at this; exact this
      obtain ⟨d1, d2, d3, d4, _, _⟩ := hB2.head
      simp only at d1 d2 d3 d4
      have HC38 : Hid (Calls Try.prog 38 #[.slice (some ⟨gl, 0, none⟩) (ll + 1) cl, .int .i64 0, .int .i64 1] wB (StepK B S w0 ⟨lp, .slice (some ⟨gl, 0, none⟩) (ll + 1) cl, lcv, lks, lps⟩ [C1, N1] r0)) := by
        have hlll : 0 < lks.length := by rw [HE.out.2.2.2.1]; simp
        have := hB2.del (i := 0) hlll
        have e : lks.take 0 ++ lks.drop (0 + 1) = r0 := by
          rw [HE.out.2.2.2.1]; simp
        rw [show ((⟨lp, .slice (some ⟨gl, 0, none⟩) (ll + 1) cl, lcv, lks, lps⟩ : NS).ks.take 0 ++ (⟨lp, .slice (some ⟨gl, 0, none⟩) (ll + 1) cl, lcv, lks, lps⟩ : NS).ks.drop (0 + 1)) = r0 from e] at this
        exact this
      clear hB2 hN1 hC1
      go_wp2_with fail
      refine HC38.out.mono ?_
      clear HC38 d1 d2 d3 d4
      rintro e w3 ⟨g3, c3, rfl, q1, q2, q3⟩
      simp only at q1
      have H3 : Hid (St B S w0 (w3.setCell ⟨lp, 0, none⟩ (.slice g3 r0.length c3)) [⟨lp, .slice g3 r0.length c3, lcv, r0, lps⟩, C1, N1]) := q3
      obtain ⟨W3, hW3⟩ : ∃ W3, W3 = w3.setCell ⟨lp, 0, none⟩ (.slice g3 r0.length c3) := ⟨_, rfl⟩
      rw [← hW3] at H3
      obtain ⟨d1, d2, d3, d4, _, _⟩ := H3.out.head
      simp only at d1 d2 d3 d4
      have hneq := fun w a n c => run_neq_slice_nil_any (P := Try.prog) w 47 27 a n c 0 0 Try.underlying47
      have D2 : Hid (W3.cell? ⟨lp, 1, none⟩ = some lcv) := d2
      rw [hW3] at d2
      have HW3 : Hid (W3 = w3.setCell ⟨lp, 0, none⟩ (.slice g3 r0.length c3)) := hW3
      clear q3 d1 d3 d4 hW3
      rcases HLEAF.out with ⟨hlcv, hlps⟩ | ⟨hlps, hcpl⟩
      · subst hlcv
        go_wp2
        go_end0
        have hf := H3.out.rot
        rw [HNC.out.1, HNC.out.2, HNL.out.1, HW3.out] at hf
        exact ⟨rfl, _, _, _, _, _, _, hf, .inl ⟨hlps, rfl, hlps, rfl, rfl⟩⟩
      · obtain ⟨q0, u, hq⟩ : ∃ q0 u, lps = u :: q0 := by
          rcases lps with _ | ⟨u, q0⟩
          · simp at hlps
          · exact ⟨q0, u, rfl⟩
        obtain ⟨pu, hpu⟩ := HPTR.out u (by rw [hq]; simp)
        subst hpu
        have hlpl : lps.length = ll + 2 := by rw [hlps, HE.out.2.2.2.1, HE.out.2.2.1]; simp
        obtain ⟨gk, ck, hk1, _, hk3, hk4⟩ := H3.out.kidAt (i := 0) (by show 0 < lps.length; omega)
        simp only at hk1 hk4
        have hku : lps[0]'(by omega) = .pointer (some ⟨pu, 0, none⟩) := by
          subst hq
          simp
        rw [hku] at hk4
        rw [hlpl] at hk1
        subst hk1
        obtain ⟨cn2, hcn2⟩ : ∃ cn2, cn2 = cps.length := ⟨_, rfl⟩
        have hC2 : St B S w0 W3 [⟨cp, .slice g1 K1.length c1, ccv, K1, cps⟩, N1, ⟨lp, .slice g3 r0.length c3, .slice (some ⟨gk, 0, none⟩) (ll + 2) ck, r0, lps⟩] := by
          have := H3.out.rot
          rw [HNC.out.2] at this; exact this
        obtain ⟨a1, a2, a3, a4, _, ⟨g4, c4, e1, e2, e3⟩⟩ := hC2.head
        simp only at a1 a2 a3 a4 e1 e2
        rw [← hcn2] at e1 e2 hcpl
        subst e1
        have HQ : Hid (lps = .pointer (some ⟨pu, 0, none⟩) :: q0 ∧ lps.length = ll + 2 ∧ cn2 = cps.length) := ⟨hq, hlpl, hcn2⟩
        obtain ⟨L3, hL3⟩ : ∃ L3 : NS, L3 = ⟨lp, .slice g3 r0.length c3, .slice (some ⟨gk, 0, none⟩) (ll + 2) ck, r0, lps⟩ := ⟨_, rfl⟩
        obtain ⟨PS, hPS⟩ : ∃ PS, PS = cps ++ [Value.pointer (some ⟨pu, 0, none⟩)] := ⟨_, rfl⟩
        obtain ⟨v5, w5, hr5, hst5⟩ := (show St B S w0 W3.drew [⟨cp, .slice g1 K1.length c1, .slice g4 cn2 c4, K1, cps⟩, N1, L3] by rw [hL3]; exact hC2.mem ⟨rfl, rfl, rfl, rfl⟩).appP1 (.pointer (some ⟨pu, 0, none⟩)) rfl (by show cps.length ≤ 1000; omega)
        rw [show (⟨cp, .slice g1 K1.length c1, .slice g4 cn2 c4, K1, cps⟩ : NS).ps ++ [Value.pointer (some ⟨pu, 0, none⟩)] = PS from hPS.symm] at hst5
        obtain ⟨g5, c5, hv5, t1, t2, t3⟩ := hst5
        simp only [Ending.returned.injEq] at hv5
        subst hv5
        simp only at t1
        have HR5 : Hid ((Builtin.append_ #[47, 47] 47 #[.slice g4 cn2 c4, .slice (some ⟨W3.heap.size, 0, none⟩) 1 1]).run Try.prog (W3.drew.alloc (.cells #[.pointer (some ⟨pu, 0, none⟩)] 27)) = .ok (.slice g5 PS.length c5) w5) := hr5
        have HST5 : Hid (St B S w0 (w5.setCell ⟨cp, 1, none⟩ (.slice g5 PS.length c5)) [⟨cp, .slice g1 K1.length c1, .slice g5 PS.length c5, K1, PS⟩, N1, L3]) := t3
        have HX : Hid (PS = cps ++ [Value.pointer (some ⟨pu, 0, none⟩)] ∧ L3 = ⟨lp, .slice g3 r0.length c3, .slice (some ⟨gk, 0, none⟩) (ll + 2) ck, r0, lps⟩) := ⟨hPS, hL3⟩
        have d2' : W3.cell? ⟨lp, 1, none⟩ = some (.slice (some ⟨gk, 0, none⟩) (ll + 2) ck) := D2.out
        clear hC2 hq hlpl hku hcn2 hL3 hPS hlps D2 hr5 t3
        go_wp2
        rw [← HW3.out]
        clear q1 q2 d2
        have hb7 : (0 : Int) < (ll : Int) + 2 := by omega
        go_cut [] from 284 to 298 (fun wc => Hid (St B S w0 wc [⟨cp, .slice g1 K1.length c1, .slice g5 PS.length c5, K1, PS⟩, N1, L3]))
        case first =>
          go_region_law (refine step_append_run rfl _ _ 47 47 rfl (.slice g4 cn2 c4) (.slice (some ⟨W3.heap.size, 0, none⟩) 1 1) (by simp [Act.eval, Act.put]) (by simp [Act.eval, Act.put]) HR5.out ?_)
          all_goals
            go_wp2
            go_meet
            case rel => exact HST5.out
        case rest =>
          obtain ⟨wC, rfl⟩ : ∃ wC : World, wC = wc := ⟨_, rfl⟩
          have hD := hcut.out
          have hD2 : St B S w0 wC [⟨lp, .slice g3 r0.length c3, .slice (some ⟨gk, 0, none⟩) (ll + 2) ck, r0, lps⟩, ⟨cp, .slice g1 K1.length c1, .slice g5 PS.length c5, K1, PS⟩, N1] := by
            have := hD.rot.rot
            rw [HX.out.2] at this; exact this
          clear hcut HR5 HST5 t1 t2 a1 a2 a3 a4 hk3 hk4 d2'
          obtain ⟨d1, d2, d3, d4, _, _⟩ := hD2.head
          simp only at d1 d2 d3 d4
          obtain ⟨C5, hC5⟩ : ∃ C5 : NS, C5 = ⟨cp, .slice g1 K1.length c1, .slice g5 PS.length c5, K1, PS⟩ := ⟨_, rfl⟩
          rw [← hC5] at hD2
          have HC5 : Hid (C5 = ⟨cp, .slice g1 K1.length c1, .slice g5 PS.length c5, K1, PS⟩) := hC5
          have HC46 : Hid (Calls Try.prog 46 #[.slice (some ⟨gk, 0, none⟩) (ll + 2) ck, .int .i64 0, .int .i64 1] wC (StepC B S w0 ⟨lp, .slice g3 r0.length c3, .slice (some ⟨gk, 0, none⟩) (ll + 2) ck, r0, lps⟩ [C5, N1] q0)) := by
            have := hD2.delP (i := 0) (by show 0 < lps.length; have := HQ.out.2.1; omega)
            have e : lps.take 0 ++ lps.drop (0 + 1) = q0 := by
              rw [HQ.out.1]; simp
            rw [show ((⟨lp, .slice g3 r0.length c3, .slice (some ⟨gk, 0, none⟩) (ll + 2) ck, r0, lps⟩ : NS).ps.take 0 ++ (⟨lp, .slice g3 r0.length c3, .slice (some ⟨gk, 0, none⟩) (ll + 2) ck, r0, lps⟩ : NS).ps.drop (0 + 1)) = q0 from e] at this
            exact this
          clear hD hD2 hC5
          go_wp2_with fail
          refine HC46.out.mono ?_
          clear HC46 d1 d2 d3 d4
          rintro e w6 ⟨g6, c6, rfl, q1, q2, q3⟩
          have H6 : Hid (St B S w0 (w6.setCell ⟨lp, 1, none⟩ (.slice g6 q0.length c6)) [⟨lp, .slice g3 r0.length c3, .slice g6 q0.length c6, r0, q0⟩, C5, N1]) := q3
          clear q3
          simp only at q1
          go_wp2
          go_end0
          have hf := H6.out.rot
          rw [HNC.out.1, HC5.out, HNL.out.1, HX.out.1] at hf
          exact ⟨rfl, _, _, _, _, _, _, hf, .inr ⟨q0, _, HQ.out.1, rfl, rfl⟩⟩

end Go.Proofs.Qxb6604036a
