/- refill (39), where the child before can spare a key. -/
import Derived.Test.Qxb6604036aNd
import Derived.BigQuiet
import Derived.BigRegion
import Derived.Deep.DeepCutAuto
import Derived.Deep.QuietTactic
import Derived.Deep.RegionHeld3
import Derived.Deep.DrawnRows
namespace Go.Proofs.Qxb6604036a
open Go.RowKit Plain
set_option linter.unusedVariables false
set_option linter.unusedSimpArgs false
attribute [local go_sem ↓] Go.wp_at_zero Go.wp_at_succ

theorem St.rot {B : Nat} {S : Nat → Prop} {w0 w : World} {a b c : NS} (h : St B S w0 w [a, b, c]) : St B S w0 w [b, c, a] := h.perm (List.perm_append_comm (l₁ := [a]) (l₂ := [b, c]))
theorem St.swap {B : Nat} {S : Nat → Prop} {w0 w : World} {a b c : NS} (h : St B S w0 w [a, b, c]) : St B S w0 w [b, a, c] := h.perm (List.Perm.swap b a [c])

/-- What is left where the child before gives its last key. -/
def RefA (B : Nat) (S : Nat → Prop) (w0 : World) (n L c : NS) (j : Nat) (x y : ByteArray) (l0 : List ByteArray) (e : Ending) (w' : World) : Prop :=
  e = .returned (.tuple #[]) ∧ ∃ kv1 kv3 cv1 cv3 cps lps, St B S w0 w' [⟨c.p, kv1, cv1, x :: c.ks, cps⟩, ⟨n.p, n.kv, n.cv, n.ks.set j y, n.ps⟩, ⟨L.p, kv3, cv3, l0, lps⟩] ∧
    ((L.ps = [] ∧ cps = c.ps ∧ lps = [] ∧ cv1 = c.cv ∧ cv3 = L.cv) ∨ ∃ q0 u, L.ps = q0 ++ [u] ∧ cps = u :: c.ps ∧ lps = q0)

set_option maxHeartbeats 40000000 in
set_option maxRecDepth 100000 in
theorem refA (B : Nat) (S : Nat → Prop) (w0 w : World) (n L c : NS) (j : Nat) (x y : ByteArray) (l0 : List ByteArray) (h : St B S w0 w [c, n, L]) (hnk : n.ks.length ≤ 64) (hnp : n.ps.length = n.ks.length + 1) (hj : n.ks[j]? = some x)
    (hc : n.ps[j + 1]? = some (.pointer (some ⟨c.p, 0, none⟩))) (hL : n.ps[j]? = some (.pointer (some ⟨L.p, 0, none⟩))) (hck : c.ks.length = 31) (hLk : L.ks = l0 ++ [y]) (hl0 : 32 ≤ l0.length) (hl1 : l0.length ≤ 63)
    (hleaf : (L.cv = .slice none 0 0 ∧ L.ps = []) ∨ (L.ps.length = L.ks.length + 1 ∧ c.ps.length ≤ 65)) (hptr : ∀ u ∈ L.ps, ∃ p, u = .pointer (some ⟨p, 0, none⟩)) :
    Calls Try.prog 39 #[.pointer (some ⟨n.p, 0, none⟩), .int .i64 ((j : Int) + 1)] w (RefA B S w0 n L c j x y l0) := by
  obtain ⟨np, nkv, ncv, nks, nps⟩ := n
  obtain ⟨lp, lkv, lcv, lks, lps⟩ := L
  obtain ⟨cp, ckv, ccv, cks, cps⟩ := c
  simp only at hnk hnp hj hc hL hck hLk hleaf hptr
  have HPTR : Hid (∀ u ∈ lps, ∃ p, u = .pointer (some ⟨p, 0, none⟩)) := hptr
  clear hptr
  have hjl : j < nks.length := (List.getElem?_eq_some_iff.1 hj).1
  obtain ⟨a1, a2, a3, a4, ⟨ga, ca, e1, e2, e3⟩, _⟩ := h.head
  obtain ⟨b1, b2, b3, b4, _, _⟩ := h.rot.head
  obtain ⟨d1, d2, d3, d4, _, _⟩ := h.rot.rot.head
  obtain ⟨gn, cn, hn1, hn2, hn3, hn4, hn5⟩ := h.rot.keyAt (i := j) hjl
  obtain ⟨gm, cm, hm1, hm2, hm3, hm4⟩ := h.rot.kidAt (i := j + 1) (by simp only; omega)
  simp only at a1 a2 a3 a4 b1 b2 b3 b4 d1 d2 d3 d4 e1 e2 hn1 hn2 hn5 hm1 hm2 hm4
  have hm5 : w.cell? ⟨gm, j, none⟩ = some (.pointer (some ⟨lp, 0, none⟩)) := by
    obtain ⟨g2, c2, q1, q2, q3, q4⟩ := h.rot.kidAt (i := j) (by simp only; omega)
    simp only at q1 q2 q4
    obtain rfl : g2 = gm := by rw [hm2] at q2; simpa using q2.symm
    rw [q4, ← hL, List.getElem?_eq_getElem]
  rw [List.getElem?_eq_getElem (by omega)] at hc
  simp only [Option.some.injEq] at hc
  rw [hc] at hm4
  have hjx : nks[j] = x := by rw [List.getElem?_eq_getElem hjl] at hj; simpa using hj
  rw [hjx] at hn5
  have hLl : lks.length = l0.length + 1 := by rw [hLk]; simp
  obtain ⟨gl, cl, hl2, hl3, hl4, hl5, hl6⟩ := h.rot.rot.keyAt (i := l0.length) (by simp only; omega)
  simp only at hl2 hl3 hl6
  have hly : lks[l0.length]'(by omega) = y := by simp [hLk]
  rw [hly] at hl6
  rw [hck] at e1 e2
  obtain ⟨nn, hnn⟩ : ∃ nn, nn = nks.length := ⟨_, rfl⟩
  obtain ⟨m, hm⟩ : ∃ m, m = nps.length := ⟨_, rfl⟩
  obtain ⟨ll, hll⟩ : ∃ ll, ll = l0.length := ⟨_, rfl⟩
  have hm6 : nn < m := by omega
  have hm7 : m ≤ nn + 1 := by omega
  rw [← hnn] at hn1 hnk hjl
  rw [← hm] at hm1
  rw [← hll] at hl0 hl1 hl6
  rw [hLl, ← hll] at hl2
  subst e1 hn1 hm1 hl2
  have H0 : Hid (St B S w0 w [⟨cp, .slice ga 31 ca, ccv, cks, cps⟩, ⟨np, .slice (some ⟨gn, 0, none⟩) nn cn, .slice (some ⟨gm, 0, none⟩) m cm, nks, nps⟩, ⟨lp, .slice (some ⟨gl, 0, none⟩) (ll + 1) cl, lcv, lks, lps⟩]) := h
  have HE : Hid (nn = nks.length ∧ m = nps.length ∧ ll = l0.length ∧ lks = l0 ++ [y] ∧ nks[j]? = some x ∧ cks.length = 31) := ⟨hnn, hm, hll, hLk, hj, hck⟩
  have HLEAF : Hid ((lcv = .slice none 0 0 ∧ lps = []) ∨ (lps.length = lks.length + 1 ∧ cps.length ≤ 65)) := hleaf
  have hjI : (j : Int) < (m : Int) := by omega
  have hjI2 : (j : Int) < (nn : Int) := by omega
  clear h hnp hj hc hL hck hLk hleaf hjx hLl hly hnn hm hll hn2 hm2 hl3 hn3 hl4
  go_enter Try.func39, Try.ntmps39
  go_wp2
  obtain ⟨K1, hK1⟩ : ∃ K1, K1 = x :: cks := ⟨_, rfl⟩
  obtain ⟨N, hN⟩ : ∃ N : NS, N = ⟨np, .slice (some ⟨gn, 0, none⟩) nn cn, .slice (some ⟨gm, 0, none⟩) m cm, nks, nps⟩ := ⟨_, rfl⟩
  obtain ⟨L, hL⟩ : ∃ L : NS, L = ⟨lp, .slice (some ⟨gl, 0, none⟩) (ll + 1) cl, lcv, lks, lps⟩ := ⟨_, rfl⟩
  have HI : Hid (∀ W, Mem w W → Calls Try.prog 34 #[.slice ga 31 ca, .int .i64 0, .slice (some ⟨W.heap.size, 0, none⟩) 1 1] (W.alloc (.cells #[.string x] 9)) (StepK B S w0 ⟨cp, .slice ga 31 ca, ccv, cks, cps⟩ [N, L] K1)) := fun W hW => by
    have h1 := H0.out.mem hW
    rw [← hN, ← hL] at h1
    rw [hK1]; exact h1.ins0 x (by simp only; have := HE.out; omega)
  rw [← hN, ← hL] at H0
  have HNL : Hid (K1 = x :: cks ∧ N = ⟨np, .slice (some ⟨gn, 0, none⟩) nn cn, .slice (some ⟨gm, 0, none⟩) m cm, nks, nps⟩ ∧ L = ⟨lp, .slice (some ⟨gl, 0, none⟩) (ll + 1) cl, lcv, lks, lps⟩) := ⟨hK1, hN, hL⟩
  clear hK1 hN hL
  have hw2 : IntKind.i64.wrap (j : Int) = (j : Int) := by rw [IntKind.wrap_i64]; omega
  have hw3 : IntKind.i64.wrap ((j : Int) + 1 - 1) = (j : Int) := by rw [IntKind.wrap_i64]; omega
  have hw4 : (0 : Int) ≤ (j : Int) := by omega
  go_cut [] from 135 to 151 (fun wc => Hid (∃ g c', St B S w0 wc [⟨cp, .slice g K1.length c', ccv, K1, cps⟩, N, L]))
  case first =>
    go_region_with (go_at_call 34; refine (HI.out w.drew ⟨rfl, rfl, rfl, rfl⟩).mono ?_; rintro e w' ⟨g, c', rfl, q1, q2, q3⟩)
    all_goals
      go_wp2
      go_meet
      case rel => exact ⟨g, c', q3⟩
  case rest =>
    obtain ⟨wA, rfl⟩ : ∃ wA : World, wA = wc := ⟨_, rfl⟩
    obtain ⟨g1, c1, hA⟩ := hcut.out
    have HA : Hid (St B S w0 wA [⟨cp, .slice g1 K1.length c1, ccv, K1, cps⟩, N, L]) := hA
    clear hcut HI hA a1 a2 a3 a4 b1 b2 b3 b4 d1 d2 d3 d4 hn4 hn5 hm3 hm4 hm5 hl5 hl6 H0
    have hKl : K1.length = 32 := by rw [HNL.out.1]; simp [HE.out.2.2.2.2.2]
    -- the state, its parts written out
    have hB : St B S w0 wA [⟨np, .slice (some ⟨gn, 0, none⟩) nn cn, .slice (some ⟨gm, 0, none⟩) m cm, nks, nps⟩, L, ⟨cp, .slice g1 K1.length c1, ccv, K1, cps⟩] := by
      have := HA.out.rot
      rw [HNL.out.2.1] at this; exact this
    obtain ⟨b1, b2, b3, b4, _, _⟩ := hB.head
    obtain ⟨gn', cn', hn1, _, hn3, hn4, hn5⟩ := hB.keyAt (i := j) (by show j < nks.length; rw [← HE.out.1]; exact hjl)
    simp only [Value.slice.injEq, Option.some.injEq, Addr.mk.injEq, and_true, true_and] at hn1
    obtain ⟨rfl, -, rfl⟩ := hn1
    have hC : St B S w0 wA [⟨lp, .slice (some ⟨gl, 0, none⟩) (ll + 1) cl, lcv, lks, lps⟩, ⟨cp, .slice g1 K1.length c1, ccv, K1, cps⟩, N] := by
      have := HA.out.rot.rot
      rw [HNL.out.2.2] at this; exact this
    obtain ⟨d1, d2, d3, d4, _, _⟩ := hC.head
    have hlll : ll < lks.length := by rw [HE.out.2.2.2.1, HE.out.2.2.1]; simp
    obtain ⟨gl', cl', hl2, _, hl4, hl5, hl6⟩ := hC.keyAt (i := ll) hlll
    simp only [Value.slice.injEq, Option.some.injEq, Addr.mk.injEq, and_true, true_and] at hl2
    obtain ⟨rfl, -, rfl⟩ := hl2
    have hly : lks[ll] = y := by
      have e1 := HE.out.2.2.2.1
      have e2 := HE.out.2.2.1
      subst e1
      simp [e2]
    simp only at b1 b2 b3 b4 hn5 d1 d2 d3 d4 hl6
    rw [hly] at hl6
    have hfz : ∀ o, wA.frozen? ⟨gn, o, none⟩ = false := hn3
    have HSET : Hid (∀ W, Mem wA W → St B S w0 (W.setCell ⟨gn, j, none⟩ (.string y)) [⟨np, .slice (some ⟨gn, 0, none⟩) nn cn, .slice (some ⟨gm, 0, none⟩) m cm, nks.set j y, nps⟩, L, ⟨cp, .slice g1 K1.length c1, ccv, K1, cps⟩]) := fun W hW => (hB.mem hW).setKey (g := gn) rfl (by show j < nks.length; rw [← HE.out.1]; exact hjl) y
    obtain ⟨z0, hz0⟩ : ∃ z0, z0 = nks[j]'(by rw [← HE.out.1]; exact hjl) := ⟨_, rfl⟩
    rw [← hz0] at hn5
    clear hB hC hn3 hl4 hlll hly hz0
    go_wp2
    go_cut [] from 152 to 165 (fun wc => Hid (St B S w0 wc [⟨np, .slice (some ⟨gn, 0, none⟩) nn cn, .slice (some ⟨gm, 0, none⟩) m cm, nks.set j y, nps⟩, L, ⟨cp, .slice g1 K1.length c1, ccv, K1, cps⟩]))
    case first =>
      go_region
      all_goals
        go_wp2
        go_meet
        case rel => exact St.mem (HSET.out wA (Mem.refl _)) ⟨rfl, rfl, rfl, rfl⟩
    case rest =>
      obtain ⟨wB, rfl⟩ : ∃ wB : World, wB = wc := ⟨_, rfl⟩
      have HB : Hid (St B S w0 wB [⟨np, .slice (some ⟨gn, 0, none⟩) nn cn, .slice (some ⟨gm, 0, none⟩) m cm, nks.set j y, nps⟩, L, ⟨cp, .slice g1 K1.length c1, ccv, K1, cps⟩]) := hcut
      clear hcut HSET HA b1 b2 b3 b4 d1 d2 d3 d4 hn4 hn5 hl5 hl6 hfz
      obtain ⟨N1, hN1⟩ : ∃ N1 : NS, N1 = ⟨np, .slice (some ⟨gn, 0, none⟩) nn cn, .slice (some ⟨gm, 0, none⟩) m cm, nks.set j y, nps⟩ := ⟨_, rfl⟩
      obtain ⟨C1, hC1⟩ : ∃ C1 : NS, C1 = ⟨cp, .slice g1 K1.length c1, ccv, K1, cps⟩ := ⟨_, rfl⟩
      have HNC : Hid (N1 = ⟨np, .slice (some ⟨gn, 0, none⟩) nn cn, .slice (some ⟨gm, 0, none⟩) m cm, nks.set j y, nps⟩ ∧ C1 = ⟨cp, .slice g1 K1.length c1, ccv, K1, cps⟩) := ⟨hN1, hC1⟩
      have hB2 : St B S w0 wB [⟨lp, .slice (some ⟨gl, 0, none⟩) (ll + 1) cl, lcv, lks, lps⟩, C1, N1] := by
        have := HB.out.rot
        rw [HNL.out.2.2, ← hN1, ← hC1] at this; exact this
      obtain ⟨d1, d2, d3, d4, _, _⟩ := hB2.head
      simp only at d1 d2 d3 d4
      have HC38 : Hid (Calls Try.prog 38 #[.slice (some ⟨gl, 0, none⟩) (ll + 1) cl, .int .i64 (ll : Int), .int .i64 ((ll : Int) + 1)] wB (StepK B S w0 ⟨lp, .slice (some ⟨gl, 0, none⟩) (ll + 1) cl, lcv, lks, lps⟩ [C1, N1] l0)) := by
        have hlll : ll < lks.length := by rw [HE.out.2.2.2.1, HE.out.2.2.1]; simp
        have := hB2.del (i := ll) hlll
        have e : lks.take ll ++ lks.drop (ll + 1) = l0 := by
          rw [HE.out.2.2.2.1, HE.out.2.2.1]; simp
        rw [show ((⟨lp, .slice (some ⟨gl, 0, none⟩) (ll + 1) cl, lcv, lks, lps⟩ : NS).ks.take ll ++ (⟨lp, .slice (some ⟨gl, 0, none⟩) (ll + 1) cl, lcv, lks, lps⟩ : NS).ks.drop (ll + 1)) = l0 from e] at this
        exact this
      clear hB2 hN1 hC1
      go_wp2_with fail
      refine HC38.out.mono ?_
      clear HC38 d1 d2 d3 d4
      rintro e w3 ⟨g3, c3, rfl, q1, q2, q3⟩
      have H3 : Hid (St B S w0 (w3.setCell ⟨lp, 0, none⟩ (.slice g3 l0.length c3)) [⟨lp, .slice g3 l0.length c3, lcv, l0, lps⟩, C1, N1]) := q3
      obtain ⟨W3, hW3⟩ : ∃ W3, W3 = w3.setCell ⟨lp, 0, none⟩ (.slice g3 l0.length c3) := ⟨_, rfl⟩
      rw [← hW3] at H3
      obtain ⟨d1, d2, d3, d4, _, _⟩ := H3.out.head
      simp only at d1 d2 d3 d4
      have hneq := fun w a n c => run_neq_slice_nil_any (P := Try.prog) w 47 27 a n c 0 0 Try.underlying47
      have D2 : Hid (W3.cell? ⟨lp, 1, none⟩ = some lcv) := d2
      rw [hW3] at d2
      have HW3 : Hid (W3 = w3.setCell ⟨lp, 0, none⟩ (.slice g3 l0.length c3)) := hW3
      clear q3 d1 d3 d4 hW3
      rcases HLEAF.out with ⟨hlcv, hlps⟩ | ⟨hlps, hcpl⟩
      · subst hlcv
        go_wp2
        go_end0
        have hf := H3.out.rot
        rw [HNC.out.1, HNC.out.2, HNL.out.1, HW3.out] at hf
        exact ⟨rfl, _, _, _, _, _, _, hf, .inl ⟨hlps, rfl, hlps, rfl, rfl⟩⟩
      · obtain ⟨q0, u, hq⟩ : ∃ q0 u, lps = q0 ++ [u] := by
          rcases List.eq_nil_or_concat lps with e | ⟨q0, u, e⟩
          · rw [e] at hlps; simp at hlps
          · exact ⟨q0, u, by rw [e]; simp⟩
        obtain ⟨pu, hpu⟩ := HPTR.out u (by rw [hq]; simp)
        subst hpu
        have hq0 : q0.length = ll + 1 := by
          have h1 := HE.out.2.2.2.1
          have h2 := HE.out.2.2.1
          rw [hq, h1] at hlps; simp at hlps; omega
        have hlpl : lps.length = ll + 2 := by rw [hq]; simp [hq0]
        obtain ⟨gk, ck, hk1, _, hk3, hk4⟩ := H3.out.kidAt (i := ll + 1) (by show ll + 1 < lps.length; omega)
        simp only at hk1 hk4
        have hku : lps[ll + 1]'(by omega) = .pointer (some ⟨pu, 0, none⟩) := by
          subst hq
          rw [List.getElem_append_right (by omega)]
          simp [hq0]
        rw [hku] at hk4
        rw [hlpl] at hk1
        subst hk1
        obtain ⟨cn2, hcn2⟩ : ∃ cn2, cn2 = cps.length := ⟨_, rfl⟩
        have hC2 : St B S w0 W3 [⟨cp, .slice g1 K1.length c1, ccv, K1, cps⟩, N1, ⟨lp, .slice g3 l0.length c3, .slice (some ⟨gk, 0, none⟩) (ll + 2) ck, l0, lps⟩] := by
          have := H3.out.rot
          rw [HNC.out.2] at this; exact this
        obtain ⟨a1, a2, a3, a4, _, ⟨g4, c4, e1, e2, e3⟩⟩ := hC2.head
        simp only at a1 a2 a3 a4 e1 e2
        rw [← hcn2] at e1 e2 hcpl
        subst e1
        have HQ : Hid (lps = q0 ++ [.pointer (some ⟨pu, 0, none⟩)] ∧ q0.length = ll + 1 ∧ lps.length = ll + 2 ∧ cn2 = cps.length) := ⟨hq, hq0, hlpl, hcn2⟩
        obtain ⟨L3, hL3⟩ : ∃ L3 : NS, L3 = ⟨lp, .slice g3 l0.length c3, .slice (some ⟨gk, 0, none⟩) (ll + 2) ck, l0, lps⟩ := ⟨_, rfl⟩
        have HI : Hid (∀ W, Mem W3 W → Calls Try.prog 35 #[.slice g4 cn2 c4, .int .i64 0, .slice (some ⟨W.heap.size, 0, none⟩) 1 1] (W.alloc (.cells #[.pointer (some ⟨pu, 0, none⟩)] 27)) (StepC B S w0 ⟨cp, .slice g1 K1.length c1, .slice g4 cn2 c4, K1, cps⟩ [N1, L3] (.pointer (some ⟨pu, 0, none⟩) :: cps))) := fun W hW => by
          have h1 := hC2.mem hW
          rw [← hL3] at h1
          exact h1.insP0 _ rfl (by show cps.length ≤ 1000; omega)
        obtain ⟨PS, hPS⟩ : ∃ PS, PS = Value.pointer (some ⟨pu, 0, none⟩) :: cps := ⟨_, rfl⟩
        rw [← hPS] at HI
        have HX : Hid (PS = Value.pointer (some ⟨pu, 0, none⟩) :: cps ∧ L3 = ⟨lp, .slice g3 l0.length c3, .slice (some ⟨gk, 0, none⟩) (ll + 2) ck, l0, lps⟩) := ⟨hPS, hL3⟩
        have d2' : W3.cell? ⟨lp, 1, none⟩ = some (.slice (some ⟨gk, 0, none⟩) (ll + 2) ck) := D2.out
        clear hC2 hq hq0 hlpl hku hcn2 hL3 hPS hlps D2
        go_wp2
        rw [← HW3.out]
        clear q1 q2 d2
        have hw5 : IntKind.i64.wrap ((ll : Int) + 1) = (ll : Int) + 1 := by rw [IntKind.wrap_i64]; omega
        have hb5 : (0 : Int) ≤ (ll : Int) + 1 := by omega
        have hb6 : (ll : Int) + 1 < (ll : Int) + 2 := by omega
        go_cut [] from 182 to 198 (fun wc => Hid (∃ g c', St B S w0 wc [⟨cp, .slice g1 K1.length c1, .slice g PS.length c', K1, PS⟩, N1, L3]))
        case first =>
          go_region_with (go_at_call 35; refine (HI.out W3.drew ⟨rfl, rfl, rfl, rfl⟩).mono ?_; rintro e w' ⟨g, c', rfl, q1, q2, q3⟩)
          all_goals
            go_wp2
            go_meet
            case rel => exact ⟨g, c', q3⟩
        case rest =>
          obtain ⟨wC, rfl⟩ : ∃ wC : World, wC = wc := ⟨_, rfl⟩
          obtain ⟨g5, c5, hD⟩ := hcut.out
          have hD2 : St B S w0 wC [⟨lp, .slice g3 l0.length c3, .slice (some ⟨gk, 0, none⟩) (ll + 2) ck, l0, lps⟩, ⟨cp, .slice g1 K1.length c1, .slice g5 PS.length c5, K1, PS⟩, N1] := by
            have := hD.rot.rot
            rw [HX.out.2] at this; exact this
          clear hcut HI a1 a2 a3 a4 hk3 hk4 d2'
          obtain ⟨d1, d2, d3, d4, _, _⟩ := hD2.head
          simp only at d1 d2 d3 d4
          obtain ⟨C5, hC5⟩ : ∃ C5 : NS, C5 = ⟨cp, .slice g1 K1.length c1, .slice g5 PS.length c5, K1, PS⟩ := ⟨_, rfl⟩
          rw [← hC5] at hD2
          have HC5 : Hid (C5 = ⟨cp, .slice g1 K1.length c1, .slice g5 PS.length c5, K1, PS⟩) := hC5
          have HC46 : Hid (Calls Try.prog 46 #[.slice (some ⟨gk, 0, none⟩) (ll + 2) ck, .int .i64 ((ll : Int) + 1), .int .i64 ((ll : Int) + 2)] wC (StepC B S w0 ⟨lp, .slice g3 l0.length c3, .slice (some ⟨gk, 0, none⟩) (ll + 2) ck, l0, lps⟩ [C5, N1] q0)) := by
            have := hD2.delP (i := ll + 1) (by show ll + 1 < lps.length; have := HQ.out.2.2.1; omega)
            have e : lps.take (ll + 1) ++ lps.drop (ll + 1 + 1) = q0 := by
              rw [HQ.out.1, ← HQ.out.2.1]; simp
            rw [show ((⟨lp, .slice g3 l0.length c3, .slice (some ⟨gk, 0, none⟩) (ll + 2) ck, l0, lps⟩ : NS).ps.take (ll + 1) ++ (⟨lp, .slice g3 l0.length c3, .slice (some ⟨gk, 0, none⟩) (ll + 2) ck, l0, lps⟩ : NS).ps.drop (ll + 1 + 1)) = q0 from e, show (((ll + 1 : Nat) : Int)) = (ll : Int) + 1 by omega, show (ll : Int) + 1 + 1 = (ll : Int) + 2 by omega] at this
            exact this
          clear hD hD2 hC5
          go_wp2_with fail
          refine HC46.out.mono ?_
          clear HC46 d1 d2 d3 d4
          rintro e w6 ⟨g6, c6, rfl, q1, q2, q3⟩
          have H6 : Hid (St B S w0 (w6.setCell ⟨lp, 1, none⟩ (.slice g6 q0.length c6)) [⟨lp, .slice g3 l0.length c3, .slice g6 q0.length c6, l0, q0⟩, C5, N1]) := q3
          clear q3
          simp only at q1
          go_wp2
          go_end0
          have hf := H6.out.rot
          rw [HNC.out.1, HC5.out, HNL.out.1, HX.out.1] at hf
          exact ⟨rfl, _, _, _, _, _, _, hf, .inr ⟨q0, _, HQ.out.1, rfl, rfl⟩⟩

end Go.Proofs.Qxb6604036a
