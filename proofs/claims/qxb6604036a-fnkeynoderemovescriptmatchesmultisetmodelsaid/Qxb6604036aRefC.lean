/- refill (39), where two children are merged. -/
import Derived.Test.Qxb6604036aNd2
import Derived.BigQuiet
import Derived.BigRegion
import Derived.Deep.DeepCutAuto
import Derived.Deep.QuietTactic
import Derived.Deep.DrawnRows
namespace Go.Proofs.Qxb6604036a
open Go.RowKit Plain
set_option linter.unusedVariables false
set_option linter.unusedSimpArgs false
attribute [local go_sem ↓] Go.wp_at_zero Go.wp_at_succ

/-- The child before cannot spare a key, or there is none. -/
def NoLeftC (w : World) (ps : List Value) (i : Nat) : Prop := i = 0 ∨ ∃ i' q a k c, i = i' + 1 ∧ ps[i']? = some (.pointer (some ⟨q, 0, none⟩)) ∧ w.cell? ⟨q, 0, none⟩ = some (.slice a k c) ∧ k ≤ 32
/-- Nor the child behind. -/
def NoRightC (w : World) (ps : List Value) (i : Nat) : Prop := i + 1 = ps.length ∨ ∃ q a k c, ps[i + 1]? = some (.pointer (some ⟨q, 0, none⟩)) ∧ w.cell? ⟨q, 0, none⟩ = some (.slice a k c) ∧ k ≤ 32

/-- What is left of a merge. -/
def RefC (B : Nat) (S : Nat → Prop) (w0 : World) (n l r : NS) (j : Nat) (x : ByteArray) (e : Ending) (w' : World) : Prop :=
  e = .returned (.tuple #[]) ∧ ∃ kv1 cv1 kv2 cv2, St B S w0 w' [⟨l.p, kv1, cv1, l.ks ++ x :: r.ks, l.ps ++ r.ps⟩, r, ⟨n.p, kv2, cv2, n.ks.take j ++ n.ks.drop (j + 1), n.ps.take (j + 1) ++ n.ps.drop (j + 1 + 1)⟩] ∧ (r.cv = .slice none 0 0 → cv1 = l.cv)

theorem St.rotC {B : Nat} {S : Nat → Prop} {w0 w : World} {a b c : NS} (h : St B S w0 w [a, b, c]) : St B S w0 w [b, c, a] := h.perm (List.perm_append_comm (l₁ := [a]) (l₂ := [b, c]))

set_option maxHeartbeats 40000000 in
set_option maxRecDepth 100000 in
theorem refC (B : Nat) (S : Nat → Prop) (w0 w : World) (n l r : NS) (i j : Nat) (x : ByteArray) (cp : Nat) (ca : Option Addr) (cc : Nat) (h : St B S w0 w [l, r, n]) (hnk : n.ks.length ≤ 64) (hnp : n.ps.length = n.ks.length + 1) (hj : n.ks[j]? = some x)
    (hjm : (i = j ∧ j + 2 ≤ n.ps.length) ∨ (i = j + 1 ∧ j + 2 = n.ps.length)) (hi : n.ps[i]? = some (.pointer (some ⟨cp, 0, none⟩))) (hcell : w.cell? ⟨cp, 0, none⟩ = some (.slice ca 31 cc)) (hl : n.ps[j]? = some (.pointer (some ⟨l.p, 0, none⟩))) (hr : n.ps[j + 1]? = some (.pointer (some ⟨r.p, 0, none⟩)))
    (hlk : l.ks.length ≤ 64) (hrk : r.ks.length ≤ 64) (hlp : l.ps.length ≤ 65) (hrp : r.ps.length ≤ 65) (hno : NoLeftC w n.ps i) (hnr : NoRightC w n.ps i) :
    Calls Try.prog 39 #[.pointer (some ⟨n.p, 0, none⟩), .int .i64 i] w (RefC B S w0 n l r j x) := by
  obtain ⟨np, nkv, ncv, nks, nps⟩ := n
  obtain ⟨lp, lkv, lcv, lks, lps⟩ := l
  obtain ⟨rp, rkv, rcv, rks, rps⟩ := r
  simp only at hnk hnp hj hjm hi hl hr hlk hrk hlp hrp hno hnr
  have hjl : j < nks.length := (List.getElem?_eq_some_iff.1 hj).1
  have H0 : Hid (St B S w0 w [⟨lp, lkv, lcv, lks, lps⟩, ⟨rp, rkv, rcv, rks, rps⟩, ⟨np, nkv, ncv, nks, nps⟩]) := h
  have hN := h.rotC.rotC
  obtain ⟨b1, b2, b3, b4, _, _⟩ := hN.head
  obtain ⟨gn, cn, hn1, hn2, hn3, hn4, hn5⟩ := hN.keyAt (i := j) hjl
  obtain ⟨gm, cm, hm1, hm2, hm3, -⟩ := hN.kidAt (i := j) (by simp only; omega)
  simp only at b1 b2 b3 b4 hn1 hn2 hn5 hm1 hm2
  have hkid : ∀ i u, nps[i]? = some u → w.cell? ⟨gm, i, none⟩ = some u := fun i u hu => by
    have hi := (List.getElem?_eq_some_iff.1 hu).1
    obtain ⟨g2, c2, q1, q2, q3, q4⟩ := hN.kidAt (i := i) hi
    simp only at q1 q2 q4
    obtain rfl : g2 = gm := by rw [hm2] at q2; simpa using q2.symm
    rw [q4, ← hu, List.getElem?_eq_getElem]
  have hmi := hkid _ _ hi
  have hmj := hkid _ _ hl
  have hmr := hkid _ _ hr
  have hjx : nks[j] = x := by rw [List.getElem?_eq_getElem hjl] at hj; simpa using hj
  rw [hjx] at hn5
  obtain ⟨nn, hnn⟩ : ∃ nn, nn = nks.length := ⟨_, rfl⟩
  obtain ⟨m, hm⟩ : ∃ m, m = nps.length := ⟨_, rfl⟩
  have hm6 : m = nn + 1 := by omega
  have hIm : i < nps.length := (List.getElem?_eq_some_iff.1 hi).1
  have hiI : (i : Int) < (m : Int) := by omega
  rw [← hnn] at hn1 hnk hjl
  rw [← hm] at hm1 hjm
  have HE : Hid (nn = nks.length ∧ m = nps.length ∧ nks[j]? = some x ∧ lks.length ≤ 64 ∧ rks.length ≤ 64 ∧ lps.length ≤ 65 ∧ rps.length ≤ 65) := ⟨hnn, hm, hj, hlk, hrk, hlp, hrp⟩
  have HNO : Hid (NoLeftC w nps i ∧ NoRightC w nps i ∧ ∀ i u, nps[i]? = some u → w.cell? ⟨gm, i, none⟩ = some u) := ⟨hno, hnr, hkid⟩
  have HJM : Hid ((i = j ∧ j + 2 ≤ m) ∨ (i = j + 1 ∧ j + 2 = m)) := hjm
  have hm7 : nn < m := by omega
  have hm8 : m ≤ nn + 1 := by omega
  have hj2 : j + 2 ≤ m := by omega
  subst hn1 hm1
  clear h hN hnp hj hjm hi hl hr hjx hnn hm hn2 hm2 hn3 hno hnr hkid hlk hrk hlp hrp hm6 hIm
  go_enter Try.func39, Try.ntmps39
  go_upto_region 8 with fail
  go_cut [103] from 103 to 120 (fun s wc => s = .bool false ∧ w = wc)
  case first =>
    rcases HNO.out.1 with hj0 | ⟨i', q, aq, kq, cq, hi', hq1, hq2, hq3⟩
    · subst hj0
      go_wp2
      go_meet
      case rel => exact ⟨rfl, rfl⟩
    · have hq4 := HNO.out.2.2 _ _ hq1
      subst hi'
      have hkI : ¬ (32 : Int) < (kq : Int) := by omega
      have hi2 : (i' : Int) < (m : Int) := by omega
      clear hq1
      go_wp2
      go_meet
      case rel => exact ⟨rfl, rfl⟩
  case rest =>
    obtain ⟨rfl, rfl⟩ := hcut
    go_upto_region 17 with fail
    go_cut [211] from 211 to 234 (fun s wc => s = .bool false ∧ w = wc)
    case first =>
      rcases HNO.out.2.1 with hj0 | ⟨q, aq, kq, cq, hq1, hq2, hq3⟩
      · have hii : ¬ ((i : Int) + 1 < (m : Int)) := by have := HE.out.2.1; omega
        go_wp2
        go_meet
        case rel => exact ⟨rfl, rfl⟩
      · have hq4 := HNO.out.2.2 _ _ hq1
        have hkI : ¬ (32 : Int) < (kq : Int) := by omega
        have hi2 : (i : Int) + 1 < (m : Int) := by have h1 := (List.getElem?_eq_some_iff.1 hq1).1; have := HE.out.2.1; omega
        clear hq1
        go_wp2
        go_meet
        case rel => exact ⟨rfl, rfl⟩
    case rest =>
      obtain ⟨rfl, rfl⟩ := hcut
      clear HNO
      have hmw : IntKind.i64.wrap ((m : Int) - 2) = ((m - 2 : Nat) : Int) := by rw [IntKind.wrap_i64]; omega
      go_upto_region 3 with fail
      have hmin : (if m - 2 < i then ((m - 2 : Nat) : Int) else (i : Int)) = (j : Int) := by
        rcases HJM.out with ⟨e1, e2⟩ | ⟨e1, e2⟩
        · rw [if_neg (by omega), e1]
        · rw [if_pos (by omega)]; omega
      rw [hmin]
      have hjI : (j : Int) < (m : Int) := by omega
      have hjI2 : (j : Int) + 1 < (m : Int) := by omega
      have hjI3 : (j : Int) < (nn : Int) := by omega
      have hw1 : IntKind.i64.wrap ((j : Int) + 1) = (j : Int) + 1 := by rw [IntKind.wrap_i64]; omega
      have hw2 : IntKind.i64.wrap ((j : Int) + 2) = (j : Int) + 2 := by rw [IntKind.wrap_i64]; omega
      clear hmin hmw HJM
      go_quiet (fail)
      obtain ⟨wA, hwA⟩ : ∃ wA : World, wA = w.drewN nq := ⟨_, rfl⟩
      have HM : Hid (Mem w wA) := by rw [hwA]; exact ⟨rfl, rfl, rfl, rfl⟩
      rw [← hwA]
      clear hwA
      obtain ⟨N, hNN⟩ : ∃ N : NS, N = ⟨np, .slice (some ⟨gn, 0, none⟩) nn cn, .slice (some ⟨gm, 0, none⟩) m cm, nks, nps⟩ := ⟨_, rfl⟩
      have hA : St B S w0 wA [⟨lp, lkv, lcv, lks, lps⟩, ⟨rp, rkv, rcv, rks, rps⟩, N] := by rw [hNN]; exact H0.out.mem HM.out
      have hA1 : St B S w0 wA.drew [⟨lp, lkv, lcv, lks, lps⟩, ⟨rp, rkv, rcv, rks, rps⟩, N] := hA.mem ⟨rfl, rfl, rfl, rfl⟩
      obtain ⟨K1, hK1⟩ : ∃ K1, K1 = lks ++ x :: rks := ⟨_, rfl⟩
      obtain ⟨g1, c1, w1, v2, w2, r1, r2, s1, s2, hst⟩ := hA1.app2 x (by show lks.length ≤ 1000; have := HE.out; omega) (by show rks.length ≤ 1000; have := HE.out; omega)
      rw [show (⟨lp, lkv, lcv, lks, lps⟩ : NS).ks ++ x :: (⟨rp, rkv, rcv, rks, rps⟩ : NS).ks = K1 from hK1.symm] at hst
      obtain ⟨g3, c3, hv2, q1, q2, q3⟩ := hst
      simp only [Ending.returned.injEq] at hv2
      subst hv2
      simp only at q1 r1 r2 s1 s2
      obtain ⟨d1, d2, d3, d4, ⟨gl, cl, el1, el2, el3⟩, _⟩ := hA.head
      obtain ⟨f1, f2, f3, f4, ⟨gr, cr, er1, er2, er3⟩, _⟩ := hA.rotC.head
      simp only at d1 d2 d3 d4 f1 f2 f3 f4 el1 er1
      obtain ⟨nl, hnl⟩ : ∃ nl, nl = lks.length := ⟨_, rfl⟩
      obtain ⟨nr, hnr⟩ : ∃ nr, nr = rks.length := ⟨_, rfl⟩
      rw [← hnl] at el1 r1 r2
      rw [← hnr] at er1
      subst el1 er1
      have t1 : wA.cell? ⟨np, 0, none⟩ = some (.slice (some ⟨gn, 0, none⟩) nn cn) := by rw [← b1]; exact World.cell?_of_block (by rw [HM.out.heap])
      have t2 : wA.cell? ⟨gn, j, none⟩ = some (.string x) := by rw [← hn5]; exact World.cell?_of_block (by rw [HM.out.heap])
      have HR1 : Hid ((Builtin.append_ #[23, 23] 23 #[.slice gl nl cl, .slice (some ⟨wA.heap.size, 0, none⟩) 1 1]).run Try.prog (wA.drew.alloc (.cells #[.string x] 9)) = .ok (.slice g1 (nl + 1) c1) w1) := r1
      have HR2 : Hid ((Builtin.append_ #[23, 23] 23 #[.slice g1 (nl + 1) c1, .slice gr nr cr]).run Try.prog w1 = .ok (.slice g3 K1.length c3) w2) := r2
      have HST : Hid (St B S w0 (w2.setCell ⟨lp, 0, none⟩ (.slice g3 K1.length c3)) [⟨lp, .slice g3 K1.length c3, lcv, K1, lps⟩, ⟨rp, .slice gr nr cr, rcv, rks, rps⟩, N]) := q3
      have HNL : Hid (K1 = lks ++ x :: rks ∧ N = ⟨np, .slice (some ⟨gn, 0, none⟩) nn cn, .slice (some ⟨gm, 0, none⟩) m cm, nks, nps⟩) := ⟨hK1, hNN⟩
      clear r1 r2 q3 hK1 hNN hA hA1 hnl hnr b1 b2 b3 b4 hmi hmj hmr hn5 hcell H0 d2 f2 f3 el2 el3 er2 er3
      go_wp2
      go_cut [] from 47 to 67 (fun wc => Hid (St B S w0 wc [⟨lp, .slice g3 K1.length c3, lcv, K1, lps⟩, ⟨rp, .slice gr nr cr, rcv, rks, rps⟩, N]))
      case first =>
        go_region_law (first
          | refine step_append_run rfl _ _ 23 23 rfl (.slice gl nl cl) (.slice (some ⟨wA.heap.size, 0, none⟩) 1 1) (by simp [Act.eval, Act.put]) (by simp [Act.eval, Act.put]) HR1.out ?_
          | refine step_append_run rfl _ _ 23 23 rfl (.slice g1 (nl + 1) c1) (.slice gr nr cr) (by simp [Act.eval, Act.put]) (by simp [Act.eval, Act.put]) HR2.out ?_)
        all_goals
          go_wp2
          go_meet
          case rel => exact HST.out
      case rest =>
        obtain ⟨wB, rfl⟩ : ∃ wB : World, wB = wc := ⟨_, rfl⟩
        have hB := hcut.out
        clear hcut HST HR1 HR2 s1 s2 q1 q2 d1 d3 d4 f1 f4 t1 t2 HM hn4 hm3
        obtain ⟨d1, d2, d3, d4, _, ⟨gk, ck, ek1, ek2, ek3⟩⟩ := hB.head
        obtain ⟨f1, f2, f3, f4, _, ⟨gq, cq, eq1, eq2, eq3⟩⟩ := hB.rotC.head
        simp only at d1 d2 d3 d4 f1 f2 f3 f4 ek1 ek2 eq1 eq2
        obtain ⟨nk, hnk'⟩ : ∃ nk, nk = lps.length := ⟨_, rfl⟩
        obtain ⟨nq, hnq⟩ : ∃ nq, nq = rps.length := ⟨_, rfl⟩
        rw [← hnk'] at ek1 ek2
        rw [← hnq] at eq1 eq2
        subst ek1 eq1
        have hB1 : St B S w0 wB.drew [⟨lp, .slice g3 K1.length c3, .slice gk nk ck, K1, lps⟩, ⟨rp, .slice gr nr cr, .slice gq nq cq, rks, rps⟩, N] := hB.mem ⟨rfl, rfl, rfl, rfl⟩
        obtain ⟨PS, hPS⟩ : ∃ PS, PS = lps ++ rps := ⟨_, rfl⟩
        obtain ⟨v5, w5, r5, hst5, hnil⟩ := hB1.appPs (by show lps.length ≤ 1000; have := HE.out; omega) (by show rps.length ≤ 1000; have := HE.out; omega)
        rw [show (⟨lp, .slice g3 K1.length c3, .slice gk nk ck, K1, lps⟩ : NS).ps ++ (⟨rp, .slice gr nr cr, .slice gq nq cq, rks, rps⟩ : NS).ps = PS from hPS.symm] at hst5
        obtain ⟨g5, c5, hv5, q1, q2, q3⟩ := hst5
        simp only [Ending.returned.injEq] at hv5
        subst hv5
        simp only at q1 r5 hnil
        have HR5 : Hid ((Builtin.append_ #[47, 47] 47 #[.slice gk nk ck, .slice gq nq cq]).run Try.prog wB.drew = .ok (.slice g5 PS.length c5) w5) := r5
        have HST5 : Hid (St B S w0 (w5.setCell ⟨lp, 1, none⟩ (.slice g5 PS.length c5)) [⟨lp, .slice g3 K1.length c3, .slice g5 PS.length c5, K1, PS⟩, ⟨rp, .slice gr nr cr, .slice gq nq cq, rks, rps⟩, N]) := q3
        have HPS : Hid (PS = lps ++ rps ∧ (Value.slice gq nq cq = .slice none 0 0 → Value.slice g5 PS.length c5 = .slice gk nk ck)) := ⟨hPS, hnil⟩
        clear r5 q3 hPS hnil hB hB1 hnk' hnq d3 f3 f1
        go_wp2
        go_cut [] from 68 to 79 (fun wc => Hid (St B S w0 wc [⟨lp, .slice g3 K1.length c3, .slice g5 PS.length c5, K1, PS⟩, ⟨rp, .slice gr nr cr, .slice gq nq cq, rks, rps⟩, N]))
        case first =>
          go_region_law (refine step_append_run rfl _ _ 47 47 rfl (.slice gk nk ck) (.slice gq nq cq) (by simp [Act.eval, Act.put]) (by simp [Act.eval, Act.put]) HR5.out ?_)
          all_goals
            go_wp2
            go_meet
            case rel => exact HST5.out
        case rest =>
          obtain ⟨wC, rfl⟩ : ∃ wC : World, wC = wc := ⟨_, rfl⟩
          obtain ⟨L1, hL1⟩ : ∃ L1 : NS, L1 = ⟨lp, .slice g3 K1.length c3, .slice g5 PS.length c5, K1, PS⟩ := ⟨_, rfl⟩
          obtain ⟨R1, hR1⟩ : ∃ R1 : NS, R1 = ⟨rp, .slice gr nr cr, .slice gq nq cq, rks, rps⟩ := ⟨_, rfl⟩
          have HLR : Hid (L1 = ⟨lp, .slice g3 K1.length c3, .slice g5 PS.length c5, K1, PS⟩ ∧ R1 = ⟨rp, .slice gr nr cr, .slice gq nq cq, rks, rps⟩) := ⟨hL1, hR1⟩
          have hC : St B S w0 wC [⟨np, .slice (some ⟨gn, 0, none⟩) nn cn, .slice (some ⟨gm, 0, none⟩) m cm, nks, nps⟩, L1, R1] := by
            have := hcut.out.rotC.rotC
            rw [← hL1, ← hR1, HNL.out.2] at this; exact this
          clear hcut HST5 HR5 q1 q2 d1 d2 d4 f2 f4 hL1 hR1
          obtain ⟨b1, b2, b3, b4, _, _⟩ := hC.head
          simp only at b1 b2 b3 b4
          obtain ⟨K2, hK2⟩ : ∃ K2, K2 = nks.take j ++ nks.drop (j + 1) := ⟨_, rfl⟩
          have HC38 : Hid (Calls Try.prog 38 #[.slice (some ⟨gn, 0, none⟩) nn cn, .int .i64 (j : Int), .int .i64 ((j : Int) + 1)] wC (StepK B S w0 ⟨np, .slice (some ⟨gn, 0, none⟩) nn cn, .slice (some ⟨gm, 0, none⟩) m cm, nks, nps⟩ [L1, R1] K2)) := by
            have := hC.del (i := j) (by show j < nks.length; rw [← HE.out.1]; exact hjl)
            rw [hK2]; exact this
          have HK2 : Hid (K2 = nks.take j ++ nks.drop (j + 1)) := hK2
          clear hC hK2
          go_wp2_with fail
          refine HC38.out.mono ?_
          clear HC38 b1 b2 b3 b4
          rintro e w6 ⟨g6, c6, rfl, q1, q2, q3⟩
          have H6 : Hid (St B S w0 (w6.setCell ⟨np, 0, none⟩ (.slice g6 K2.length c6)) [⟨np, .slice g6 K2.length c6, .slice (some ⟨gm, 0, none⟩) m cm, K2, nps⟩, L1, R1]) := q3
          obtain ⟨b1, b2, b3, b4, _, _⟩ := H6.out.head
          simp only at b1 b2 b3 b4 q1
          obtain ⟨P2, hP2⟩ : ∃ P2, P2 = nps.take (j + 1) ++ nps.drop (j + 1 + 1) := ⟨_, rfl⟩
          have HC46 : Hid (Calls Try.prog 46 #[.slice (some ⟨gm, 0, none⟩) m cm, .int .i64 ((j : Int) + 1), .int .i64 ((j : Int) + 2)] (w6.setCell ⟨np, 0, none⟩ (.slice g6 K2.length c6)) (StepC B S w0 ⟨np, .slice g6 K2.length c6, .slice (some ⟨gm, 0, none⟩) m cm, K2, nps⟩ [L1, R1] P2)) := by
            have := H6.out.delP (i := j + 1) (by show j + 1 < nps.length; rw [← HE.out.2.1]; omega)
            rw [hP2]; exact this
          have HP2 : Hid (P2 = nps.take (j + 1) ++ nps.drop (j + 1 + 1)) := hP2
          clear q3 hP2
          go_wp2_with fail
          refine HC46.out.mono ?_
          clear HC46 b1 b2 b3 b4 q1 q2 H6
          rintro e w7 ⟨g7, c7, rfl, q1, q2, q3⟩
          have H7 : Hid (St B S w0 (w7.setCell ⟨np, 1, none⟩ (.slice g7 P2.length c7)) [⟨np, .slice g6 K2.length c6, .slice g7 P2.length c7, K2, P2⟩, L1, R1]) := q3
          clear q3
          simp only at q1
          go_wp2
          go_end0
          have e1 := HP2.out
          subst e1
          have e2 := HK2.out
          subst e2
          have e3 := HPS.out.1
          subst e3
          have e4 := HNL.out.1
          subst e4
          have hf := H7.out.rotC
          rw [HLR.out.1, HLR.out.2] at hf
          exact ⟨rfl, _, _, _, _, hf, HPS.out.2⟩

end Go.Proofs.Qxb6604036a
