/- b1Sort (20): a merge sort into new memory. -/
import Derived.Test.Qxb6604036aApp
import Derived.Test.Qxb6604036aRd
import Derived.Test.Qxb6604036aPlain2
import Derived.Deep.DeepCutAuto
namespace Go.Proofs.Qxb6604036a
open Go.RowKit Plain
set_option linter.unusedVariables false
set_option linter.unusedSimpArgs false

/-- What b1Sort leaves: a new row, a sorted permutation of what it read. -/
def SortPost (B n : Nat) (S : Nat → ByteArray) (w : World) (e : Ending) (w' : World) : Prop :=
  ∃ v' l, e = .returned v' ∧ w'.ownsRow B 9 1 v' n (strs l) ∧ l.length = n ∧ l.Perm ((List.range n).map S) ∧ Sorted sl l ∧ Touch (fun _ => False) w w' ∧ ∃ k, v'.ownBlock = some k ∧ w.heap.size ≤ k

theorem make00 (w : World) : (Instr.makeSlice 23 (.int .i64 0) (.int .i64 0)).run Try.prog w = .ok (.slice (some ⟨w.heap.size, 0, none⟩) 0 0) (w.alloc (.cells #[] 9)) := by
  kernel_rfl
theorem make11 (w : World) : (Instr.makeSlice 23 (.int .i64 1) (.int .i64 1)).run Try.prog w = .ok (.slice (some ⟨w.heap.size, 0, none⟩) 1 1) (w.alloc (.cells #[.string ⟨#[]⟩] 9)) := by
  kernel_rfl

set_option maxHeartbeats 1000000 in
theorem sort20_zero (B : Nat) (a : Option Addr) (c : Nat) (S : Nat → ByteArray) (w : World) (hB : B ≤ w.heap.size) : Calls Try.prog 20 #[.slice a 0 c] w (SortPost B 0 S w) := by
  have hmk := make00
  have hcp : ∀ w ty dc, (Builtin.copy_ #[23, 23] ty #[.slice (some ⟨w.heap.size - 1, 0, none⟩) 0 dc, .slice a 0 c]).run Try.prog w = .ok (goInt 0) w := fun w ty dc =>
    run_copy_none w 23 23 ty 9 _ a 0 dc 0 c Try.underlying23 sizeS (by simp)
  have hcp' : ∀ ty dc, (Builtin.copy_ #[23, 23] ty #[.slice (some ⟨w.heap.size, 0, none⟩) 0 dc, .slice a 0 c]).run Try.prog (w.alloc (.cells #[] 9)) = .ok (goInt 0) (w.alloc (.cells #[] 9)) := fun ty dc =>
    run_copy_none _ 23 23 ty 9 _ a 0 dc 0 c Try.underlying23 sizeS (by simp)
  clear hcp
  go_enter Try.func20, Try.ntmps20
  go_wp2
  go_ret
  refine ⟨_, [], rfl, ⟨rfl, .inr ⟨w.heap.size, 0, #[], rfl, hB, heap_new w _, Nat.le_refl _, Nat.zero_le _, rfl, rfl⟩⟩, rfl, by simp, by simp [Sorted], (Touch.refl _ _).alloc _, w.heap.size, rfl, Nat.le_refl _⟩

set_option maxHeartbeats 1000000 in
theorem sort20_one (B : Nat) (a : Option Addr) (c : Nat) (S : Nat → ByteArray) (w : World) (hB : B ≤ w.heap.size) (h : Rd w a 1 c S) : Calls Try.prog 20 #[.slice a 1 c] w (SortPost B 1 S w) := by
  obtain ⟨h1, h2, h3⟩ := h
  obtain ⟨b, off, rfl, hc⟩ := h3 (by omega)
  have hc0 : w.cell? ⟨b, off, none⟩ = some (.string (S 0)) := by simpa using hc 0 (by omega)
  have hbw : b < w.heap.size := World.block_lt_of_cell? w _ hc0
  have hmk := make11
  obtain ⟨W1, hW1⟩ : ∃ W1, W1 = w.alloc (.cells #[.string ⟨#[]⟩] 9) := ⟨_, rfl⟩
  have hN1 : W1.heap[w.heap.size]? = some (.cells #[.string ⟨#[]⟩] 9 (0, 0)) := by rw [hW1]; exact heap_new w _
  have hc1 : W1.cell? ⟨b, off, none⟩ = some (.string (S 0)) := by
    rw [← hc0, hW1]; exact World.cell?_of_block (Below.heap_alloc w _ _ hbw)
  obtain ⟨W2, hW2⟩ : ∃ W2, W2 = W1.setRow w.heap.size #[.string (S 0)] := ⟨_, rfl⟩
  have hcp' : ∀ ty dc, (Builtin.copy_ #[23, 23] ty #[.slice (some ⟨w.heap.size, 0, none⟩) 1 dc, .slice (some ⟨b, off, none⟩) 1 c]).run Try.prog W1 = .ok (goInt 1) W2 := fun ty dc => by
    have := run_copy_row Try.prog W1 23 23 ty 9 w.heap.size 0 1 dc ⟨b, off, none⟩ 1 c #[.string ⟨#[]⟩] 9 [.string (S 0)] Try.underlying23 sizeS hN1 rfl (fun j v hj => by
      cases j with
      | zero => rw [Addr.add_lit]; simp at hj; rw [← hj]; exact hc1
      | succ j => simp at hj) (by simp) (by simp; rfl)
    rw [hW2]
    exact this
  have hP : Hid (SortPost B 1 S w (.returned (.slice (some ⟨w.heap.size, 0, none⟩) 1 1)) W2) := by
    refine ⟨_, [S 0], rfl, ⟨rfl, .inr ⟨w.heap.size, 1, #[.string (S 0)], rfl, hB, ?_, Nat.le_refl _, by decide, rfl, rfl⟩⟩, rfl, by simp [List.range_succ], by simp [Sorted], ?_, w.heap.size, rfl, Nat.le_refl _⟩
    · rw [hW2]; exact setRow_heap W1 _ _ _ _ _ hN1
    · rw [hW2, hW1]; exact ((Touch.refl _ _).alloc _).setRow _ (fun h => by omega) _
  rw [hW1] at hcp'
  clear hc hc0 hc1 hN1 hW1 hW2 h3
  go_enter Try.func20, Try.ntmps20
  go_wp2
  go_ret
  exact hP.out

theorem ownsRow_touch {B e n : Nat} {v : Value} {xs : List Value} {w w' : World} {S : Nat → Prop} (h : w.ownsRow B e 1 v n xs) (ht : Touch S w w') (hn : ∀ k, v.ownBlock = some k → ¬ S k) : w'.ownsRow B e 1 v n xs :=
  ownsRow_same h fun k hk => ht.block k (ownsRow_lt h hk).2 (hn k hk)

/-- The merging loop's state. -/
structure SortRel (B N m q : Nat) (va vb : Value) (la lb : List ByteArray) (w : World) (v : Value) (i j : Nat) (lo : List ByteArray) (wr : World) : Prop where
  hi : i ≤ m
  hj : j ≤ q
  out : wr.ownsRow B 9 1 v lo.length (strs lo)
  len : lo.length = i + j
  blk : ∃ k, v.ownBlock = some k ∧ N ≤ k
  ra : wr.ownsRow B 9 1 va m (strs la)
  rb : wr.ownsRow B 9 1 vb (q) (strs lb)
  touch : Touch (fun _ => False) w wr
  size : N ≤ wr.heap.size
  inv : MInv sl lo (la.drop i ++ lb.drop j) (la ++ lb)

/-- One element more at the end of 'out'. -/
theorem SortRel.push {B N m q : Nat} {va vb : Value} {la lb : List ByteArray} {w : World} {v : Value} {i j : Nat} {lo : List ByteArray} {wr : World} (h : SortRel B N m q va vb la lb w v i j lo wr)
    {i' j' : Nat} {z : ByteArray} (hi' : i' ≤ m) (hj' : j' ≤ q) (hij : i' + j' = i + j + 1) (hz : (la.drop i ++ lb.drop j).Perm (z :: (la.drop i' ++ lb.drop j')) ∧ ∀ y ∈ la.drop i' ++ lb.drop j', sl y z = false)
    (hN : ∀ k, va.ownBlock = some k → k < N) (hN' : ∀ k, vb.ownBlock = some k → k < N) (hwN : w.heap.size ≤ N)
    {v' : Value} {w' : World} (ha : AppRow B 9 v (strs lo) [.string z] (wr.alloc (.cells #[.string z] 9)) v' w') : SortRel B N m q va vb la lb w v' i' j' (lo ++ [z]) w' := by
  obtain ⟨k, hk, hkN⟩ := h.blk
  have hs := ha.touch.size
  simp at hs
  have keep : ∀ x : Value, (∀ q, x.ownBlock = some q → q < N) → ∀ q, x.ownBlock = some q → ¬ v.ownBlock = some q := fun x hx q hq e => by
    have := hx q hq
    rw [hk] at e; simp at e; omega
  refine ⟨hi', hj', ?_, by simp [h.len]; omega, ?_, ownsRow_touch (h.ra.alloc _) ha.touch (keep va hN), ownsRow_touch (h.rb.alloc _) ha.touch (keep vb hN'), ?_, by have := h.size; omega, h.inv.step hz.1 hz.2⟩
  · have := ha.owns
    rw [strs_length] at this
    simpa [strs] using this
  · rcases ha.place with e | ⟨q, hq, hqs⟩
    · exact ⟨k, by rw [e]; exact hk, hkN⟩
    · refine ⟨q, hq, ?_⟩
      have := h.size
      simp at hqs; omega
  · refine (h.touch.alloc _).trans ha.touch fun q hq hqe => ?_
    rw [hk] at hqe; simp at hqe; omega

theorem mem_drewN (w : World) (k : Nat) : Mem w (w.drewN k) := ⟨rfl, rfl, rfl, rfl⟩

theorem SortRel.mem {B N m q : Nat} {va vb : Value} {la lb : List ByteArray} {w : World} {v : Value} {i j : Nat} {lo : List ByteArray} {wr wr' : World} (h : SortRel B N m q va vb la lb w v i j lo wr) (hm : Mem wr wr') : SortRel B N m q va vb la lb w v i j lo wr' :=
  ⟨h.hi, h.hj, ownsRow_same h.out fun k _ => by rw [hm.heap], h.len, h.blk, ownsRow_same h.ra fun k _ => by rw [hm.heap], ownsRow_same h.rb fun k _ => by rw [hm.heap], hm.touch h.touch, by rw [hm.heap]; exact h.size, h.inv⟩

/-- The append of one element in the loop. -/
theorem SortRel.app {B N m q : Nat} {va vb : Value} {la lb : List ByteArray} {w : World} {v : Value} {i j : Nat} {lo : List ByteArray} {wr : World} (h : SortRel B N m q va vb la lb w v i j lo wr) (hmax : m + q ≤ 1048576) (hB : B ≤ N) (z : ByteArray) :
    ∃ v' w', (Builtin.append_ #[23, 23] 23 #[v, .slice (some ⟨wr.heap.size, 0, none⟩) 1 1]).run Try.prog (wr.alloc (.cells #[.string z] 9)) = .ok v' w' ∧ AppRow B 9 v (strs lo) [.string z] (wr.alloc (.cells #[.string z] 9)) v' w' := by
  have h1 := h.hi
  have h2 := h.hj
  have h3 := h.len
  have h4 := h.size
  refine appS_one (wr.alloc (.cells #[.string z] 9)) B 23 v (strs lo) (.string z) wr.heap.size 1 ?_ ?_ rfl (by rw [strs_length]; omega) (by simp; omega)
  · rw [strs_length]; exact h.out.alloc _
  · rw [cell_of_row _ _ 0 #[.string z] 9 (0, 0) (heap_new wr _)]; rfl

set_option maxHeartbeats 8000000 in
set_option maxRecDepth 100000 in
theorem sort20_more (B n : Nat) (a : Option Addr) (c : Nat) (S : Nat → ByteArray) (w : World) (hn : 2 ≤ n) (hmax : n ≤ 1048576) (hB : B ≤ w.heap.size) (h : Rd w a n c S)
    (ih : ∀ (m : Nat), m < n → ∀ (a : Option Addr) (c : Nat) (S : Nat → ByteArray) (w : World), B ≤ w.heap.size → Rd w a m c S → Calls Try.prog 20 #[.slice a m c] w (SortPost B m S w)) :
    Calls Try.prog 20 #[.slice a n c] w (SortPost B n S w) := by
  have IH : Hid (∀ (m : Nat), m < n → ∀ (a : Option Addr) (c : Nat) (S : Nat → ByteArray) (w : World), B ≤ w.heap.size → Rd w a m c S → Calls Try.prog 20 #[.slice a m c] w (SortPost B m S w)) := ih
  clear ih
  obtain ⟨h1, h2, h3⟩ := h
  unfold maxLen at h2
  obtain ⟨b, off, rfl, hc⟩ := h3 (by omega)
  have hbw : b < w.heap.size := World.block_lt_of_cell? w _ (hc 0 (by omega))
  have HC : Hid (∀ k, k < n → w.cell? ⟨b, off + k, none⟩ = some (.string (S k))) := hc
  clear hc h3
  obtain ⟨m, hme⟩ : ∃ m, m = n / 2 := ⟨_, rfl⟩
  obtain ⟨q, rfl⟩ : ∃ q, n = m + q := ⟨n - m, by omega⟩
  have hmid : ((m : Int) + (q : Int)) / 2 = (m : Int) := by omega
  have hq0 : 1 ≤ q := by omega
  have hm0 : 1 ≤ m := by omega
  have hmn : m < m + q := by omega
  have hm1 : m ≤ c := by omega
  have hm2 : ¬ c = m := by omega
  have hm4 : (m : Int) ≤ (c : Int) := by omega
  have hm5 : (m : Int) ≤ (m : Int) + (q : Int) := by omega
  have hm6 : ¬ (m : Int) + (q : Int) ≤ 1 := by omega
  clear hme
  go_enter Try.func20, Try.ntmps20
  go_wp2_with fail
  refine (IH.out m hmn _ c S w hB ⟨hm1, by unfold maxLen; omega, fun _ => ⟨b, off, rfl, fun k hk => HC.out k (by omega)⟩⟩).mono ?_
  rintro e w1 ⟨va, la, rfl, hoa, hla, hpa, hsa, hTa, ka, hka, hfa⟩
  obtain ⟨ga, ca, hva, hca, hcma, hga, _, hcella⟩ := ownsRow_cell hoa (by omega)
  obtain rfl : ga = ka := by rw [hga] at hka; simpa using hka
  have hoff : ¬ c = m := hm2
  go_wp2_with fail
  have hT1 := hTa.size
  have hB1 : B ≤ w1.heap.size := by omega
  refine (IH.out (q) (by omega) _ (c - m) (fun k => S (m + k)) w1 hB1 ⟨by omega, by unfold maxLen; omega, fun _ => ⟨b, off + m, rfl, fun k hk => ?_⟩⟩).mono ?_
  · rw [Nat.add_assoc, ← HC.out (m + k) (by omega)]
    exact World.cell?_of_block (hTa.block b hbw id)
  rintro e w2 ⟨vb, lb, rfl, hob, hlb, hpb, hsb, hTb, kb, hkb, hfb⟩
  obtain ⟨gb, cb, hvb, hcb, hcmb, hgb, _, hcellb⟩ := ownsRow_cell hob (by omega)
  obtain rfl : gb = kb := by rw [hgb] at hkb; simpa using hkb
  have hT2 := hTb.size
  have hoa2 : w2.ownsRow B 9 1 va m (strs la) := ownsRow_touch hoa hTb fun _ _ => id
  obtain ⟨i0, hi0, hz0, hzs, hzb⟩ := infoS
  obtain ⟨R0, hR0⟩ : ∃ R0, R0 = madeCells (Value.string ⟨#[]⟩).cells ((m + q) * i0.size) := ⟨_, rfl⟩
  have hmk : (Instr.makeSlice 23 (.int .i64 0) (.int .i64 ((m : Int) + (q : Int)))).run Try.prog w2 = .ok (.slice (some ⟨w2.heap.size, 0, none⟩) 0 (m + q)) (w2.alloc (.cells R0 9)) := by
    have := run_make (P := Try.prog) w2 23 9 i0 _ Try.underlying23 hi0 hz0 .i64 .i64 0 ((m + q : Nat) : Int) (by omega) (by omega) (by rw [hzb]; omega) (by omega)
    rw [hR0]
    simp only [Int.toNat_zero, Int.toNat_natCast, Int.natCast_add] at this
    exact this
  have hR0s : R0.size = m + q := by rw [hR0, size_madeCells, hzs]; omega
  have hab : ga < w2.heap.size := (ownsRow_lt hoa2 hga).2
  have hbb : gb < w2.heap.size := (ownsRow_lt hob hgb).2
  have HAL : Hid (la.length = m ∧ lb.length = q ∧ va = .slice (some ⟨ga, 0, none⟩) m ca ∧ vb = .slice (some ⟨gb, 0, none⟩) (q) cb ∧ va.ownBlock = some ga ∧ vb.ownBlock = some gb) := ⟨hla, hlb, hva, hvb, hga, hgb⟩
  have R0st : SortRel B w2.heap.size m q va vb la lb w (.slice (some ⟨w2.heap.size, 0, none⟩) 0 (m + q)) 0 0 [] (w2.alloc (.cells R0 9)) :=
    ⟨by omega, by omega, ⟨rfl, .inr ⟨w2.heap.size, m + q, R0, rfl, by omega, heap_new w2 _, by simp, by unfold maxLen; omega, by omega, by simp [strs]⟩⟩, rfl, ⟨w2.heap.size, rfl, Nat.le_refl _⟩, hoa2.alloc _, hob.alloc _, (hTa.trans hTb fun _ _ h => h).alloc _, by simp,
      ⟨by simp [Sorted], by simp, by simp⟩⟩
  have HST : Hid (SortRel B w2.heap.size m q va vb la lb w (.slice (some ⟨w2.heap.size, 0, none⟩) 0 (m + q)) 0 0 [] (w2.alloc (.cells R0 9))) := R0st
  have HPL : Hid (la.Perm ((List.range m).map S) ∧ lb.Perm ((List.range (q)).map fun k => S (m + k)) ∧ Sorted sl la ∧ Sorted sl lb) := ⟨hpa, hpb, hsa, hsb⟩
  clear hla hlb hpa hpb hsa hsb hTa hTb hoa hob hoa2 R0st hR0 hR0s hi0 hz0 hzs hzb hka hkb hga hgb IH HC hcella hcellb hoff
  rw [hvb]
  clear hva hvb
  go_wp2
  go_loopw [7, 8, 9] (fun v u t wr => ∃ i j : Nat, ∃ lo, u = .int .i64 i ∧ t = .int .i64 j ∧ SortRel B w2.heap.size m q va vb la lb w v i j lo wr) (fun _ u t _ => 2 * (m + q) - ((intOf u).toNat + (intOf t).toNat))
  case atStart => exact ⟨0, 0, [], rfl, rfl, HST.out⟩
  case round =>
    obtain ⟨i, j, lo, rfl, rfl, hR⟩ := hrel
    clear HST hmk
    have hi := hR.hi
    have hj := hR.hj
    have hlen := hR.len
    have hNa : ∀ k, va.ownBlock = some k → k < w2.heap.size := fun k hk => by rw [HAL.out.2.2.2.2.1] at hk; simp at hk; omega
    have hNb : ∀ k, vb.ownBlock = some k → k < w2.heap.size := fun k hk => by rw [HAL.out.2.2.2.2.2] at hk; simp at hk; omega
    have HR : Hid (SortRel B w2.heap.size m q va vb la lb w _ i j lo wr) := hR
    have hca' : i < m → ∃ x, la[i]? = some x ∧ wr.cell? ⟨ga, i, none⟩ = some (.string x) := fun h => by
      have hl : i < la.length := by rw [HAL.out.1]; exact h
      obtain ⟨g, c2, he, _, _, hg, _, hcell⟩ := ownsRow_cell hR.ra (by omega)
      obtain rfl : g = ga := by rw [HAL.out.2.2.2.2.1] at hg; simpa using hg.symm
      exact ⟨la[i], List.getElem?_eq_getElem hl, hcell i _ (by simp [strs, hl])⟩
    have hcb' : j < q → ∃ x, lb[j]? = some x ∧ wr.cell? ⟨gb, j, none⟩ = some (.string x) := fun h => by
      have hl : j < lb.length := by rw [HAL.out.2.1]; exact h
      obtain ⟨g, c2, he, _, _, hg, _, hcell⟩ := ownsRow_cell hR.rb (by omega)
      obtain rfl : g = gb := by rw [HAL.out.2.2.2.2.2] at hg; simpa using hg.symm
      exact ⟨lb[j], List.getElem?_eq_getElem hl, hcell j _ (by simp [strs, hl])⟩
    have hap := fun (z : ByteArray) (k : Nat) => (hR.mem (mem_drewN wr k)).app hmax (by omega) z
    obtain ⟨vf, wf, hvw⟩ : ∃ (vf : ByteArray → Nat → Value) (wf : ByteArray → Nat → World), ∀ z k, (Builtin.append_ #[23, 23] 23 #[u7, .slice (some ⟨wr.heap.size, 0, none⟩) 1 1]).run Try.prog ((wr.drewN k).alloc (.cells #[.string z] 9)) = .ok (vf z k) (wf z k) ∧ AppRow B 9 u7 (strs lo) [.string z] ((wr.drewN k).alloc (.cells #[.string z] 9)) (vf z k) (wf z k) :=
      ⟨fun z k => Classical.choose (hap z k), fun z k => Classical.choose (Classical.choose_spec (hap z k)), fun z k => Classical.choose_spec (Classical.choose_spec (hap z k))⟩
    have HF : Hid (∀ (z : ByteArray) (k : Nat), (Builtin.append_ #[23, 23] 23 #[u7, .slice (some ⟨wr.heap.size, 0, none⟩) 1 1]).run Try.prog ((wr.drewN k).alloc (.cells #[.string z] 9)) = .ok (vf z k) (wf z k)) := fun z k => (hvw z k).1
    have HA : Hid (∀ (z : ByteArray) (k : Nat), AppRow B 9 u7 (strs lo) [.string z] ((wr.drewN k).alloc (.cells #[.string z] 9)) (vf z k) (wf z k)) := fun z k => (hvw z k).2
    clear hap hvw
    have HNab : Hid ((∀ k, va.ownBlock = some k → k < w2.heap.size) ∧ (∀ k, vb.ownBlock = some k → k < w2.heap.size) ∧ w.heap.size ≤ w2.heap.size) := ⟨hNa, hNb, by omega⟩
    clear hR hNa hNb hlen
    by_cases hjn : j < q
    · obtain ⟨y, hy, hyc⟩ := hcb' hjn
      have HY : Hid (lb[j]? = some y) := hy
      clear hcb' hy
      have hjd : decide (q ≤ j) = false := by simp; omega
      by_cases him : i < m
      · obtain ⟨x, hx, hxc⟩ := hca' him
        have HX : Hid (la[i]? = some x) := hx
        clear hca' hx
        have himI : (i : Int) < (m : Int) := by omega
        have hjnI : (j : Int) < (q : Int) := by omega
        cases hyx : sl y x
        · have hle : (Op.bytesLess x.toList y.toList || x.toList == y.toList) = true := by
            cases hxy : sl x y with
            | true => rw [show Op.bytesLess x.toList y.toList = true from hxy]; rfl
            | false => rw [sto.total hxy hyx]; simp
          go_wp2
          go_quiet (fail)
          go_wp2_with (at_builtin; refine Lib.wpList_append_run _ rfl _ _ 23 23 rfl _ _ rfl rfl _ _ (HF.out _ _) ?_)
          go_roundw
          case rel =>
            have hil : i < la.length := by rw [HAL.out.1]; exact him
            have hxe : la[i] = x := by have := HX.out; rw [List.getElem?_eq_getElem hil] at this; simpa using this
            have hm := merge_left sto HPL.out.2.2.1 HPL.out.2.2.2 (j := j) hil (fun y' hy' => by rw [HY.out] at hy'; simp at hy'; rw [← hy', hxe]; exact hyx)
            rw [hxe] at hm
            exact ⟨i + 1, j, lo ++ [x], by go_num, rfl, (HR.out.mem (mem_drewN wr _)).push (by omega) hj (by omega) hm HNab.out.1 HNab.out.2.1 HNab.out.2.2 (HA.out x _)⟩
          case measure => simp [intOf]; omega
        · have hle : (Op.bytesLess x.toList y.toList || x.toList == y.toList) = false := by
            have h1 : Op.bytesLess x.toList y.toList = false := sto.asymm hyx
            have h2 : (x.toList == y.toList) = false := by
              rw [beq_eq_false_iff_ne]
              intro e
              rw [toList_inj e, sl_irrefl] at hyx; cases hyx
            rw [h1, h2]; rfl
          go_wp2
          go_quiet (fail)
          go_wp2_with (at_builtin; refine Lib.wpList_append_run _ rfl _ _ 23 23 rfl _ _ rfl rfl _ _ (HF.out _ _) ?_)
          go_roundw
          case rel =>
            have hjl : j < lb.length := by rw [HAL.out.2.1]; exact hjn
            have hye : lb[j] = y := by have := HY.out; rw [List.getElem?_eq_getElem hjl] at this; simpa using this
            have hm := merge_right sto HPL.out.2.2.1 HPL.out.2.2.2 (i := i) hjl (fun x' hx' => by rw [HX.out] at hx'; simp at hx'; rw [← hx', hye]; exact sto.asymm hyx)
            rw [hye] at hm
            exact ⟨i, j + 1, lo ++ [y], rfl, by go_num, (HR.out.mem (mem_drewN wr _)).push hi (by omega) (by omega) hm HNab.out.1 HNab.out.2.1 HNab.out.2.2 (HA.out y _)⟩
          case measure => simp [intOf]; omega
      · clear hca'
        have hid : decide (i < m) = false := by simp; omega
        have hjnI : (j : Int) < (q : Int) := by omega
        go_wp2
        go_quiet (fail)
        go_wp2_with (at_builtin; refine Lib.wpList_append_run _ rfl _ _ 23 23 rfl _ _ rfl rfl _ _ (HF.out _ _) ?_)
        go_roundw
        case rel =>
          have hjl : j < lb.length := by rw [HAL.out.2.1]; exact hjn
          have hye : lb[j] = y := by have := HY.out; rw [List.getElem?_eq_getElem hjl] at this; simpa using this
          have hm := merge_right sto HPL.out.2.2.1 HPL.out.2.2.2 (i := i) hjl (fun x' hx' => by rw [List.getElem?_eq_none (by rw [HAL.out.1]; omega)] at hx'; cases hx')
          rw [hye] at hm
          exact ⟨i, j + 1, lo ++ [y], rfl, by go_num, (HR.out.mem (mem_drewN wr _)).push hi (by omega) (by omega) hm HNab.out.1 HNab.out.2.1 HNab.out.2.2 (HA.out y _)⟩
        case measure => simp [intOf]; omega
    · clear hcb'
      have hjd : decide (q ≤ j) = true := by simp; omega
      by_cases him : i < m
      · obtain ⟨x, hx, hxc⟩ := hca' him
        have HX : Hid (la[i]? = some x) := hx
        clear hca' hx
        have himI : (i : Int) < (m : Int) := by omega
        go_wp2
        go_quiet (fail)
        go_wp2_with (at_builtin; refine Lib.wpList_append_run _ rfl _ _ 23 23 rfl _ _ rfl rfl _ _ (HF.out _ _) ?_)
        go_roundw
        case rel =>
          have hil : i < la.length := by rw [HAL.out.1]; exact him
          have hxe : la[i] = x := by have := HX.out; rw [List.getElem?_eq_getElem hil] at this; simpa using this
          have hm := merge_left sto HPL.out.2.2.1 HPL.out.2.2.2 (j := j) hil (fun y' hy' => by rw [List.getElem?_eq_none (by rw [HAL.out.2.1]; omega)] at hy'; cases hy')
          rw [hxe] at hm
          exact ⟨i + 1, j, lo ++ [x], by go_num, rfl, (HR.out.mem (mem_drewN wr _)).push (by omega) hj (by omega) hm HNab.out.1 HNab.out.2.1 HNab.out.2.2 (HA.out x _)⟩
        case measure => simp [intOf]; omega
      · clear hca' HF HA
        go_wp2
        go_ret
        have hR := HR.out
        obtain rfl : i = m := by omega
        obtain rfl : j = q := by omega
        have hinv := hR.inv
        rw [List.drop_eq_nil_of_le (by rw [HAL.out.1]; exact Nat.le_refl _), List.drop_eq_nil_of_le (by rw [HAL.out.2.1]; exact Nat.le_refl _)] at hinv
        have hp := hinv.perm
        simp only [List.append_nil] at hp
        obtain ⟨k, hk, hkN⟩ := hR.blk
        refine ⟨u7, lo, rfl, by rw [← hR.len]; exact hR.out, hR.len, ?_, hinv.sorted, hR.touch, k, hk, by have := HNab.out.2.2; omega⟩
        refine hp.trans ((HPL.out.1.append HPL.out.2.1).trans ?_)
        rw [List.range_add, List.map_append, List.map_map]
        exact List.Perm.refl _

/-- b1Sort of a slice of whatever length (within the law's bound). -/
theorem sort20 (B : Nat) : ∀ (n : Nat), n ≤ 1048576 → ∀ (a : Option Addr) (c : Nat) (S : Nat → ByteArray) (w : World), B ≤ w.heap.size → Rd w a n c S → Calls Try.prog 20 #[.slice a n c] w (SortPost B n S w) := by
  intro n
  induction n using Nat.strongRecOn with
  | _ n ih =>
    intro hmax a c S w hB h
    rcases Nat.lt_or_ge n 2 with h2 | h2
    · rcases Nat.lt_or_ge n 1 with h1 | h1
      · obtain rfl : n = 0 := by omega
        exact sort20_zero B a c S w hB
      · obtain rfl : n = 1 := by omega
        exact sort20_one B a c S w hB h
    · exact sort20_more B n a c S w h2 hmax hB h fun m hm a c S w hB h => ih m hm (by omega) a c S w hB h

end Go.Proofs.Qxb6604036a
