/- slices.Delete(s, i, i+1) at []string (38) and at []*keyNode (46). -/
import Derived.Test.Qxb6604036aIns
namespace Go.Proofs.Qxb6604036a
open Go.RowKit Go.Lib
set_option linter.unusedVariables false
set_option linter.unusedSimpArgs false

/-- What slices.Delete(s, i, i+1) leaves of an owned row 'v' of elements 'xs': the row less the element at i, in its own block. -/
def DelPost (B E : Nat) (v : Value) (xs : List Value) (i : Nat) (w : World) (e : Ending) (w' : World) : Prop :=
  ∃ v', e = .returned v' ∧ w'.ownsRow B E 1 v' (xs.length - 1) (xs.take i ++ xs.drop (i + 1)) ∧ Touch (fun k => v.ownBlock = some k) w w' ∧ v'.ownBlock = v.ownBlock

set_option maxHeartbeats 4000000 in
set_option maxRecDepth 100000 in
theorem delS_at (g n c i : Nat) (cur : Array Value) (w : World) (hi : i < n) (hnc : n ≤ c) (hc : c ≤ 9223372036854775807)
    (hg : w.heap[g]? = some (.cells cur 9 (0, 0))) (hcs : cur.size = c) (h1 : ∀ x ∈ cur.toList.take n, x.oneCell' = true) :
    Calls Try.prog 38 #[.slice (some ⟨g, 0, none⟩) n c, .int .i64 i, .int .i64 ((i : Int) + 1)] w fun e w' =>
      ∃ R, R.size = c ∧ R.toList.take (n - 1) = (cur.toList.take n).take i ++ (cur.toList.take n).drop (i + 1) ∧ e = .returned (.slice (some ⟨g, 0, none⟩) (n - 1) c) ∧ w' = w.drew.setRow g R := by
  obtain ⟨i0, hi0, hz0, hzs, hzb⟩ := infoS
  have hll : cur.toList.length = c := by simpa using hcs
  obtain ⟨cs, hcseq⟩ : ∃ cs, cs = (cur.toList.drop (i + 1)).take (n - (i + 1)) := ⟨_, rfl⟩
  have hdl : cs.length = n - (i + 1) := by rw [hcseq, List.length_take, List.length_drop, hll]; omega
  obtain ⟨R1, hR1⟩ : ∃ R1, R1 = (cur.toList.take i ++ cs ++ cur.toList.drop (i + (n - (i + 1)))).toArray := ⟨_, rfl⟩
  obtain ⟨A, hA⟩ : ∃ A : Addr, A = (if c = i + 1 then ⟨g, 0, none⟩ else ⟨g, i + 1, none⟩) := ⟨_, rfl⟩
  have hap : ∀ ty c', (Builtin.append_ #[23, 23] ty #[.slice (some ⟨g, 0, none⟩) i c, .slice (some A) (n - (i + 1)) c']).run Try.prog w.drew = .ok (.slice (some ⟨g, 0, none⟩) (n - 1) c) (w.drew.setRow g R1) := fun ty c' => by
    have := run_append_room (P := Try.prog) w.drew 23 ty 9 i0 Try.underlying23 hi0 g i c cur hg A (n - (i + 1)) c' cs (by rw [hzs]; omega)
      (fun j v hj => by
        have hjl : j < cs.length := by
          rcases Nat.lt_or_ge j cs.length with h | h
          · exact h
          · rw [List.getElem?_eq_none h] at hj; cases hj
        rw [hA, if_neg (by omega)]
        rw [hcseq] at hj
        exact row_cells (w := w.drew) hg (i + 1) (n - (i + 1)) j v hj)
      (fun v hv => h1 v (by rw [hcseq, ← List.drop_take] at hv; exact List.mem_of_mem_drop hv)) (by omega) (by rw [hzs, hdl, hcs]; omega)
    rw [hzs, hdl, Nat.mul_one] at this
    rw [hR1, show n - 1 = i + (n - (i + 1)) by omega]
    exact this
  have hR1s : R1.size = c := by rw [hR1]; simp; omega
  obtain ⟨W1, hW1⟩ : ∃ W1, W1 = w.drew.setRow g R1 := ⟨_, rfl⟩
  have hg1 : W1.heap[g]? = some (.cells R1 9 (0, 0)) := by rw [hW1]; exact setRow_heap w.drew g cur R1 9 (0, 0) hg
  obtain ⟨R2, hR2⟩ : ∃ R2, R2 = (R1.toList.take (n - 1) ++ List.replicate 1 (Value.string ⟨#[]⟩) ++ R1.toList.drop (n - 1 + 1)).toArray := ⟨_, rfl⟩
  have hcl : ∀ ty c', (Builtin.clear_ #[23] ty #[.slice (some ⟨g, n - 1, none⟩) 1 c']).run Try.prog W1 = .ok (.tuple #[]) (W1.setRow g R2) := fun ty c' => by
    rw [hR2]
    exact run_clear_row W1 23 9 ty 9 (Value.string ⟨#[]⟩) Try.underlying23 Try.zeroValue9 rfl rfl g (n - 1) 1 c' R1 (by omega) hg1 (by omega)
  have hfin : W1.setRow g R2 = w.drew.setRow g R2 := by rw [hW1, setRow_setRow]
  have hR2s : R2.size = c := by rw [hR2]; simp; omega
  have hR2t : R2.toList.take (n - 1) = (cur.toList.take n).take i ++ (cur.toList.take n).drop (i + 1) := by
    rw [hR2, List.toList_toArray, List.append_assoc, List.take_left' (by simp; omega), hR1, List.toList_toArray, List.take_left' (by simp; omega), hcseq, List.take_take, Nat.min_eq_left (by omega), List.drop_take]
  have Hap : Hid (∀ ty c', (Builtin.append_ #[23, 23] ty #[.slice (some ⟨g, 0, none⟩) i c, .slice (some A) (n - (i + 1)) c']).run Try.prog w.drew = .ok (.slice (some ⟨g, 0, none⟩) (n - 1) c) W1) := by rw [hW1]; exact hap
  obtain ⟨W2, hW2⟩ : ∃ W2, W2 = W1.setRow g R2 := ⟨_, rfl⟩
  rw [← hW2] at hcl hfin
  refine Calls.mono (R := fun e w' => e = .returned (.slice (some ⟨g, 0, none⟩) (n - 1) c) ∧ w' = W2) ?_ (fun e w' ⟨he, hw⟩ => ⟨R2, hR2s, hR2t, he, hw.trans hfin⟩)
  have HA : Hid (A = (if c = i + 1 then ⟨g, 0, none⟩ else ⟨g, i + 1, none⟩)) := hA
  clear hap hfin hW1 hW2 hR1 hR2 hg1 hR1s hR2s hR2t hdl hcseq hll hg hcs h1 hi0 hz0 hzs hzb hA
  have hz2 : ((i : Int) == (i : Int) + 1) = false := by rw [beq_eq_false_iff_ne]; omega
  have hb1 : (0 : Int) ≤ (i : Int) + 1 := by omega
  have htn : ((i : Int) + 1).toNat = i + 1 := by omega
  have hin : (i : Int) + 1 ≤ (n : Int) := by omega
  have hin' : i + 1 ≤ n := by omega
  have hnn : ((n - 1 : Nat) : Int) = (n : Int) - 1 := by omega
  have hn1 : n - (n - 1) = 1 := by omega
  have hn2 : ¬ (c = n - 1) := by omega
  have hb7 : (i : Int) ≤ (i : Int) + 1 := by omega
  have hb8 : i ≤ c := by omega
  have hb9 : (i : Int) + 1 ≤ (c : Int) := by omega
  by_cases hci : c = i + 1
  · obtain rfl : A = ⟨g, 0, none⟩ := by rw [HA.out, if_pos hci]
    clear HA
    obtain rfl : n = i + 1 := by omega
    subst hci
    have Hap' : Hid (∀ ty c', (Builtin.append_ #[23, 23] ty #[.slice (some ⟨g, 0, none⟩) i (i + 1), .slice (some ⟨g, 0, none⟩) 0 c']).run Try.prog w.drew = .ok (.slice (some ⟨g, 0, none⟩) i (i + 1)) W1) := fun ty c' => by
      have := Hap.out ty c'
      simpa using this
    have hcl' : ∀ ty c', (Builtin.clear_ #[23] ty #[.slice (some ⟨g, i, none⟩) 1 c']).run Try.prog W1 = .ok (.tuple #[]) W2 := fun ty c' => by
      have := hcl ty c'
      simpa using this
    clear Hap hcl hnn hn1 hn2
    go_enter Try.func38, Try.ntmps38
    go_wp2
    go_region_law (refine step_append_run rfl _ _ 23 23 rfl (.slice (some ⟨g, 0, none⟩) i (i + 1)) (.slice (some ⟨g, 0, none⟩) 0 0) (by simp [Act.eval, Act.put]) (by simp [Act.eval, Act.put]) (Hap'.out 23 0) ?_)
    go_wp2
    go_ret
    exact ⟨rfl, rfl⟩
  · obtain rfl : A = ⟨g, i + 1, none⟩ := by rw [HA.out, if_neg hci]
    clear HA
    go_enter Try.func38, Try.ntmps38
    go_wp2
    go_region_law (refine step_append_run rfl _ _ 23 23 rfl (.slice (some ⟨g, 0, none⟩) i c) (.slice (some ⟨g, i + 1, none⟩) (n - (i + 1)) (c - (i + 1))) (by simp [Act.eval, Act.put]) (by simp [Act.eval, Act.put]) (Hap.out 23 (c - (i + 1))) ?_)
    go_wp2
    go_ret
    exact ⟨rfl, rfl⟩

/-- What slices.Delete(s, i, i+1) leaves of an owned row. -/
theorem delS (B : Nat) (v : Value) (xs : List Value) (i : Nat) (w : World) (hi : i < xs.length) (hrow : w.ownsRow B 9 1 v xs.length xs) (h1 : ∀ x ∈ xs, x.oneCell' = true) :
    Calls Try.prog 38 #[v, .int .i64 i, .int .i64 ((i : Int) + 1)] w (DelPost B 9 v xs i w) := by
  rcases hrow.2 with ⟨rfl, hn0⟩ | ⟨g, cap, cur, rfl, hBg, hg, hnc, hcm, hcs, htk⟩
  · omega
  · simp only [Nat.mul_one] at hcs htk
    refine (delS_at g xs.length cap i cur w hi hnc (by unfold maxLen at hcm; omega) hg hcs (by rw [htk]; exact h1)).mono ?_
    rintro e w' ⟨R, hRs, hRt, rfl, rfl⟩
    rw [htk] at hRt
    exact ⟨_, rfl, ⟨by simp; omega, .inr ⟨g, cap, R, rfl, hBg, setRow_heap w.drew g cur R 9 (0, 0) hg, by omega, hcm, by omega, by rw [Nat.mul_one]; exact hRt⟩⟩,
      Touch.setRow (S := fun k => (Value.slice (some ⟨g, 0, none⟩) xs.length cap).ownBlock = some k) (Touch.refl _ _).drew g (fun _ => rfl) _, rfl⟩

set_option maxHeartbeats 4000000 in
set_option maxRecDepth 100000 in
theorem delP_at (g n c i : Nat) (cur : Array Value) (w : World) (hi : i < n) (hnc : n ≤ c) (hc : c ≤ 9223372036854775807)
    (hg : w.heap[g]? = some (.cells cur 27 (0, 0))) (hcs : cur.size = c) (h1 : ∀ x ∈ cur.toList.take n, x.oneCell' = true) :
    Calls Try.prog 46 #[.slice (some ⟨g, 0, none⟩) n c, .int .i64 i, .int .i64 ((i : Int) + 1)] w fun e w' =>
      ∃ R, R.size = c ∧ R.toList.take (n - 1) = (cur.toList.take n).take i ++ (cur.toList.take n).drop (i + 1) ∧ e = .returned (.slice (some ⟨g, 0, none⟩) (n - 1) c) ∧ w' = w.drew.setRow g R := by
  obtain ⟨i0, hi0, hz0, hzs, hzb⟩ := infoP
  have hll : cur.toList.length = c := by simpa using hcs
  obtain ⟨cs, hcseq⟩ : ∃ cs, cs = (cur.toList.drop (i + 1)).take (n - (i + 1)) := ⟨_, rfl⟩
  have hdl : cs.length = n - (i + 1) := by rw [hcseq, List.length_take, List.length_drop, hll]; omega
  obtain ⟨R1, hR1⟩ : ∃ R1, R1 = (cur.toList.take i ++ cs ++ cur.toList.drop (i + (n - (i + 1)))).toArray := ⟨_, rfl⟩
  obtain ⟨A, hA⟩ : ∃ A : Addr, A = (if c = i + 1 then ⟨g, 0, none⟩ else ⟨g, i + 1, none⟩) := ⟨_, rfl⟩
  have hap : ∀ ty c', (Builtin.append_ #[47, 47] ty #[.slice (some ⟨g, 0, none⟩) i c, .slice (some A) (n - (i + 1)) c']).run Try.prog w.drew = .ok (.slice (some ⟨g, 0, none⟩) (n - 1) c) (w.drew.setRow g R1) := fun ty c' => by
    have := run_append_room (P := Try.prog) w.drew 47 ty 27 i0 Try.underlying47 hi0 g i c cur hg A (n - (i + 1)) c' cs (by rw [hzs]; omega)
      (fun j v hj => by
        have hjl : j < cs.length := by
          rcases Nat.lt_or_ge j cs.length with h | h
          · exact h
          · rw [List.getElem?_eq_none h] at hj; cases hj
        rw [hA, if_neg (by omega)]
        rw [hcseq] at hj
        exact row_cells (w := w.drew) hg (i + 1) (n - (i + 1)) j v hj)
      (fun v hv => h1 v (by rw [hcseq, ← List.drop_take] at hv; exact List.mem_of_mem_drop hv)) (by omega) (by rw [hzs, hdl, hcs]; omega)
    rw [hzs, hdl, Nat.mul_one] at this
    rw [hR1, show n - 1 = i + (n - (i + 1)) by omega]
    exact this
  have hR1s : R1.size = c := by rw [hR1]; simp; omega
  obtain ⟨W1, hW1⟩ : ∃ W1, W1 = w.drew.setRow g R1 := ⟨_, rfl⟩
  have hg1 : W1.heap[g]? = some (.cells R1 27 (0, 0)) := by rw [hW1]; exact setRow_heap w.drew g cur R1 27 (0, 0) hg
  obtain ⟨R2, hR2⟩ : ∃ R2, R2 = (R1.toList.take (n - 1) ++ List.replicate 1 (Value.pointer none) ++ R1.toList.drop (n - 1 + 1)).toArray := ⟨_, rfl⟩
  have hcl : ∀ ty c', (Builtin.clear_ #[47] ty #[.slice (some ⟨g, n - 1, none⟩) 1 c']).run Try.prog W1 = .ok (.tuple #[]) (W1.setRow g R2) := fun ty c' => by
    rw [hR2]
    exact run_clear_row W1 47 27 ty 27 (Value.pointer none) Try.underlying47 Try.zeroValue27 rfl rfl g (n - 1) 1 c' R1 (by omega) hg1 (by omega)
  have hfin : W1.setRow g R2 = w.drew.setRow g R2 := by rw [hW1, setRow_setRow]
  have hR2s : R2.size = c := by rw [hR2]; simp; omega
  have hR2t : R2.toList.take (n - 1) = (cur.toList.take n).take i ++ (cur.toList.take n).drop (i + 1) := by
    rw [hR2, List.toList_toArray, List.append_assoc, List.take_left' (by simp; omega), hR1, List.toList_toArray, List.take_left' (by simp; omega), hcseq, List.take_take, Nat.min_eq_left (by omega), List.drop_take]
  have Hap : Hid (∀ ty c', (Builtin.append_ #[47, 47] ty #[.slice (some ⟨g, 0, none⟩) i c, .slice (some A) (n - (i + 1)) c']).run Try.prog w.drew = .ok (.slice (some ⟨g, 0, none⟩) (n - 1) c) W1) := by rw [hW1]; exact hap
  obtain ⟨W2, hW2⟩ : ∃ W2, W2 = W1.setRow g R2 := ⟨_, rfl⟩
  rw [← hW2] at hcl hfin
  refine Calls.mono (R := fun e w' => e = .returned (.slice (some ⟨g, 0, none⟩) (n - 1) c) ∧ w' = W2) ?_ (fun e w' ⟨he, hw⟩ => ⟨R2, hR2s, hR2t, he, hw.trans hfin⟩)
  have HA : Hid (A = (if c = i + 1 then ⟨g, 0, none⟩ else ⟨g, i + 1, none⟩)) := hA
  clear hap hfin hW1 hW2 hR1 hR2 hg1 hR1s hR2s hR2t hdl hcseq hll hg hcs h1 hi0 hz0 hzs hzb hA
  have hz2 : ((i : Int) == (i : Int) + 1) = false := by rw [beq_eq_false_iff_ne]; omega
  have hb1 : (0 : Int) ≤ (i : Int) + 1 := by omega
  have htn : ((i : Int) + 1).toNat = i + 1 := by omega
  have hin : (i : Int) + 1 ≤ (n : Int) := by omega
  have hin' : i + 1 ≤ n := by omega
  have hnn : ((n - 1 : Nat) : Int) = (n : Int) - 1 := by omega
  have hn1 : n - (n - 1) = 1 := by omega
  have hn2 : ¬ (c = n - 1) := by omega
  have hb7 : (i : Int) ≤ (i : Int) + 1 := by omega
  have hb8 : i ≤ c := by omega
  have hb9 : (i : Int) + 1 ≤ (c : Int) := by omega
  by_cases hci : c = i + 1
  · obtain rfl : A = ⟨g, 0, none⟩ := by rw [HA.out, if_pos hci]
    clear HA
    obtain rfl : n = i + 1 := by omega
    subst hci
    have Hap' : Hid (∀ ty c', (Builtin.append_ #[47, 47] ty #[.slice (some ⟨g, 0, none⟩) i (i + 1), .slice (some ⟨g, 0, none⟩) 0 c']).run Try.prog w.drew = .ok (.slice (some ⟨g, 0, none⟩) i (i + 1)) W1) := fun ty c' => by
      have := Hap.out ty c'
      simpa using this
    have hcl' : ∀ ty c', (Builtin.clear_ #[47] ty #[.slice (some ⟨g, i, none⟩) 1 c']).run Try.prog W1 = .ok (.tuple #[]) W2 := fun ty c' => by
      have := hcl ty c'
      simpa using this
    clear Hap hcl hnn hn1 hn2
    go_enter Try.func46, Try.ntmps46
    go_wp2
    go_region_law (refine step_append_run rfl _ _ 47 47 rfl (.slice (some ⟨g, 0, none⟩) i (i + 1)) (.slice (some ⟨g, 0, none⟩) 0 0) (by simp [Act.eval, Act.put]) (by simp [Act.eval, Act.put]) (Hap'.out 47 0) ?_)
    go_wp2
    go_ret
    exact ⟨rfl, rfl⟩
  · obtain rfl : A = ⟨g, i + 1, none⟩ := by rw [HA.out, if_neg hci]
    clear HA
    go_enter Try.func46, Try.ntmps46
    go_wp2
    go_region_law (refine step_append_run rfl _ _ 47 47 rfl (.slice (some ⟨g, 0, none⟩) i c) (.slice (some ⟨g, i + 1, none⟩) (n - (i + 1)) (c - (i + 1))) (by simp [Act.eval, Act.put]) (by simp [Act.eval, Act.put]) (Hap.out 47 (c - (i + 1))) ?_)
    go_wp2
    go_ret
    exact ⟨rfl, rfl⟩

/-- What slices.Delete(s, i, i+1) leaves of an owned row. -/
theorem delP (B : Nat) (v : Value) (xs : List Value) (i : Nat) (w : World) (hi : i < xs.length) (hrow : w.ownsRow B 27 1 v xs.length xs) (h1 : ∀ x ∈ xs, x.oneCell' = true) :
    Calls Try.prog 46 #[v, .int .i64 i, .int .i64 ((i : Int) + 1)] w (DelPost B 27 v xs i w) := by
  rcases hrow.2 with ⟨rfl, hn0⟩ | ⟨g, cap, cur, rfl, hBg, hg, hnc, hcm, hcs, htk⟩
  · omega
  · simp only [Nat.mul_one] at hcs htk
    refine (delP_at g xs.length cap i cur w hi hnc (by unfold maxLen at hcm; omega) hg hcs (by rw [htk]; exact h1)).mono ?_
    rintro e w' ⟨R, hRs, hRt, rfl, rfl⟩
    rw [htk] at hRt
    exact ⟨_, rfl, ⟨by simp; omega, .inr ⟨g, cap, R, rfl, hBg, setRow_heap w.drew g cur R 27 (0, 0) hg, by omega, hcm, by omega, by rw [Nat.mul_one]; exact hRt⟩⟩,
      Touch.setRow (S := fun k => (Value.slice (some ⟨g, 0, none⟩) xs.length cap).ownBlock = some k) (Touch.refl _ _).drew g (fun _ => rfl) _, rfl⟩


end Go.Proofs.Qxb6604036a
