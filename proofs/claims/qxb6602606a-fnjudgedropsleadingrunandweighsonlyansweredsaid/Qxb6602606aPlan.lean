/- Plain facts for the law, and slices of slices. -/
import Derived.Test.Qxb6602606aJudge
namespace Go.Proofs.Qxb6602606a
open Go.RowKit
set_option linter.unusedVariables false
set_option linter.unusedSimpArgs false

theorem wIdx_split (S : Nat → Int) (after : Int) {i d : Nat} (h : i ≤ d) : ∃ r, wIdx S after d = wIdx S after i ++ r := by
  obtain ⟨e, rfl⟩ : ∃ e, d = i + e := ⟨d - i, by omega⟩
  unfold wIdx
  rw [List.range_add, List.filter_append]
  exact ⟨_, rfl⟩

theorem wIdx_at (S : Nat → Int) (after : Int) {i d : Nat} (h : i < d) (hs : S i < after) : (wIdx S after i).length < (wIdx S after d).length ∧ (wIdx S after d).getD (wIdx S after i).length 0 = i := by
  obtain ⟨r, hr⟩ := wIdx_split S after (show i + 1 ≤ d from h)
  rw [wIdx_succ, if_pos hs] at hr
  rw [hr]
  constructor
  · simp
  · rw [List.append_assoc, List.getD_eq_getElem?_getD, List.getElem?_append_right (Nat.le_refl _), Nat.sub_self]; rfl

theorem wIdx_mem (S : Nat → Int) (after : Int) (d j : Nat) (h : j < (wIdx S after d).length) : (wIdx S after d).getD j 0 < d ∧ S ((wIdx S after d).getD j 0) < after := by
  have hm : (wIdx S after d)[j] ∈ wIdx S after d := List.getElem_mem h
  rw [List.getD_eq_getElem?_getD, List.getElem?_eq_getElem h, Option.getD_some]
  unfold wIdx at hm ⊢
  rw [List.mem_filter] at hm
  exact ⟨by simpa using hm.1, by simpa using hm.2⟩

/-- The second tally weighs the very same. -/
theorem wIdx_again (S : Nat → Int) (after : Int) (d : Nat) (f g : Nat → Nat) (hfg : ∀ j, g j = f ((wIdx S after d).getD j 0)) :
    (wIdx (fun j => S ((wIdx S after d).getD j 0)) after (wIdx S after d).length).map g = (wIdx S after d).map f := by
  have h1 : wIdx (fun j => S ((wIdx S after d).getD j 0)) after (wIdx S after d).length = List.range (wIdx S after d).length := by
    unfold wIdx
    rw [List.filter_eq_self]
    intro j hj
    have := (wIdx_mem S after d j (by simpa [wIdx] using hj)).2
    simpa [wIdx] using this
  rw [h1]
  apply List.ext_getElem
  · simp
  · intro i h2 h3
    simp only [List.length_map, List.length_range] at h2
    simp [hfg, List.getD_eq_getElem?_getD, h2]

theorem RI.shift {k : IntKind} {w : World} {b off n c : Nat} {S : Nat → Int} (h : RI k w (some ⟨b, off, none⟩) n c S) (d : Nat) (hd : d < n) : RI k w (some ⟨b, off + d, none⟩) (n - d) (c - d) (fun i => S (d + i)) := by
  obtain ⟨h1, h2, h3⟩ := h
  obtain ⟨b', off', e, hc⟩ := h3 (by omega)
  cases e
  exact ⟨by omega, by omega, fun _ => ⟨b, off + d, rfl, fun i hi => by rw [Nat.add_assoc]; exact hc (d + i) (by omega)⟩⟩

theorem RI.none_ {k : IntKind} {w : World} {a : Option Addr} {S : Nat → Int} : RI k w a 0 0 S := ⟨Nat.le_refl _, Nat.zero_le _, fun h => absurd h (Nat.lt_irrefl _)⟩

/-- A slice from d on: where it lies, whatever the world. -/
theorem slice_from {k : IntKind} {w : World} {a : Option Addr} {n : Nat} {S : Nat → Int} (h : RI k w a n n S) (d : Nat) (hd : d ≤ n) (t e : TypeId) (ht : Try.prog.underlying t = some (.slice e)) (he : Try.prog.elem t = e) (hs : ∀ W, (sizeOf e).run Try.prog W = .ok 1 W) :
    ∃ y, (∀ W, (Instr.slice t (.slice a n n) (some (.int .i64 (d : Int))) none none).run Try.prog W = .ok (.slice y (n - d) (n - d)) W) ∧ (∀ W, (Instr.sliceAt t (.slice a n n) (some (.int .i64 (d : Int))) none none).run Try.prog W = .ok (.slice y (n - d) (n - d)) W) ∧ RI k w y (n - d) (n - d) (fun i => S (d + i)) := by
  have hr : ∀ W, (Instr.slice t (.slice a n n) (some (.int .i64 (d : Int))) none none).run Try.prog W = .ok (sliced a d n n 1) W := fun W => by
    rw [run_slice_l (P := Try.prog) W t a n n (by rw [he]; exact ht) .i64 (d : Int) (by omega) (by omega), he, hs, Int.toNat_natCast]
    rfl
  have hr' : ∀ W, (Instr.sliceAt t (.slice a n n) (some (.int .i64 (d : Int))) none none).run Try.prog W = .ok (sliced a d n n 1) W := fun W => by
    rw [run_sliceAt_slice (P := Try.prog) W t _ _ _ _ (by rw [he]; exact ht)]; exact hr W
  refine ⟨if n = d then a else a.map (fun x => Addr.add x (d * 1)), hr, hr', ?_⟩
  by_cases hnd : n = d
  · rw [if_pos hnd, show n - d = 0 by omega]; exact RI.none_
  · rw [if_neg hnd]
    obtain ⟨b, off, rfl, -⟩ := h.2.2 (by omega)
    have e1 : Option.map (fun x => Addr.add x (d * 1)) (some (⟨b, off, none⟩ : Addr)) = some ⟨b, off + d, none⟩ := by
      rw [Nat.mul_one]; show some (Addr.add ⟨b, off, none⟩ d) = _; rw [Addr.add_lit]
    rw [e1]
    exact h.shift d (by omega)

theorem sizeU (W : World) : (sizeOf 22).run Try.prog W = .ok 1 W := rfl
theorem sizeI (W : World) : (sizeOf 3).run Try.prog W = .ok 1 W := rfl
theorem elem24 : Try.prog.elem 24 = 22 := by kernel_rfl
theorem elem38 : Try.prog.elem 38 = 3 := by kernel_rfl

/-- Three rows under way, one behind the other. -/
def P3 (W : World) (m q : Nat) (F0 F1 F2 : Nat → Value) (wr : World) : Prop :=
  Part 22 wr W.heap.size m q F0 ∧ Part 3 wr (W.heap.size + 1) m q F1 ∧ Part 3 wr (W.heap.size + 1 + 1) m q F2 ∧ Touch (fun _ => False) W wr

theorem P3.made (W : World) (m : Nat) (F0 F1 F2 : Nat → Value) : P3 W m 0 F0 F1 F2 (((W.alloc (.cells (madeCells #[.int .u64 0] m) 22)).alloc (.cells (madeCells #[.int .i64 0] m) 3)).alloc (.cells (madeCells #[.int .i64 0] m) 3)) := by
  refine ⟨?_, ?_, ?_, (((Touch.refl _ _).alloc _).alloc _).alloc _⟩
  · refine Part.same (w := W.alloc (.cells (madeCells #[.int .u64 0] m) 22)) Part.made ?_
    rw [Below.heap_alloc _ _ _ (by simp; omega), Below.heap_alloc _ _ _ (by simp)]
  · refine Part.same (w := (W.alloc (.cells (madeCells #[.int .u64 0] m) 22)).alloc (.cells (madeCells #[.int .i64 0] m) 3)) ?_ (by rw [Below.heap_alloc _ _ _ (by simp)])
    have := @Part.made 3 (W.alloc (.cells (madeCells #[.int .u64 0] m) 22)) m (.int .i64 0) F1
    simpa using this
  · have := @Part.made 3 ((W.alloc (.cells (madeCells #[.int .u64 0] m) 22)).alloc (.cells (madeCells #[.int .i64 0] m) 3)) m (.int .i64 0) F2
    simpa using this

theorem P3.put {W : World} {m q : Nat} {F0 F1 F2 : Nat → Value} {wr : World} (h : P3 W m q F0 F1 F2 wr) (hq : q < m) (x0 x1 x2 : Value) (e0 : F0 q = x0) (e1 : F1 q = x1) (e2 : F2 q = x2) :
    P3 W m (q + 1) F0 F1 F2 (((wr.setCell ⟨W.heap.size, q, none⟩ x0).setCell ⟨W.heap.size + 1, q, none⟩ x1).setCell ⟨W.heap.size + 1 + 1, q, none⟩ x2) := by
  obtain ⟨p1, p2, p3, pt⟩ := h
  have hne1 : W.heap.size ≠ W.heap.size + 1 := by omega
  have hne2 : W.heap.size ≠ W.heap.size + 1 + 1 := by omega
  have hne3 : W.heap.size + 1 ≠ W.heap.size + 1 + 1 := by omega
  refine ⟨?_, ?_, ?_, ((pt.setCell _ (fun h => absurd h (Nat.lt_irrefl _)) _).setCell _ (fun h => absurd h (by show ¬ W.heap.size + 1 < W.heap.size; omega)) _).setCell _ (fun h => absurd h (by show ¬ W.heap.size + 1 + 1 < W.heap.size; omega)) _⟩
  · refine Part.same (p1.put hq x0 e0) ?_
    rw [Below.heap_setCell _ _ _ _ hne2, Below.heap_setCell _ _ _ _ hne1]
  · refine Part.same (Part.put (Part.same p2 (w' := wr.setCell ⟨W.heap.size, q, none⟩ x0) (by rw [Below.heap_setCell _ _ _ _ (Ne.symm hne1)])) hq x1 e1) ?_
    rw [Below.heap_setCell _ _ _ _ hne3]
  · refine Part.put (Part.same p3 ?_) hq x2 e2
    rw [Below.heap_setCell _ _ _ _ (Ne.symm hne3), Below.heap_setCell _ _ _ _ (Ne.symm hne2)]

end Go.Proofs.Qxb6602606a
