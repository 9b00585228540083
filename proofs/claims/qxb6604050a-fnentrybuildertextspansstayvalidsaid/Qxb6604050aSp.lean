/- The state of the loop over the texts, and its two steps. -/
import Derived.Test.Qxb6604050aSpans
namespace Go.Proofs.Qxb6604050a
open Go.RowKit
set_option linter.unusedVariables false
set_option linter.unusedSimpArgs false
attribute [local go_sem ↓] Go.wp_at_zero Go.wp_at_succ

theorem infoW : ∃ i, Try.prog.info? 27 = some i ∧ i.zero = some (Value.int .u32 0) ∧ i.size = 1 ∧ i.bytes = 4 := ⟨_, rfl, rfl, rfl, rfl⟩
theorem infoI : ∃ i, Try.prog.info? 3 = some i ∧ i.zero = some (Value.int .i64 0) ∧ i.size = 1 ∧ i.bytes = 8 := ⟨_, rfl, rfl, rfl, rfl⟩
theorem makeW (n : Nat) (hn : n ≤ 1048576) (w : World) : (Instr.makeSlice 36 (.int .i64 (n : Int)) (.int .i64 (n : Int))).run Try.prog w = .ok (.slice (some ⟨w.heap.size, 0, none⟩) n n) (w.alloc (.cells (madeCells #[.int .u32 0] n) 27)) := by
  obtain ⟨i0, hi0, hz0, hzs, hzb⟩ := infoW
  exact run_make_row (P := Try.prog) 36 27 i0 _ Try.underlying36 hi0 hz0 hzs rfl .i64 .i64 n (by rw [hzb]; omega) (by omega) w
theorem makeI (n : Nat) (hn : n ≤ 1048576) (w : World) : (Instr.makeSlice 34 (.int .i64 (n : Int)) (.int .i64 (n : Int))).run Try.prog w = .ok (.slice (some ⟨w.heap.size, 0, none⟩) n n) (w.alloc (.cells (madeCells #[.int .i64 0] n) 3)) := by
  obtain ⟨i0, hi0, hz0, hzs, hzb⟩ := infoI
  exact run_make_row (P := Try.prog) 34 3 i0 _ Try.underlying34 hi0 hz0 hzs rfl .i64 .i64 n (by rw [hzb]; omega) (by omega) w

/-- The law's answer. -/
def LawPost5 (w : World) (e : Ending) (w' : World) : Prop := e = .returned (.bool true) ∧ Below w.heap.size w w'

/-- What stands behind the copy of src. -/
structure Mid5 (w : World) (n : Nat) (S : Nat → Int) (v0 : Value) (wc : World) : Prop where
  bel : Touch (fun _ => False) w wc
  src : ∃ a c, v0 = .slice a n c ∧ Rb wc a n c S

/-- The rows starts, ends, used, the first k cells laid. -/
structure Rows3 (pS pE pU nt k : Nat) (st : Nat → Nat) (M : Nat → Nat) (wr : World) : Prop where
  starts : ∃ cur, wr.heap[pS]? = some (.cells cur 27 (0, 0)) ∧ cur.size = nt ∧ ∀ i, i < k → cur[i]? = some (.int .u32 (st i : Int))
  ends : ∃ cur, wr.heap[pE]? = some (.cells cur 27 (0, 0)) ∧ cur.size = nt ∧ ∀ i, i < k → cur[i]? = some (.int .u32 ((st i + M i : Nat) : Int))
  used : ∃ cur, wr.heap[pU]? = some (.cells cur 3 (0, 0)) ∧ cur.size = nt

theorem Rows3.same {pS pE pU nt k : Nat} {st : Nat → Nat} {M : Nat → Nat} {w w' : World} (h : Rows3 pS pE pU nt k st M w) (hb : ∀ p, p = pS ∨ p = pE ∨ p = pU → w'.heap[p]? = w.heap[p]?) : Rows3 pS pE pU nt k st M w' := by
  refine ⟨?_, ?_, ?_⟩
  · obtain ⟨cur, h1, h2⟩ := h.starts; exact ⟨cur, by rw [hb _ (.inl rfl)]; exact h1, h2⟩
  · obtain ⟨cur, h1, h2⟩ := h.ends; exact ⟨cur, by rw [hb _ (.inr (.inl rfl))]; exact h1, h2⟩
  · obtain ⟨cur, h1, h2⟩ := h.used; exact ⟨cur, by rw [hb _ (.inr (.inr rfl))]; exact h1, h2⟩

theorem put_cell {w : World} {p nt k ty : Nat} {F : Nat → Value} (v : Value) (h : ∃ cur, w.heap[p]? = some (.cells cur ty (0, 0)) ∧ cur.size = nt ∧ ∀ i, i < k → cur[i]? = some (F i)) (hk : k < nt) (hv : F k = v) :
    ∃ cur, (w.setCell ⟨p, k, none⟩ v).heap[p]? = some (.cells cur ty (0, 0)) ∧ cur.size = nt ∧ ∀ i, i < k + 1 → cur[i]? = some (F i) := by
  obtain ⟨cur, h1, h2, h3⟩ := h
  refine ⟨cur.setIfInBounds k v, ?_, by simpa using h2, fun i hi => ?_⟩
  · rw [setCell_eq_setRow w p k _ ty (0, 0) _ h1, setRow_heap w p _ _ ty (0, 0) h1]
  · rw [Array.getElem?_setIfInBounds]
    by_cases e : k = i
    · subst e; rw [if_pos rfl, if_pos (by omega), hv]
    · rw [if_neg e]; exact h3 i (by omega)

theorem Rows3.put {pS pE pU nt k : Nat} {st st' : Nat → Nat} {M : Nat → Nat} {w : World} (h : Rows3 pS pE pU nt k st M w) (hk : k < nt) (h1 : pS ≠ pE) (h2 : pS ≠ pU) (h3 : pE ≠ pU) (q : Int) (hst : ∀ i, i < k → st' i = st i) :
    Rows3 pS pE pU nt (k + 1) st' M (((w.setCell ⟨pS, k, none⟩ (.int .u32 (st' k : Int))).setCell ⟨pE, k, none⟩ (.int .u32 ((st' k + M k : Nat) : Int))).setCell ⟨pU, k, none⟩ (.int .i64 q)) := by
  refine ⟨?_, ?_, ?_⟩
  · rw [Below.heap_setCell _ _ _ _ h2, Below.heap_setCell _ _ _ _ h1]
    refine put_cell (F := fun i => .int .u32 (st' i : Int)) _ ?_ hk rfl
    obtain ⟨cur, a1, a2, a3⟩ := h.starts
    exact ⟨cur, a1, a2, fun i hi => by rw [a3 i hi, hst i hi]⟩
  · rw [Below.heap_setCell _ _ _ _ h3]
    refine put_cell (F := fun i => .int .u32 ((st' i + M i : Nat) : Int)) _ ?_ hk rfl
    obtain ⟨cur, a1, a2, a3⟩ := h.ends
    exact ⟨cur, by rw [Below.heap_setCell _ _ _ _ (Ne.symm h1)]; exact a1, a2, fun i hi => by rw [a3 i hi, hst i hi]⟩
  · obtain ⟨cur, a1, a2⟩ := h.used
    refine ⟨cur.setIfInBounds k (.int .i64 q), ?_, by simpa using a2⟩
    have a1' : ((w.setCell ⟨pS, k, none⟩ (.int .u32 (st' k : Int))).setCell ⟨pE, k, none⟩ (.int .u32 ((st' k + M k : Nat) : Int))).heap[pU]? = some (.cells cur 3 (0, 0)) := by
      rw [Below.heap_setCell _ _ _ _ (Ne.symm h3), Below.heap_setCell _ _ _ _ (Ne.symm h2)]; exact a1
    rw [setCell_eq_setRow _ pU k _ 3 (0, 0) _ a1', setRow_heap _ pU _ _ 3 (0, 0) a1']

/-- Which cells the walk needs of them. -/
theorem Rows3.cells {pS pE pU nt k : Nat} {st : Nat → Nat} {M : Nat → Nat} {w : World} (h : Rows3 pS pE pU nt k st M w) (hk : k < nt) :
    ∃ x y z, w.cell? ⟨pS, k, none⟩ = some x ∧ w.cell? ⟨pE, k, none⟩ = some y ∧ w.cell? ⟨pU, k, none⟩ = some z ∧ w.frozen? ⟨pS, k, none⟩ = false ∧ w.frozen? ⟨pE, k, none⟩ = false ∧ w.frozen? ⟨pU, k, none⟩ = false := by
  obtain ⟨c1, a1, a2, -⟩ := h.starts
  obtain ⟨c2, b1, b2, -⟩ := h.ends
  obtain ⟨c3, d1, d2⟩ := h.used
  refine ⟨c1[k]'(by omega), c2[k]'(by omega), c3[k]'(by omega), ?_, ?_, ?_, ?_, ?_, ?_⟩
  · rw [cell_of_row w pS k c1 27 (0, 0) a1, Array.getElem?_eq_getElem]
  · rw [cell_of_row w pE k c2 27 (0, 0) b1, Array.getElem?_eq_getElem]
  · rw [cell_of_row w pU k c3 3 (0, 0) d1, Array.getElem?_eq_getElem]
  · simp [World.frozen?, a1]
  · simp [World.frozen?, b1]
  · simp [World.frozen?, d1]

/-- Where three blocks lie, and what may turn. -/
structure Sp (n nt : Nat) (S : Nat → Int) (M : Nat → Nat) (T : Nat → Nat → Int) (W1 : World) (pS pE pU k : Nat) (st : Nat → Nat) (l : List Int) (v10 v11 : Value) (wr : World) : Prop where
  touch : Touch (fun k => k = pS ∨ k = pE ∨ k = pU) W1 wr
  more : wr.ownsRow W1.heap.size 5 1 v10 l.length (ints l)
  want : wr.ownsRow W1.heap.size 5 1 v11 l.length (ints l)
  apart : ∀ k, v10.ownBlock = some k → v11.ownBlock ≠ some k
  nil : v10.ownBlock = none ↔ v11.ownBlock = none
  rows : Rows3 pS pE pU nt k st M wr
  small : l.length ≤ psum M k
  spans : ∀ i, i < k → st i + M i ≤ n + l.length ∧ ∀ j, j < M i → atStore n S (fun q => l.getD q 0) (st i + j) = T i j

theorem Sp.mem {n nt : Nat} {S : Nat → Int} {M : Nat → Nat} {T : Nat → Nat → Int} {W1 : World} {pS pE pU k : Nat} {st : Nat → Nat} {l : List Int} {v10 v11 : Value} {wr wx : World} (h : Sp n nt S M T W1 pS pE pU k st l v10 v11 wr) (hm : Mem wr wx) : Sp n nt S M T W1 pS pE pU k st l v10 v11 wx :=
  ⟨Mem.touch h.touch hm, ownsRow_same h.more fun k _ => by rw [hm.heap], ownsRow_same h.want fun k _ => by rw [hm.heap], h.apart, h.nil, h.rows.same fun p _ => by rw [hm.heap], h.small, h.spans⟩

theorem atStore_app (n : Nat) (S : Nat → Int) (l r : List Int) (i : Nat) (h : i < n + l.length) : atStore n S (fun q => (l ++ r).getD q 0) i = atStore n S (fun q => l.getD q 0) i := by
  unfold atStore
  by_cases hi : i < n
  · rw [if_pos hi, if_pos hi]
  · rw [if_neg hi, if_neg hi]
    show (l ++ r).getD (i - n) 0 = l.getD (i - n) 0
    rw [List.getD_eq_getElem?_getD, List.getD_eq_getElem?_getD, List.getElem?_append_left (by omega)]

/-- One text in place. -/
theorem Sp.stepI {n nt : Nat} {S : Nat → Int} {M : Nat → Nat} {T : Nat → Nat → Int} {W1 : World} {pS pE pU k : Nat} {st : Nat → Nat} {l : List Int} {v10 v11 v' : Value} {wx W2 : World} (h : Sp n nt S M T W1 pS pE pU k st l v10 v11 wx) (hk : k < nt)
    (h1 : pS ≠ pE) (h2 : pS ≠ pU) (h3 : pE ≠ pU) (hS : pS < W1.heap.size) (hE : pE < W1.heap.size) (hU : pU < W1.heap.size) (hG : Grew W1.heap.size v10 l [] wx v' W2) (hT : Touch (fun k => v10.ownBlock = some k) wx W2) (Q : Nat) (hQ : Q + M k ≤ n) (hm : ∀ j, j < M k → S (Q + j) = T k j) :
    Rows3 pS pE pU nt k st M W2 ∧ Sp n nt S M T W1 pS pE pU (k + 1) (fun i => if i = k then Q else st i) l v' v11 (((W2.setCell ⟨pS, k, none⟩ (.int .u32 (Q : Int))).setCell ⟨pE, k, none⟩ (.int .u32 ((Q + M k : Nat) : Int))).setCell ⟨pU, k, none⟩ (.int .i64 (Q : Int))) := by
  have hsz := h.touch.size
  have hge : ∀ p, p < W1.heap.size → v10.ownBlock ≠ some p := fun p hp e => by have := ownsRow_ge h.more e; omega
  have hR2 : Rows3 pS pE pU nt k st M W2 := h.rows.same fun p hp => hT.block p (by rcases hp with rfl | rfl | rfl <;> omega) (hge p (by rcases hp with rfl | rfl | rfl <;> assumption))
  have tA : Touch (fun k => k = pS ∨ k = pE ∨ k = pU) W2 (((W2.setCell ⟨pS, k, none⟩ (.int .u32 (Q : Int))).setCell ⟨pE, k, none⟩ (.int .u32 ((Q + M k : Nat) : Int))).setCell ⟨pU, k, none⟩ (.int .i64 (Q : Int))) :=
    (((Touch.refl _ _).setCell _ (fun _ => .inl rfl) _).setCell _ (fun _ => .inr (.inl rfl)) _).setCell _ (fun _ => .inr (.inr rfl)) _
  have hown2 : W2.ownsRow W1.heap.size 5 1 v' l.length (ints l) := by have := hG.owns; rwa [List.append_nil] at this
  have hlow : ∀ {v : Value} {m : Nat} {xs : List Value} {w : World}, w.ownsRow W1.heap.size 5 1 v m xs → ∀ p, v.ownBlock = some p → ¬ (p = pS ∨ p = pE ∨ p = pU) := fun ho p hp e => by
    have := ownsRow_ge ho hp
    rcases e with rfl | rfl | rfl <;> omega
  have hsame := hG.same rfl
  have want2 : W2.ownsRow W1.heap.size 5 1 v11 l.length (ints l) := ownsRow_touch h.want hT fun p hp e => h.apart p e hp
  refine ⟨hR2, ⟨?_, ownsRow_touch hown2 tA (hlow hown2), ownsRow_touch want2 tA (hlow want2), fun p hp => h.apart p (hsame ▸ hp), by rw [hsame]; exact h.nil, ?_, ?_, ?_⟩⟩
  · exact (h.touch.trans hT fun p hp e => absurd e (hge p hp)).trans tA fun _ _ e => e
  · have := hR2.put (st' := fun i => if i = k then Q else st i) hk h1 h2 h3 (Q : Int) (fun i hi => by show (if i = k then Q else st i) = _; rw [if_neg (by omega)])
    simpa using this
  · have := h.small; simp only [psum]; omega
  · intro i hi
    by_cases e : i = k
    · subst e
      show (if i = i then Q else st i) + M i ≤ _ ∧ ∀ j, j < M i → atStore n S _ ((if i = i then Q else st i) + j) = _
      rw [if_pos rfl]
      refine ⟨by omega, fun j hj => ?_⟩
      unfold atStore
      rw [if_pos (by omega)]
      exact hm j hj
    · show (if i = k then Q else st i) + M i ≤ _ ∧ ∀ j, j < M i → atStore n S _ ((if i = k then Q else st i) + j) = _
      rw [if_neg e]
      exact h.spans i (by omega)

/-- One copied text. -/
theorem Sp.stepC {n nt : Nat} {S : Nat → Int} {M : Nat → Nat} {T : Nat → Nat → Int} {W1 : World} {pS pE pU k : Nat} {st : Nat → Nat} {l : List Int} {v10 v11 v' : Value} {wx W2 : World} (h : Sp n nt S M T W1 pS pE pU k st l v10 v11 wx) (hk : k < nt)
    (h1 : pS ≠ pE) (h2 : pS ≠ pU) (h3 : pE ≠ pU) (hS : pS < W1.heap.size) (hE : pE < W1.heap.size) (hU : pU < W1.heap.size) (hG : Grew W1.heap.size v10 l (listOf (M k) (T k)) wx v' W2) (hT : Touch (fun k => v10.ownBlock = some k) wx W2) (q : Int) (a : Option Addr) (d : Nat)
    (hA : Arg W2 a (M k) d (T k)) (haP : ∀ x, a = some x → 0 < M k → x.block ≠ pS ∧ x.block ≠ pE ∧ x.block ≠ pU) (hbig : l.length + M k ≤ 4194304) :
    Rows3 pS pE pU nt k st M W2 ∧ ∃ v11' W4, (Builtin.append_ #[22, 22] 22 #[v11, .slice a (M k) d]).run Try.prog (((W2.setCell ⟨pS, k, none⟩ (.int .u32 ((n + l.length : Nat) : Int))).setCell ⟨pE, k, none⟩ (.int .u32 ((n + l.length + M k : Nat) : Int))).setCell ⟨pU, k, none⟩ (.int .i64 q)) = .ok v11' W4 ∧
      Sp n nt S M T W1 pS pE pU (k + 1) (fun i => if i = k then n + l.length else st i) (l ++ listOf (M k) (T k)) v' v11' W4 := by
  have hsz := h.touch.size
  have hsz2 := hT.size
  have hge : ∀ p, p < W1.heap.size → v10.ownBlock ≠ some p := fun p hp e => by have := ownsRow_ge h.more e; omega
  have hge11 : ∀ p, p < W1.heap.size → v11.ownBlock ≠ some p := fun p hp e => by have := ownsRow_ge h.want e; omega
  have hR2 : Rows3 pS pE pU nt k st M W2 := h.rows.same fun p hp => hT.block p (by rcases hp with rfl | rfl | rfl <;> omega) (hge p (by rcases hp with rfl | rfl | rfl <;> assumption))
  have tA : Touch (fun k => k = pS ∨ k = pE ∨ k = pU) W2 (((W2.setCell ⟨pS, k, none⟩ (.int .u32 ((n + l.length : Nat) : Int))).setCell ⟨pE, k, none⟩ (.int .u32 ((n + l.length + M k : Nat) : Int))).setCell ⟨pU, k, none⟩ (.int .i64 q)) :=
    (((Touch.refl _ _).setCell _ (fun _ => .inl rfl) _).setCell _ (fun _ => .inr (.inl rfl)) _).setCell _ (fun _ => .inr (.inr rfl)) _
  have hlow : ∀ {v : Value} {m : Nat} {xs : List Value} {w : World}, w.ownsRow W1.heap.size 5 1 v m xs → ∀ p, v.ownBlock = some p → ¬ (p = pS ∨ p = pE ∨ p = pU) := fun ho p hp e => by
    have := ownsRow_ge ho hp
    rcases e with rfl | rfl | rfl <;> omega
  have want2 : W2.ownsRow W1.heap.size 5 1 v11 l.length (ints l) := ownsRow_touch h.want hT fun p hp e => h.apart p e hp
  have hR3 := hR2.put (st' := fun i => if i = k then n + l.length else st i) hk h1 h2 h3 q (fun i hi => by show (if i = k then n + l.length else st i) = _; rw [if_neg (by omega)])
  simp only [if_true] at hR3
  obtain ⟨W3, hW3⟩ : ∃ W3, W3 = (((W2.setCell ⟨pS, k, none⟩ (.int .u32 ((n + l.length : Nat) : Int))).setCell ⟨pE, k, none⟩ (.int .u32 ((n + l.length + M k : Nat) : Int))).setCell ⟨pU, k, none⟩ (.int .i64 q)) := ⟨_, rfl⟩
  rw [← hW3] at tA hR3 ⊢
  have more3 := ownsRow_touch hG.owns tA (hlow hG.owns)
  have want3 := ownsRow_touch want2 tA (hlow want2)
  have hsz3 := tA.size
  obtain ⟨v11', W4, hr, hG4, hT4⟩ := appB W3 W1.heap.size 22 v11 l a (M k) d (T k) want3 (hA.rd.touch tA fun x hx h0 e => by
    obtain ⟨e1, e2, e3⟩ := haP x hx h0
    rcases e with e | e | e
    · exact e1 e
    · exact e2 e
    · exact e3 e) (fun e => (hA.nil e).2) hbig (by omega)
  have hv11lt : ∀ p, v11.ownBlock = some p → p < wx.heap.size := fun p hp => (ownsRow_lt h.want hp).2
  refine ⟨hR2, v11', W4, hr, ⟨?_, ?_, hG4.owns, ?_, ?_, ?_, ?_, ?_⟩⟩
  · exact ((h.touch.trans hT fun p hp e => absurd e (hge p hp)).trans tA fun _ _ e => e).trans hT4 fun p hp e => absurd e (hge11 p hp)
  · refine ownsRow_touch more3 hT4 fun p hp e => ?_
    rcases hG.place with e1 | ⟨g, e1, hg⟩
    · exact h.apart p (e1 ▸ hp) e
    · rw [hp] at e1; cases e1; have := hv11lt p e; omega
  · intro p hp e
    have hp3 : p < W3.heap.size := (ownsRow_lt more3 hp).2
    rcases hG4.place with e1 | ⟨g, e1, hg⟩
    · rw [e1] at e
      rcases hG.place with e2 | ⟨g, e2, hg⟩
      · exact h.apart p (e2 ▸ hp) e
      · rw [hp] at e2; cases e2; have := hv11lt p e; omega
    · rw [e] at e1; cases e1; omega
  · by_cases hz : listOf (M k) (T k) = []
    · rw [hG.same hz, hG4.same hz]; exact h.nil
    · obtain ⟨g1, e1⟩ := hG.some_ (by simp [hz])
      obtain ⟨g2, e2⟩ := hG4.some_ (by simp [hz])
      rw [e1, e2]; simp
  · refine hR3.same fun p hp => hT4.block p (by rcases hp with rfl | rfl | rfl <;> omega) (hge11 p (by rcases hp with rfl | rfl | rfl <;> assumption))
  · have := h.small; rw [List.length_append, listOf_length]; simp only [psum]; omega
  · intro i hi
    rw [List.length_append, listOf_length]
    by_cases e : i = k
    · subst e
      show (if i = i then n + l.length else st i) + M i ≤ _ ∧ ∀ j, j < M i → atStore n S _ ((if i = i then n + l.length else st i) + j) = _
      rw [if_pos rfl]
      refine ⟨by omega, fun j hj => ?_⟩
      unfold atStore
      rw [if_neg (by omega), show n + l.length + j - n = l.length + j by omega]
      show (l ++ listOf (M i) (T i)).getD (l.length + j) 0 = _
      rw [List.getD_eq_getElem?_getD, List.getElem?_append_right (by omega), Nat.add_sub_cancel_left, ← List.getD_eq_getElem?_getD, listOf_getD _ _ j hj]
    · show (if i = k then n + l.length else st i) + M i ≤ _ ∧ ∀ j, j < M i → atStore n S _ ((if i = k then n + l.length else st i) + j) = _
      rw [if_neg e]
      have := h.spans i (by omega)
      refine ⟨by omega, fun j hj => ?_⟩
      rw [atStore_app n S l _ _ (by omega)]
      exact this.2 j hj

theorem Sp.start (n nt : Nat) (S : Nat → Int) (M : Nat → Nat) (T : Nat → Nat → Int) (W0 W1 : World) (hW1 : W1 = ((W0.alloc (.cells (madeCells #[.int .u32 0] nt) 27)).alloc (.cells (madeCells #[.int .u32 0] nt) 27)).alloc (.cells (madeCells #[.int .i64 0] nt) 3)) :
    Sp n nt S M T W1 W0.heap.size (W0.heap.size + 1) (W0.heap.size + 1 + 1) 0 (fun _ => 0) [] (.slice none 0 0) (.slice none 0 0) W1 := by
  refine ⟨Touch.refl _ _, World.ownsRow_nil _ _ _ _, World.ownsRow_nil _ _ _ _, fun k h => (Option.some_ne_none k h.symm).elim, Iff.rfl, ⟨⟨madeCells #[.int .u32 0] nt, ?_, size_madeCells _ _, fun i hi => absurd hi (Nat.not_lt_zero _)⟩, ⟨madeCells #[.int .u32 0] nt, ?_, size_madeCells _ _, fun i hi => absurd hi (Nat.not_lt_zero _)⟩, ⟨madeCells #[.int .i64 0] nt, ?_, size_madeCells _ _⟩⟩, Nat.zero_le _, fun i hi => absurd hi (Nat.not_lt_zero _)⟩
  · rw [hW1, Below.heap_alloc _ _ _ (by simp; omega), Below.heap_alloc _ _ _ (by simp)]; exact heap_new W0 _
  · rw [hW1, Below.heap_alloc _ _ _ (by simp)]; have := heap_new (W0.alloc (.cells (madeCells #[.int .u32 0] nt) 27)) (.cells (madeCells #[.int .u32 0] nt) 27); simpa using this
  · rw [hW1]; have := heap_new ((W0.alloc (.cells (madeCells #[.int .u32 0] nt) 27)).alloc (.cells (madeCells #[.int .u32 0] nt) 27)) (.cells (madeCells #[.int .i64 0] nt) 3); simpa using this

theorem wrap64_fit (n : Int) (h : -9223372036854775808 ≤ n ∧ n ≤ 9223372036854775807) : wrap64 n = n := by unfold wrap64; omega

/-- What the call leaves for a copied text, and what the round then needs. -/
def ZZC (n nt : Nat) (S : Nat → Int) (M : Nat → Nat) (T : Nat → Nat → Int) (W1 : World) (pS pE pU k : Nat) (a11 : Option Addr) (nl c11 su : Nat) (q : Int) (at_ : Option Addr) (d : Nat) (e : Ending) (W2 : World) : Prop :=
  ∃ (a20 a21 : Option Addr) (c20 c21 nl2 : Nat) (W4 : World) (x1 x2 x3 : Value), e = .returned (.tuple #[.int .u32 ((n + nl : Nat) : Int), .int .u32 ((n + nl + M k : Nat) : Int), .slice a20 nl2 c20, .int .i64 ((su + M k : Nat) : Int)]) ∧
    nl2 ≤ c20 ∧ c20 ≤ 9223372036854775807 ∧ nl2 ≤ c21 ∧ c21 ≤ 9223372036854775807 ∧ nl2 ≤ nl + M k ∧ nl + M k ≤ nl2 ∧
    W2.cell? ⟨pS, k, none⟩ = some x1 ∧ W2.cell? ⟨pE, k, none⟩ = some x2 ∧ W2.cell? ⟨pU, k, none⟩ = some x3 ∧ W2.frozen? ⟨pS, k, none⟩ = false ∧ W2.frozen? ⟨pE, k, none⟩ = false ∧ W2.frozen? ⟨pU, k, none⟩ = false ∧
    Hid ((Builtin.append_ #[22, 22] 22 #[.slice a11 nl c11, .slice at_ (M k) d]).run Try.prog (((W2.setCell ⟨pS, k, none⟩ (.int .u32 ((n + nl : Nat) : Int))).setCell ⟨pE, k, none⟩ (.int .u32 ((n + nl + M k : Nat) : Int))).setCell ⟨pU, k, none⟩ (.int .i64 q)) = .ok (.slice a21 nl2 c21) W4) ∧
    Hid (∃ (st : Nat → Nat) (l : List Int), nl2 = l.length ∧ Sp n nt S M T W1 pS pE pU (k + 1) st l (.slice a20 nl2 c20) (.slice a21 nl2 c21) W4)

theorem zzC {n nt : Nat} {S : Nat → Int} {M : Nat → Nat} {T : Nat → Nat → Int} {W1 : World} {pS pE pU k : Nat} {st : Nat → Nat} {l : List Int} {a a10 a11 at_ : Option Addr} {c nl c10 c11 su d : Nat} {q : Int} {wx : World} (hk : k < nt)
    (h1 : pS < pE) (h2 : pE < pU) (h3 : pU < W1.heap.size) (hq : q < 0) (hn : n ≤ 1048576) (hnl1 : nl ≤ 1048576) (hm : M k ≤ 1048576) (hsu : su ≤ 1048576) (hnl : nl = l.length) (h : Sp n nt S M T W1 pS pE pU k st l (.slice a10 nl c10) (.slice a11 nl c11) wx)
    (hA : Arg wx at_ (M k) d (T k)) (hlow : ∀ x, at_ = some x → 0 < M k → x.block < pS) :
    Calls Try.prog 12 #[.slice a n c, .slice a10 nl c10, .int .i64 (su : Int), .slice at_ (M k) d, .int .i64 q] wx (ZZC n nt S M T W1 pS pE pU k a11 nl c11 su q at_ d) := by
  subst hnl
  have hsz := h.touch.size
  refine (zz12_copy n c (M k) d W1.heap.size q a at_ (T k) (.slice a10 l.length c10) l su wx h.more hA hsz hq hn (by omega) hm).mono ?_
  rintro e W2 ⟨v', z, rfl, hz, hG, hT2⟩
  have hz' : z = ((su + M k : Nat) : Int) := by rw [hz, wrap64_fit _ (by omega)]; omega
  subst hz'
  clear hz
  have hge : ∀ p, p < W1.heap.size → (Value.slice a10 l.length c10).ownBlock ≠ some p := fun p hp e => by have := ownsRow_ge h.more e; omega
  have hA2 : Arg W2 at_ (M k) d (T k) := ⟨hA.rd.touch hT2 fun x hx h0 e => hge x.block (by have := hlow x hx h0; omega) e, hA.nil⟩
  have X1 : ∀ x, at_ = some x → 0 < M k → x.block ≠ pS ∧ x.block ≠ pE ∧ x.block ≠ pU := fun x hx h0 => by have := hlow x hx h0; omega
  have X2 : l.length + M k ≤ 4194304 := by omega
  have X := h.stepC hk (by omega) (by omega) (by omega) (by omega) (by omega) h3 hG hT2 q at_ d hA2 X1 X2
  obtain ⟨hR2, v11', W4, hr, hSp⟩ := X
  obtain ⟨a20, c20, rfl, e1, e2⟩ := ownsRow_slice hG.owns
  obtain ⟨a21, c21, rfl, e3, e4⟩ := ownsRow_slice hSp.want
  obtain ⟨x1, x2, x3, cS, cE, cU, fS, fE, fU⟩ := hR2.cells hk
  unfold maxLen at e2 e4
  refine ⟨a20, a21, c20, c21, (l ++ listOf (M k) (T k)).length, W4, x1, x2, x3, rfl, e1, by omega, e3, by omega, ?_, ?_, cS, cE, cU, fS, fE, fU, hr, _, _, rfl, hSp⟩
  · rw [List.length_append, listOf_length]; exact Nat.le_refl _
  · rw [List.length_append, listOf_length]; exact Nat.le_refl _

/-- The same for a text in place. -/
def ZZI (n nt : Nat) (S : Nat → Int) (M : Nat → Nat) (T : Nat → Nat → Int) (W1 : World) (pS pE pU k : Nat) (a11 : Option Addr) (nl c11 su Q : Nat) (e : Ending) (W2 : World) : Prop :=
  ∃ (a20 : Option Addr) (c20 : Nat) (x1 x2 x3 : Value), e = .returned (.tuple #[.int .u32 (Q : Int), .int .u32 ((Q + M k : Nat) : Int), .slice a20 nl c20, .int .i64 ((su + M k : Nat) : Int)]) ∧
    nl ≤ c20 ∧ c20 ≤ 9223372036854775807 ∧
    W2.cell? ⟨pS, k, none⟩ = some x1 ∧ W2.cell? ⟨pE, k, none⟩ = some x2 ∧ W2.cell? ⟨pU, k, none⟩ = some x3 ∧ W2.frozen? ⟨pS, k, none⟩ = false ∧ W2.frozen? ⟨pE, k, none⟩ = false ∧ W2.frozen? ⟨pU, k, none⟩ = false ∧
    Hid (∃ (st : Nat → Nat) (l : List Int), nl = l.length ∧ Sp n nt S M T W1 pS pE pU (k + 1) st l (.slice a20 nl c20) (.slice a11 nl c11) (((W2.setCell ⟨pS, k, none⟩ (.int .u32 (Q : Int))).setCell ⟨pE, k, none⟩ (.int .u32 ((Q + M k : Nat) : Int))).setCell ⟨pU, k, none⟩ (.int .i64 (Q : Int))))

theorem zzI {n nt : Nat} {S : Nat → Int} {M : Nat → Nat} {T : Nat → Nat → Int} {W1 : World} {pS pE pU k : Nat} {st : Nat → Nat} {l : List Int} {a a10 a11 at_ : Option Addr} {c nl c10 c11 su d Q : Nat} {wx : World} (hk : k < nt)
    (h1 : pS < pE) (h2 : pE < pU) (h3 : pU < W1.heap.size) (hQ : Q + M k ≤ n) (hm : ∀ j, j < M k → S (Q + j) = T k j) (hn : n ≤ 1048576) (hsu : su ≤ 1048576) (hnl : nl = l.length) (h : Sp n nt S M T W1 pS pE pU k st l (.slice a10 nl c10) (.slice a11 nl c11) wx) :
    Calls Try.prog 12 #[.slice a n c, .slice a10 nl c10, .int .i64 (su : Int), .slice at_ (M k) d, .int .i64 (Q : Int)] wx (ZZI n nt S M T W1 pS pE pU k a11 nl c11 su Q) := by
  have hsz := h.touch.size
  refine (zz12_in n c (M k) d W1.heap.size Q a at_ (.slice a10 nl c10) l su wx h.more hsz hQ hn).mono ?_
  rintro e W2 ⟨v', z, rfl, hz, hG, hT2⟩
  have hz' : z = ((su + M k : Nat) : Int) := by rw [hz, wrap64_fit _ (by omega)]; omega
  subst hz'
  clear hz
  obtain ⟨hR2, hSp⟩ := h.stepI hk (by omega) (by omega) (by omega) (by omega) (by omega) h3 hG hT2 Q hQ hm
  obtain ⟨a20, c20, rfl, e1, e2⟩ := ownsRow_slice hG.owns
  obtain ⟨x1, x2, x3, cS, cE, cU, fS, fE, fU⟩ := hR2.cells hk
  have hl2 : (l ++ ([] : List Int)).length = nl := by rw [List.append_nil, hnl]
  rw [hl2] at hSp e1 ⊢
  unfold maxLen at e2
  exact ⟨a20, c20, x1, x2, x3, rfl, e1, by omega, cS, cE, cU, fS, fE, fU, _, l, hnl, hSp⟩

end Go.Proofs.Qxb6604050a
