/- Laws of no program: worlds; slices of integers that can be read; rows of the call's own. -/
import Derived.Test.Qxb6602606aProg
import Derived.Test.Qxb6602606aChecked
import Derived.WalkKit
import Derived.WalkSpells
import Derived.WalkLawsBesides
import Derived.Lib.SliceRun
import Derived.Laws.Externs
import Derived.Deep.OwnRows
import Derived.BigQuiet
import Derived.Deep.QuietTactic
import Derived.Deep.DrawnRows
import Derived.BigRegion
import Derived.Deep.DeepCutAuto
import Derived.Laws.FloatArith
namespace Go.Proofs.Qxb6602606a
open Go.RowKit
set_option linter.unusedVariables false
set_option linter.unusedSimpArgs false

/-- What a call that changed some blocks leaves: the streams, and every old block outside S. -/
structure Touch (S : Nat → Prop) (w w' : World) : Prop where
  os : w'.os = w.os
  tape : w'.tape = w.tape
  output : w'.output = w.output
  size : w.heap.size ≤ w'.heap.size
  block : ∀ k, k < w.heap.size → ¬ S k → w'.heap[k]? = w.heap[k]?

namespace Touch
variable {S T : Nat → Prop} {w w' w'' : World}
theorem refl (S : Nat → Prop) (w : World) : Touch S w w := ⟨rfl, rfl, rfl, Nat.le_refl _, fun _ _ _ => rfl⟩
theorem mono (h : Touch S w w') (hs : ∀ k, k < w.heap.size → S k → T k) : Touch T w w' :=
  ⟨h.os, h.tape, h.output, h.size, fun k hk hn => h.block k hk fun hS => hn (hs k hk hS)⟩
theorem trans (h : Touch S w w') (k : Touch T w' w'') (hT : ∀ i, i < w.heap.size → T i → S i) : Touch S w w'' :=
  ⟨k.os.trans h.os, k.tape.trans h.tape, k.output.trans h.output, Nat.le_trans h.size k.size,
    fun i hi hn => (k.block i (Nat.lt_of_lt_of_le hi h.size) fun hTi => hn (hT i hi hTi)).trans (h.block i hi hn)⟩
theorem drew (h : Touch S w w') : Touch S w w'.drew := ⟨h.os, h.tape, h.output, h.size, h.block⟩
theorem ofDrew (h : Touch S w.drew w') : Touch S w w' := ⟨h.os, h.tape, h.output, h.size, h.block⟩
theorem alloc (h : Touch S w w') (o : Obj) : Touch S w (w'.alloc o) :=
  ⟨h.os, h.tape, h.output, by have := h.size; simp; omega, fun k hk hn => by
    rw [Below.heap_alloc w' o k (Nat.lt_of_lt_of_le hk h.size)]; exact h.block k hk hn⟩
theorem setRow (h : Touch S w w') (g : Nat) (hg : g < w.heap.size → S g) (cs : Array Value) : Touch S w (w'.setRow g cs) :=
  ⟨h.os, h.tape, h.output, by have := h.size; simpa using this, fun k hk hn => by
    rw [setRow_other w' g k cs (fun e => hn (e ▸ hg (e ▸ hk)))]; exact h.block k hk hn⟩
theorem setCell (h : Touch S w w') (a : Addr) (hg : a.block < w.heap.size → S a.block) (v : Value) : Touch S w (w'.setCell a v) :=
  ⟨h.os, h.tape, h.output, by have := h.size; simpa [World.setCell] using this, fun k hk hn => by
    rw [Below.heap_setCell w' a v k (fun e => hn (e ▸ hg (e ▸ hk)))]; exact h.block k hk hn⟩
theorem grown {row : Option Nat} (h : w.grownBy w' row) (hs : ∀ k, row = some k → S k) : Touch S w w' :=
  ⟨h.os, h.tape, h.output, h.size, fun k hk hn => h.block k hk fun e => hn (hs k e.symm)⟩
theorem below {B : Nat} (h : Touch S w w') (hB : B ≤ w.heap.size) (hs : ∀ k, S k → B ≤ k) : Below B w w' :=
  ⟨h.os, h.tape, h.output, h.size, fun k hk => h.block k (by omega) fun hS => by have := hs k hS; omega⟩
end Touch


theorem heap_new (w : World) (o : Obj) : (w.alloc o).heap[w.heap.size]? = some o := by
  show (w.heap.push o)[w.heap.size]? = _
  simp

theorem ownsRow_same {B e n : Nat} {v : Value} {xs : List Value} {w w' : World} (h : w.ownsRow B e 1 v n xs) (hb : ∀ k, v.ownBlock = some k → w'.heap[k]? = w.heap[k]?) : w'.ownsRow B e 1 v n xs := by
  refine ⟨h.1, ?_⟩
  rcases h.2 with hn | ⟨g, cap, cur, rfl, hB, hg, rest⟩
  · exact .inl hn
  · exact .inr ⟨g, cap, cur, rfl, hB, by rw [hb g rfl]; exact hg, rest⟩

theorem ownsRow_lt {B e n : Nat} {v : Value} {xs : List Value} {w : World} (h : w.ownsRow B e 1 v n xs) {k : Nat} (hk : v.ownBlock = some k) : B ≤ k ∧ k < w.heap.size := World.ownsRow.lt h k hk

theorem ownsRow_touch {B e n : Nat} {v : Value} {xs : List Value} {w w' : World} {S : Nat → Prop} (h : w.ownsRow B e 1 v n xs) (ht : Touch S w w') (hn : ∀ k, v.ownBlock = some k → ¬ S k) : w'.ownsRow B e 1 v n xs :=
  ownsRow_same h fun k hk => ht.block k (ownsRow_lt h hk).2 (hn k hk)

theorem ownsRow_slice {B e n : Nat} {v : Value} {xs : List Value} {w : World} (h : w.ownsRow B e 1 v n xs) : ∃ a c, v = .slice a n c ∧ n ≤ c ∧ c ≤ maxLen := by
  rcases h.2 with ⟨rfl, rfl⟩ | ⟨g, cap, cur, rfl, _, _, h1, h2, _⟩
  · exact ⟨none, 0, rfl, Nat.le_refl _, Nat.zero_le _⟩
  · exact ⟨_, cap, rfl, h1, h2⟩

theorem ownsRow_cell {B e n : Nat} {v : Value} {xs : List Value} {w : World} (h : w.ownsRow B e 1 v n xs) (hn : 0 < n) :
    ∃ g c, v = .slice (some ⟨g, 0, none⟩) n c ∧ n ≤ c ∧ c ≤ maxLen ∧ v.ownBlock = some g ∧ w.frozen? ⟨g, 0, none⟩ = false ∧ ∀ k u, xs[k]? = some u → w.cell? ⟨g, k, none⟩ = some u := by
  rcases h.2 with ⟨_, rfl⟩ | ⟨g, cap, cur, rfl, _, hg, h1, h2, h3, h4⟩
  · omega
  · refine ⟨g, cap, rfl, h1, h2, rfl, by simp [World.frozen?, hg], fun k u hu => ?_⟩
    rw [cell_of_row w g k cur e (0, 0) hg]
    rw [← h4, List.getElem?_take] at hu
    split at hu
    · simpa using hu
    · cases hu

structure Mem (w w' : World) : Prop where
  heap : w'.heap = w.heap
  os : w'.os = w.os
  tape : w'.tape = w.tape
  output : w'.output = w.output

theorem Mem.refl (w : World) : Mem w w := ⟨rfl, rfl, rfl, rfl⟩
theorem Mem.drew {w w' : World} (h : Mem w w') : Mem w w'.drew := ⟨h.heap, h.os, h.tape, h.output⟩
theorem Mem.ofDrew (w : World) : Mem w w.drew := ⟨rfl, rfl, rfl, rfl⟩
theorem Mem.touch {S : Nat → Prop} {v w w' : World} (ht : Touch S v w) (h : Mem w w') : Touch S v w' :=
  ⟨h.os.trans ht.os, h.tape.trans ht.tape, h.output.trans ht.output, by rw [h.heap]; exact ht.size, fun k hk hn => by rw [h.heap]; exact ht.block k hk hn⟩

theorem ownsRow_ge {w : World} {B e m n : Nat} {v : Value} {xs : List Value} (h : w.ownsRow B e m v n xs) {k : Nat} (hk : v.ownBlock = some k) : B ≤ k := by
  rcases h.2 with ⟨rfl, _⟩ | ⟨g, _, _, rfl, hB, _⟩
  · cases hk
  · cases hk; exact hB


/-- A slice of integers that can be read: its elements S 0 .. S (n-1). -/
def RI (k : IntKind) (w : World) (a : Option Addr) (n c : Nat) (S : Nat → Int) : Prop :=
  n ≤ c ∧ c ≤ maxLen ∧ (0 < n → ∃ b off, a = some ⟨b, off, none⟩ ∧ ∀ i, i < n → w.cell? ⟨b, off + i, none⟩ = some (.int k (S i)))

theorem RI.touch {k : IntKind} {w w' : World} {Z : Nat → Prop} {a : Option Addr} {n c : Nat} {S : Nat → Int} (h : RI k w a n c S) (ht : Touch Z w w') (hn : ∀ x, a = some x → 0 < n → ¬ Z x.block) : RI k w' a n c S := by
  refine ⟨h.1, h.2.1, fun h0 => ?_⟩
  obtain ⟨b, off, rfl, hc⟩ := h.2.2 h0
  refine ⟨b, off, rfl, fun i hi => ?_⟩
  rw [← hc i hi]
  exact World.cell?_of_block (ht.block b (World.block_lt_of_cell? w _ (hc i hi)) (hn _ rfl h0))

theorem RI.keep {k : IntKind} {w w' : World} {a : Option Addr} {n c : Nat} {S : Nat → Int} (h : RI k w a n c S) (ht : Touch (fun _ => False) w w') : RI k w' a n c S := h.touch ht fun _ _ _ h => h

theorem RI.mem {k : IntKind} {w w' : World} {a : Option Addr} {n c : Nat} {S : Nat → Int} (h : RI k w a n c S) (hm : Mem w w') : RI k w' a n c S := by
  refine ⟨h.1, h.2.1, fun h0 => ?_⟩
  obtain ⟨b, off, rfl, hc⟩ := h.2.2 h0
  exact ⟨b, off, rfl, fun i hi => by rw [← hc i hi]; exact World.cell?_of_block (by rw [hm.heap])⟩

theorem RI.lt {k : IntKind} {w : World} {a : Option Addr} {n c : Nat} {S : Nat → Int} (h : RI k w a n c S) : ∀ x, a = some x → 0 < n → x.block < w.heap.size := by
  intro x hx h0
  obtain ⟨b, off, rfl, hc⟩ := h.2.2 h0
  simp at hx; subst hx
  exact World.block_lt_of_cell? w _ (hc 0 h0)

/-- A row under way: its first j cells are laid. -/
def Part (ty : Nat) (w : World) (p n j : Nat) (F : Nat → Value) : Prop :=
  ∃ cur, w.heap[p]? = some (.cells cur ty (0, 0)) ∧ cur.size = n ∧ ∀ i, i < j → cur[i]? = some (F i)

theorem Part.cell {ty : Nat} {w : World} {p n j : Nat} {F : Nat → Value} (h : Part ty w p n j F) (i : Nat) (hi : i < n) : ∃ x, w.cell? ⟨p, i, none⟩ = some x ∧ w.frozen? ⟨p, i, none⟩ = false := by
  obtain ⟨cur, h1, h2, -⟩ := h
  refine ⟨cur[i]'(by omega), ?_, by simp [World.frozen?, h1]⟩
  rw [cell_of_row w p i cur ty (0, 0) h1, Array.getElem?_eq_getElem]

theorem Part.put {ty : Nat} {w : World} {p n j : Nat} {F : Nat → Value} (h : Part ty w p n j F) (hj : j < n) (v : Value) (hv : F j = v) : Part ty (w.setCell ⟨p, j, none⟩ v) p n (j + 1) F := by
  obtain ⟨cur, h1, h2, h3⟩ := h
  refine ⟨cur.setIfInBounds j v, ?_, by simpa using h2, fun i hi => ?_⟩
  · rw [setCell_eq_setRow w p j _ ty (0, 0) _ h1, setRow_heap w p _ _ ty (0, 0) h1]
  · rw [Array.getElem?_setIfInBounds]
    by_cases e : j = i
    · subst e; rw [if_pos rfl, if_pos (by omega), hv]
    · rw [if_neg e]; exact h3 i (by omega)

theorem Part.same {ty : Nat} {w w' : World} {p n j : Nat} {F : Nat → Value} (h : Part ty w p n j F) (hb : w'.heap[p]? = w.heap[p]?) : Part ty w' p n j F := by
  obtain ⟨cur, h1, h2⟩ := h
  exact ⟨cur, by rw [hb]; exact h1, h2⟩

theorem Part.whole {k : IntKind} {ty : Nat} {w : World} {p n : Nat} {S : Nat → Int} (h : Part ty w p n n (fun i => .int k (S i))) (hn : n ≤ 1048576) : RI k w (some ⟨p, 0, none⟩) n n S := by
  refine ⟨Nat.le_refl _, by unfold maxLen; omega, fun _ => ⟨p, 0, rfl, fun i hi => ?_⟩⟩
  obtain ⟨cur, h1, h2, h3⟩ := h
  rw [Nat.zero_add, cell_of_row w p i cur ty (0, 0) h1]
  exact h3 i hi

theorem infoU : ∃ i, Try.prog.info? 22 = some i ∧ i.zero = some (Value.int .u64 0) ∧ i.size = 1 ∧ i.bytes = 8 := ⟨_, rfl, rfl, rfl, rfl⟩
theorem infoI : ∃ i, Try.prog.info? 3 = some i ∧ i.zero = some (Value.int .i64 0) ∧ i.size = 1 ∧ i.bytes = 8 := ⟨_, rfl, rfl, rfl, rfl⟩
theorem makeU (n : Nat) (hn : n ≤ 1048576) (w : World) : (Instr.makeSlice 24 (.int .i64 (n : Int)) (.int .i64 (n : Int))).run Try.prog w = .ok (.slice (some ⟨w.heap.size, 0, none⟩) n n) (w.alloc (.cells (madeCells #[.int .u64 0] n) 22)) := by
  obtain ⟨i0, hi0, hz0, hzs, hzb⟩ := infoU
  exact run_make_row (P := Try.prog) 24 22 i0 _ Try.underlying24 hi0 hz0 hzs rfl .i64 .i64 n (by rw [hzb]; omega) (by omega) w
theorem makeI (n : Nat) (hn : n ≤ 1048576) (w : World) : (Instr.makeSlice 38 (.int .i64 (n : Int)) (.int .i64 (n : Int))).run Try.prog w = .ok (.slice (some ⟨w.heap.size, 0, none⟩) n n) (w.alloc (.cells (madeCells #[.int .i64 0] n) 3)) := by
  obtain ⟨i0, hi0, hz0, hzs, hzb⟩ := infoI
  exact run_make_row (P := Try.prog) 38 3 i0 _ Try.underlying38 hi0 hz0 hzs rfl .i64 .i64 n (by rw [hzb]; omega) (by omega) w

theorem Part.made {ty : Nat} {w : World} {n : Nat} {z : Value} {F : Nat → Value} : Part ty (w.alloc (.cells (madeCells #[z] n) ty)) w.heap.size n 0 F := ⟨_, heap_new w _, size_madeCells _ _, fun i hi => absurd hi (Nat.not_lt_zero _)⟩

end Go.Proofs.Qxb6602606a
