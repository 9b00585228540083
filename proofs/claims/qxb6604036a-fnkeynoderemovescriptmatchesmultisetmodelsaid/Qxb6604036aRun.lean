/- Laws of no program: what the built-ins do to rows of one-cell elements, block by block; small facts on worlds and lists. -/
import Derived.WalkKit
import Derived.WalkSpells
import Derived.WalkLawsBesides
import Derived.Lib.Overlaps
import Derived.Lib.AppendZerosOnto
import Derived.Lib.SliceRun
import Derived.Laws.Externs
namespace Go.Proofs.Qxb6604036a
open Go.RowKit

section
variable {P : Program}

/-- A built-in append whose run is known, as one step of a region that draws. -/
theorem step_append_run {ops : Array Oper} {o : Oper} {a : Act} {w : World} {K : Act → World → Prop} {Q : Exit → Act → World → Prop} {E : Prop}
    (hg : o.guard = none) (s x : Operand) (t t' : TypeId) (hop : o.op = Op.call { callee := Callee.builtin Builtin.append, args := #[s, x], argTypes := #[t, t'] })
    (v u : Value) (hs : a.eval s = v) (hx : a.eval x = u) {v' : Value} {w' : World} (hr : (Builtin.append_ #[t, t'] o.type #[v, u]).run P w = .ok v' w') (hK : K (a.put o.dst v') w') :
    if Region.wanted o (yielded ops a.tmps) = true then Oper.wp P o a w K Q else E := by
  have hw : Region.wanted o (yielded ops a.tmps) = true := by simp [Region.wanted, hg]
  rw [if_pos hw]
  exact Lib.wp_append_run w s x t t' hop v u hs hx v' w' hr hK

theorem wp_copy_run (w : World) {o : Oper} {a : Act} {K : Act → World → Prop} {Q : Exit → Act → World → Prop} (d s : Operand) (t t' : TypeId)
    (ho : o.op = .call { callee := .builtin .copy, args := #[d, s], argTypes := #[t, t'] }) (v u : Value) (hd : a.eval d = v) (hs : a.eval s = u) (v' : Value) (w' : World)
    (hr : (Builtin.copy_ #[t, t'] o.type #[v, u]).run P w = .ok v' w') (h : K (a.put o.dst v') w') : o.wp P a w K Q := by
  unfold Oper.wp execOp
  simp only [ho, resolve, invoke, builtin, Sem.run_bind, Sem.run_pure, Result.andThen_ok, List.map_toArray, List.map_cons, List.map_nil, hd, hs, hr]
  exact h

theorem wpList_copy_run (w : World) {ops : Array Oper} {rest : List Oper} {o : Oper} {a : Act} {Q : Exit → Act → World → Prop} (hgd : o.guard = none) (d s : Operand) (t t' : TypeId)
    (ho : o.op = .call { callee := .builtin .copy, args := #[d, s], argTypes := #[t, t'] }) (v u : Value) (hd : a.eval d = v) (hs : a.eval s = u) (v' : Value) (w' : World)
    (hr : (Builtin.copy_ #[t, t'] o.type #[v, u]).run P w = .ok v' w') (h : wpList P ops Q rest (a.put o.dst v') w') : wpList P ops Q (o :: rest) a w :=
  wpList_plain hgd fun _ hK => wp_copy_run w d s t t' ho v u hd hs v' w' hr (hK _ _ h)

theorem step_copy_run {ops : Array Oper} {o : Oper} {a : Act} {w : World} {K : Act → World → Prop} {Q : Exit → Act → World → Prop} {E : Prop}
    (hg : o.guard = none) (d x : Operand) (t t' : TypeId) (hop : o.op = Op.call { callee := Callee.builtin Builtin.copy, args := #[d, x], argTypes := #[t, t'] })
    (v u : Value) (hd : a.eval d = v) (hx : a.eval x = u) {v' : Value} {w' : World} (hr : (Builtin.copy_ #[t, t'] o.type #[v, u]).run P w = .ok v' w') (hK : K (a.put o.dst v') w') :
    if Region.wanted o (yielded ops a.tmps) = true then Oper.wp P o a w K Q else E := by
  have hw : Region.wanted o (yielded ops a.tmps) = true := by simp [Region.wanted, hg]
  rw [if_pos hw]
  exact wp_copy_run w d x t t' hop v u hd hx v' w' hr hK

theorem wp_clear_run (w : World) {o : Oper} {a : Act} {K : Act → World → Prop} {Q : Exit → Act → World → Prop} (d : Operand) (t : TypeId)
    (ho : o.op = .call { callee := .builtin .clear, args := #[d], argTypes := #[t] }) (v : Value) (hd : a.eval d = v) (v' : Value) (w' : World)
    (hr : (Builtin.clear_ #[t] o.type #[v]).run P w = .ok v' w') (h : K (a.put o.dst v') w') : o.wp P a w K Q := by
  unfold Oper.wp execOp
  simp only [ho, resolve, invoke, builtin, Sem.run_bind, Sem.run_pure, Result.andThen_ok, List.map_toArray, List.map_cons, List.map_nil, hd, hr]
  exact h

theorem wpList_clear_run (w : World) {ops : Array Oper} {rest : List Oper} {o : Oper} {a : Act} {Q : Exit → Act → World → Prop} (hgd : o.guard = none) (d : Operand) (t : TypeId)
    (ho : o.op = .call { callee := .builtin .clear, args := #[d], argTypes := #[t] }) (v : Value) (hd : a.eval d = v) (v' : Value) (w' : World)
    (hr : (Builtin.clear_ #[t] o.type #[v]).run P w = .ok v' w') (h : wpList P ops Q rest (a.put o.dst v') w') : wpList P ops Q (o :: rest) a w :=
  wpList_plain hgd fun _ hK => wp_clear_run w d t ho v hd v' w' hr (hK _ _ h)

theorem zeroCells_one (z : Value) (hz : z.cells = #[z]) (n : Nat) : Builtin.zeroCells z.cells n = (List.replicate n z).toArray := by
  rw [hz]
  apply Array.ext'
  simp [Builtin.zeroCells]
  apply List.ext_getElem
  · simp
  · intro i h1 h2
    simp [Nat.mod_one]

/-- 'clear(s)' on a slice of a row that is not frozen. -/
theorem run_clear_row (w : World) (t e ty T : TypeId) (z : Value) (ht : P.underlying t = some (.slice e)) (hv : ∀ w, (zeroValue e).run P w = .ok z w) (hz : z.cells = #[z]) (h1 : z.oneCell' = true) (g o n c : Nat) (cur : Array Value) (hn : 0 < n)
    (hg : w.heap[g]? = some (.cells cur T (0, 0))) (hfit : o + n ≤ cur.size) :
    (Builtin.clear_ #[t] ty #[.slice (some ⟨g, o, none⟩) n c]).run P w = .ok (.tuple #[]) (w.setRow g (cur.toList.take o ++ List.replicate n z ++ cur.toList.drop (o + n)).toArray) := by
  have hst := run_storeCells_at P g o T (List.replicate n z) 0 cur w hg (by simpa using hfit) (by intro v hv'; rw [List.eq_of_mem_replicate hv']; exact h1)
  simp only [Nat.add_zero, List.length_replicate] at hst
  obtain ⟨m, rfl⟩ : ∃ m, n = m + 1 := ⟨n - 1, by omega⟩
  simp [Builtin.clear_, run_underlying ht, hv, zeroCells_one z hz, hst]

/-- Where the cells of a slice over a row lie. -/
theorem row_cells {w : World} {g : Nat} {cur : Array Value} {T : TypeId} (hg : w.heap[g]? = some (.cells cur T (0, 0))) (o n : Nat) :
    ∀ j u, ((cur.toList.drop o).take n)[j]? = some u → w.cell? ((⟨g, o, none⟩ : Addr).add j) = some u := by
  intro j u h
  rw [Addr.add_lit, cell_of_row w g (o + j) cur T (0, 0) hg]
  rw [List.getElem?_take] at h
  split at h
  · rw [List.getElem?_drop] at h
    simpa using h
  · cases h

end

/-- What a call that changed some blocks leaves: the streams, and every old block outside S. -/
structure Touch (S : Nat → Prop) (w w' : World) : Prop where
  os : w'.os = w.os
  tape : w'.tape = w.tape
  output : w'.output = w.output
  size : w.heap.size ≤ w'.heap.size
  block : ∀ k, k < w.heap.size → ¬ S k → w'.heap[k]? = w.heap[k]?

namespace Touch
variable {S T : Nat → Prop} {w w' w'' : World}
theorem refl (S : Nat → Prop) (w : World) : Touch S w w := ⟨rfl, rfl, rfl, Nat.le_refl _, fun _ _ _ => rfl⟩
theorem mono (h : Touch S w w') (hs : ∀ k, k < w.heap.size → S k → T k) : Touch T w w' :=
  ⟨h.os, h.tape, h.output, h.size, fun k hk hn => h.block k hk fun hS => hn (hs k hk hS)⟩
theorem trans (h : Touch S w w') (k : Touch T w' w'') (hT : ∀ i, i < w.heap.size → T i → S i) : Touch S w w'' :=
  ⟨k.os.trans h.os, k.tape.trans h.tape, k.output.trans h.output, Nat.le_trans h.size k.size,
    fun i hi hn => (k.block i (Nat.lt_of_lt_of_le hi h.size) fun hTi => hn (hT i hi hTi)).trans (h.block i hi hn)⟩
theorem drew (h : Touch S w w') : Touch S w w'.drew := ⟨h.os, h.tape, h.output, h.size, h.block⟩
theorem ofDrew (h : Touch S w.drew w') : Touch S w w' := ⟨h.os, h.tape, h.output, h.size, h.block⟩
theorem alloc (h : Touch S w w') (o : Obj) : Touch S w (w'.alloc o) :=
  ⟨h.os, h.tape, h.output, by have := h.size; simp; omega, fun k hk hn => by
    rw [Below.heap_alloc w' o k (Nat.lt_of_lt_of_le hk h.size)]; exact h.block k hk hn⟩
theorem setRow (h : Touch S w w') (g : Nat) (hg : g < w.heap.size → S g) (cs : Array Value) : Touch S w (w'.setRow g cs) :=
  ⟨h.os, h.tape, h.output, by have := h.size; simpa using this, fun k hk hn => by
    rw [setRow_other w' g k cs (fun e => hn (e ▸ hg (e ▸ hk)))]; exact h.block k hk hn⟩
theorem setCell (h : Touch S w w') (a : Addr) (hg : a.block < w.heap.size → S a.block) (v : Value) : Touch S w (w'.setCell a v) :=
  ⟨h.os, h.tape, h.output, by have := h.size; simpa [World.setCell] using this, fun k hk hn => by
    rw [Below.heap_setCell w' a v k (fun e => hn (e ▸ hg (e ▸ hk)))]; exact h.block k hk hn⟩
theorem grown {row : Option Nat} (h : w.grownBy w' row) (hs : ∀ k, row = some k → S k) : Touch S w w' :=
  ⟨h.os, h.tape, h.output, h.size, fun k hk hn => h.block k hk fun e => hn (hs k e.symm)⟩
theorem below {B : Nat} (h : Touch S w w') (hB : B ≤ w.heap.size) (hs : ∀ k, S k → B ≤ k) : Below B w w' :=
  ⟨h.os, h.tape, h.output, h.size, fun k hk => h.block k (by omega) fun hS => by have := hs k hS; omega⟩
end Touch

end Go.Proofs.Qxb6604036a
