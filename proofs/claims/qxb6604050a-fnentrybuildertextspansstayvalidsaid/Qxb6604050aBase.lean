/- Laws of no program: what the built-ins do to rows of one-cell elements, block by block; worlds; slices of bytes that can be read. -/
import Derived.Test.Qxb6604050aProg
import Derived.Test.Qxb6604050aChecked
import Derived.WalkKit
import Derived.WalkSpells
import Derived.WalkLawsBesides
import Derived.Lib.Overlaps
import Derived.Lib.AppendZerosOnto
import Derived.Lib.SliceRun
import Derived.Laws.Externs
import Derived.Laws.CopyRow
import Derived.Deep.OwnRows
import Derived.BigQuiet
import Derived.Deep.QuietTactic
import Derived.Deep.DrawnRows
namespace Go.Proofs.Qxb6604050a
open Go.RowKit

section
variable {P : Program}

/-- A built-in append whose run is known, as one step of a region that draws. -/
theorem step_append_run {ops : Array Oper} {o : Oper} {a : Act} {w : World} {K : Act → World → Prop} {Q : Exit → Act → World → Prop} {E : Prop}
    (hg : o.guard = none) (s x : Operand) (t t' : TypeId) (hop : o.op = Op.call { callee := Callee.builtin Builtin.append, args := #[s, x], argTypes := #[t, t'] })
    (v u : Value) (hs : a.eval s = v) (hx : a.eval x = u) {v' : Value} {w' : World} (hr : (Builtin.append_ #[t, t'] o.type #[v, u]).run P w = .ok v' w') (hK : K (a.put o.dst v') w') :
    if Region.wanted o (yielded ops a.tmps) = true then Oper.wp P o a w K Q else E := by
  have hw : Region.wanted o (yielded ops a.tmps) = true := by simp [Region.wanted, hg]
  rw [if_pos hw]
  exact Lib.wp_append_run w s x t t' hop v u hs hx v' w' hr hK

theorem wp_copy_run (w : World) {o : Oper} {a : Act} {K : Act → World → Prop} {Q : Exit → Act → World → Prop} (d s : Operand) (t t' : TypeId)
    (ho : o.op = .call { callee := .builtin .copy, args := #[d, s], argTypes := #[t, t'] }) (v u : Value) (hd : a.eval d = v) (hs : a.eval s = u) (v' : Value) (w' : World)
    (hr : (Builtin.copy_ #[t, t'] o.type #[v, u]).run P w = .ok v' w') (h : K (a.put o.dst v') w') : o.wp P a w K Q := by
  unfold Oper.wp execOp
  simp only [ho, resolve, invoke, builtin, Sem.run_bind, Sem.run_pure, Result.andThen_ok, List.map_toArray, List.map_cons, List.map_nil, hd, hs, hr]
  exact h

theorem wpList_copy_run (w : World) {ops : Array Oper} {rest : List Oper} {o : Oper} {a : Act} {Q : Exit → Act → World → Prop} (hgd : o.guard = none) (d s : Operand) (t t' : TypeId)
    (ho : o.op = .call { callee := .builtin .copy, args := #[d, s], argTypes := #[t, t'] }) (v u : Value) (hd : a.eval d = v) (hs : a.eval s = u) (v' : Value) (w' : World)
    (hr : (Builtin.copy_ #[t, t'] o.type #[v, u]).run P w = .ok v' w') (h : wpList P ops Q rest (a.put o.dst v') w') : wpList P ops Q (o :: rest) a w :=
  wpList_plain hgd fun _ hK => wp_copy_run w d s t t' ho v u hd hs v' w' hr (hK _ _ h)

theorem step_copy_run {ops : Array Oper} {o : Oper} {a : Act} {w : World} {K : Act → World → Prop} {Q : Exit → Act → World → Prop} {E : Prop}
    (hg : o.guard = none) (d x : Operand) (t t' : TypeId) (hop : o.op = Op.call { callee := Callee.builtin Builtin.copy, args := #[d, x], argTypes := #[t, t'] })
    (v u : Value) (hd : a.eval d = v) (hx : a.eval x = u) {v' : Value} {w' : World} (hr : (Builtin.copy_ #[t, t'] o.type #[v, u]).run P w = .ok v' w') (hK : K (a.put o.dst v') w') :
    if Region.wanted o (yielded ops a.tmps) = true then Oper.wp P o a w K Q else E := by
  have hw : Region.wanted o (yielded ops a.tmps) = true := by simp [Region.wanted, hg]
  rw [if_pos hw]
  exact wp_copy_run w d x t t' hop v u hd hx v' w' hr hK

theorem wp_clear_run (w : World) {o : Oper} {a : Act} {K : Act → World → Prop} {Q : Exit → Act → World → Prop} (d : Operand) (t : TypeId)
    (ho : o.op = .call { callee := .builtin .clear, args := #[d], argTypes := #[t] }) (v : Value) (hd : a.eval d = v) (v' : Value) (w' : World)
    (hr : (Builtin.clear_ #[t] o.type #[v]).run P w = .ok v' w') (h : K (a.put o.dst v') w') : o.wp P a w K Q := by
  unfold Oper.wp execOp
  simp only [ho, resolve, invoke, builtin, Sem.run_bind, Sem.run_pure, Result.andThen_ok, List.map_toArray, List.map_cons, List.map_nil, hd, hr]
  exact h

theorem wpList_clear_run (w : World) {ops : Array Oper} {rest : List Oper} {o : Oper} {a : Act} {Q : Exit → Act → World → Prop} (hgd : o.guard = none) (d : Operand) (t : TypeId)
    (ho : o.op = .call { callee := .builtin .clear, args := #[d], argTypes := #[t] }) (v : Value) (hd : a.eval d = v) (v' : Value) (w' : World)
    (hr : (Builtin.clear_ #[t] o.type #[v]).run P w = .ok v' w') (h : wpList P ops Q rest (a.put o.dst v') w') : wpList P ops Q (o :: rest) a w :=
  wpList_plain hgd fun _ hK => wp_clear_run w d t ho v hd v' w' hr (hK _ _ h)

theorem zeroCells_one (z : Value) (hz : z.cells = #[z]) (n : Nat) : Builtin.zeroCells z.cells n = (List.replicate n z).toArray := by
  rw [hz]
  apply Array.ext'
  simp [Builtin.zeroCells]
  apply List.ext_getElem
  · simp
  · intro i h1 h2
    simp [Nat.mod_one]

/-- 'clear(s)' on a slice of a row that is not frozen. -/
theorem run_clear_row (w : World) (t e ty T : TypeId) (z : Value) (ht : P.underlying t = some (.slice e)) (hv : ∀ w, (zeroValue e).run P w = .ok z w) (hz : z.cells = #[z]) (h1 : z.oneCell' = true) (g o n c : Nat) (cur : Array Value) (hn : 0 < n)
    (hg : w.heap[g]? = some (.cells cur T (0, 0))) (hfit : o + n ≤ cur.size) :
    (Builtin.clear_ #[t] ty #[.slice (some ⟨g, o, none⟩) n c]).run P w = .ok (.tuple #[]) (w.setRow g (cur.toList.take o ++ List.replicate n z ++ cur.toList.drop (o + n)).toArray) := by
  have hst := run_storeCells_at P g o T (List.replicate n z) 0 cur w hg (by simpa using hfit) (by intro v hv'; rw [List.eq_of_mem_replicate hv']; exact h1)
  simp only [Nat.add_zero, List.length_replicate] at hst
  obtain ⟨m, rfl⟩ : ∃ m, n = m + 1 := ⟨n - 1, by omega⟩
  simp [Builtin.clear_, run_underlying ht, hv, zeroCells_one z hz, hst]

/-- Where the cells of a slice over a row lie. -/
theorem row_cells {w : World} {g : Nat} {cur : Array Value} {T : TypeId} (hg : w.heap[g]? = some (.cells cur T (0, 0))) (o n : Nat) :
    ∀ j u, ((cur.toList.drop o).take n)[j]? = some u → w.cell? ((⟨g, o, none⟩ : Addr).add j) = some u := by
  intro j u h
  rw [Addr.add_lit, cell_of_row w g (o + j) cur T (0, 0) hg]
  rw [List.getElem?_take] at h
  split at h
  · rw [List.getElem?_drop] at h
    simpa using h
  · cases h

end

/-- What a call that changed some blocks leaves: the streams, and every old block outside S. -/
structure Touch (S : Nat → Prop) (w w' : World) : Prop where
  os : w'.os = w.os
  tape : w'.tape = w.tape
  output : w'.output = w.output
  size : w.heap.size ≤ w'.heap.size
  block : ∀ k, k < w.heap.size → ¬ S k → w'.heap[k]? = w.heap[k]?

namespace Touch
variable {S T : Nat → Prop} {w w' w'' : World}
theorem refl (S : Nat → Prop) (w : World) : Touch S w w := ⟨rfl, rfl, rfl, Nat.le_refl _, fun _ _ _ => rfl⟩
theorem mono (h : Touch S w w') (hs : ∀ k, k < w.heap.size → S k → T k) : Touch T w w' :=
  ⟨h.os, h.tape, h.output, h.size, fun k hk hn => h.block k hk fun hS => hn (hs k hk hS)⟩
theorem trans (h : Touch S w w') (k : Touch T w' w'') (hT : ∀ i, i < w.heap.size → T i → S i) : Touch S w w'' :=
  ⟨k.os.trans h.os, k.tape.trans h.tape, k.output.trans h.output, Nat.le_trans h.size k.size,
    fun i hi hn => (k.block i (Nat.lt_of_lt_of_le hi h.size) fun hTi => hn (hT i hi hTi)).trans (h.block i hi hn)⟩
theorem drew (h : Touch S w w') : Touch S w w'.drew := ⟨h.os, h.tape, h.output, h.size, h.block⟩
theorem ofDrew (h : Touch S w.drew w') : Touch S w w' := ⟨h.os, h.tape, h.output, h.size, h.block⟩
theorem alloc (h : Touch S w w') (o : Obj) : Touch S w (w'.alloc o) :=
  ⟨h.os, h.tape, h.output, by have := h.size; simp; omega, fun k hk hn => by
    rw [Below.heap_alloc w' o k (Nat.lt_of_lt_of_le hk h.size)]; exact h.block k hk hn⟩
theorem setRow (h : Touch S w w') (g : Nat) (hg : g < w.heap.size → S g) (cs : Array Value) : Touch S w (w'.setRow g cs) :=
  ⟨h.os, h.tape, h.output, by have := h.size; simpa using this, fun k hk hn => by
    rw [setRow_other w' g k cs (fun e => hn (e ▸ hg (e ▸ hk)))]; exact h.block k hk hn⟩
theorem setCell (h : Touch S w w') (a : Addr) (hg : a.block < w.heap.size → S a.block) (v : Value) : Touch S w (w'.setCell a v) :=
  ⟨h.os, h.tape, h.output, by have := h.size; simpa [World.setCell] using this, fun k hk hn => by
    rw [Below.heap_setCell w' a v k (fun e => hn (e ▸ hg (e ▸ hk)))]; exact h.block k hk hn⟩
theorem grown {row : Option Nat} (h : w.grownBy w' row) (hs : ∀ k, row = some k → S k) : Touch S w w' :=
  ⟨h.os, h.tape, h.output, h.size, fun k hk hn => h.block k hk fun e => hn (hs k e.symm)⟩
theorem below {B : Nat} (h : Touch S w w') (hB : B ≤ w.heap.size) (hs : ∀ k, S k → B ≤ k) : Below B w w' :=
  ⟨h.os, h.tape, h.output, h.size, fun k hk => h.block k (by omega) fun hS => by have := hs k hS; omega⟩
end Touch


theorem heap_new (w : World) (o : Obj) : (w.alloc o).heap[w.heap.size]? = some o := by
  show (w.heap.push o)[w.heap.size]? = _
  simp

theorem ownsRow_same {B e n : Nat} {v : Value} {xs : List Value} {w w' : World} (h : w.ownsRow B e 1 v n xs) (hb : ∀ k, v.ownBlock = some k → w'.heap[k]? = w.heap[k]?) : w'.ownsRow B e 1 v n xs := by
  refine ⟨h.1, ?_⟩
  rcases h.2 with hn | ⟨g, cap, cur, rfl, hB, hg, rest⟩
  · exact .inl hn
  · exact .inr ⟨g, cap, cur, rfl, hB, by rw [hb g rfl]; exact hg, rest⟩

theorem ownsRow_lt {B e n : Nat} {v : Value} {xs : List Value} {w : World} (h : w.ownsRow B e 1 v n xs) {k : Nat} (hk : v.ownBlock = some k) : B ≤ k ∧ k < w.heap.size := World.ownsRow.lt h k hk

theorem ownsRow_touch {B e n : Nat} {v : Value} {xs : List Value} {w w' : World} {S : Nat → Prop} (h : w.ownsRow B e 1 v n xs) (ht : Touch S w w') (hn : ∀ k, v.ownBlock = some k → ¬ S k) : w'.ownsRow B e 1 v n xs :=
  ownsRow_same h fun k hk => ht.block k (ownsRow_lt h hk).2 (hn k hk)

theorem ownsRow_slice {B e n : Nat} {v : Value} {xs : List Value} {w : World} (h : w.ownsRow B e 1 v n xs) : ∃ a c, v = .slice a n c ∧ n ≤ c ∧ c ≤ maxLen := by
  rcases h.2 with ⟨rfl, rfl⟩ | ⟨g, cap, cur, rfl, _, _, h1, h2, _⟩
  · exact ⟨none, 0, rfl, Nat.le_refl _, Nat.zero_le _⟩
  · exact ⟨_, cap, rfl, h1, h2⟩

theorem ownsRow_cell {B e n : Nat} {v : Value} {xs : List Value} {w : World} (h : w.ownsRow B e 1 v n xs) (hn : 0 < n) :
    ∃ g c, v = .slice (some ⟨g, 0, none⟩) n c ∧ n ≤ c ∧ c ≤ maxLen ∧ v.ownBlock = some g ∧ w.frozen? ⟨g, 0, none⟩ = false ∧ ∀ k u, xs[k]? = some u → w.cell? ⟨g, k, none⟩ = some u := by
  rcases h.2 with ⟨_, rfl⟩ | ⟨g, cap, cur, rfl, _, hg, h1, h2, h3, h4⟩
  · omega
  · refine ⟨g, cap, rfl, h1, h2, rfl, by simp [World.frozen?, hg], fun k u hu => ?_⟩
    rw [cell_of_row w g k cur e (0, 0) hg]
    rw [← h4, List.getElem?_take] at hu
    split at hu
    · simpa using hu
    · cases hu

structure Mem (w w' : World) : Prop where
  heap : w'.heap = w.heap
  os : w'.os = w.os
  tape : w'.tape = w.tape
  output : w'.output = w.output

theorem Mem.refl (w : World) : Mem w w := ⟨rfl, rfl, rfl, rfl⟩
theorem Mem.drew {w w' : World} (h : Mem w w') : Mem w w'.drew := ⟨h.heap, h.os, h.tape, h.output⟩
theorem Mem.ofDrew (w : World) : Mem w w.drew := ⟨rfl, rfl, rfl, rfl⟩
theorem Mem.touch {S : Nat → Prop} {v w w' : World} (ht : Touch S v w) (h : Mem w w') : Touch S v w' :=
  ⟨h.os.trans ht.os, h.tape.trans ht.tape, h.output.trans ht.output, by rw [h.heap]; exact ht.size, fun k hk hn => by rw [h.heap]; exact ht.block k hk hn⟩

theorem ownsRow_ge {w : World} {B e m n : Nat} {v : Value} {xs : List Value} (h : w.ownsRow B e m v n xs) {k : Nat} (hk : v.ownBlock = some k) : B ≤ k := by
  rcases h.2 with ⟨rfl, _⟩ | ⟨g, _, _, rfl, hB, _⟩
  · cases hk
  · cases hk; exact hB

section
variable {P : Program}

/-- What append(v, src...) leaves. -/
structure AppRow (B e : Nat) (v : Value) (xs news : List Value) (w : World) (v' : Value) (w' : World) : Prop where
  owns : w'.ownsRow B e 1 v' (xs.length + news.length) (xs ++ news)
  touch : Touch (fun k => v.ownBlock = some k) w w'
  place : v'.ownBlock = v.ownBlock ∨ ∃ k, v'.ownBlock = some k ∧ w.heap.size ≤ k
  some_ : xs ++ news ≠ [] → ∃ k, v'.ownBlock = some k
  same : news = [] → v'.ownBlock = v.ownBlock

theorem append_row (w : World) (B t ty e : Nat) (i : TypeInfo) (z : Value) (bytes : Nat) (ht : P.underlying t = some (.slice e)) (hi : P.info? e = some i) (hz : i.zero = some z) (hsize : i.size = 1) (hby : i.bytes = bytes) (hz1 : z.cells = #[z])
    (v : Value) (xs : List Value) (hown : w.ownsRow B e 1 v xs.length xs) (src : Value) (news : List Value)
    (hsrc : (src = .slice none 0 0 ∧ news = []) ∨ ∃ a c, src = .slice (some a) news.length c ∧ ∀ j u, news[j]? = some u → w.cell? (a.add j) = some u) (h1 : ∀ u ∈ news, u.oneCell' = true)
    (hbig : (xs.length + news.length) * bytes ≤ 140737488355328) (h63 : xs.length + news.length ≤ maxLen) (hB : B ≤ w.heap.size) :
    ∃ v' w', (Builtin.append_ #[t, t] ty #[v, src]).run P w = .ok v' w' ∧ AppRow B e v xs news w v' w' := by
  rcases hsrc with ⟨rfl, rfl⟩ | ⟨a, c, rfl, hnews⟩
  · refine ⟨v, w, run_append_owned_none (P := P) w B t ty e i 1 ht hi v xs.length xs hown, ⟨by simpa using hown, Touch.refl _ _, .inl rfl, fun hne => ?_, fun _ => rfl⟩⟩
    rcases hown.2 with ⟨_, hn⟩ | ⟨g, cap, cur, rfl, _⟩
    · exact absurd (List.length_eq_zero_iff.1 hn) (by simpa using hne)
    · exact ⟨g, rfl⟩
  · rcases hown.2 with ⟨rfl, hn0⟩ | ⟨g, cap, cur, rfl, hBg, hg, hnc, hcm, hcs, htk⟩
    · have hx : xs = [] := List.length_eq_zero_iff.1 hn0
      subst hx
      by_cases hm : news.length = 0
      · have hne : news = [] := List.length_eq_zero_iff.1 hm
        subst hne
        refine ⟨.slice none 0 0, w, ?_, ⟨World.ownsRow_nil w B e 1, Touch.refl _ _, .inl rfl, fun h => absurd rfl h, fun _ => rfl⟩⟩
        have hf := run_firstCells_some (P := P) w i.size 0 a 0 c [] (by simp) (by simp)
        simp [Builtin.append_, run_underlying ht, sizeOf, typeInfo, hi, Builtin.lenOf, hf]
      · have hr := run_append_nil (P := P) w t ty e i z ht hi hz a news.length c news (by rw [hsize]; omega) hnews (by omega) (by simp only [maxLen, List.length_nil] at h63; omega) (by rw [hby]; simp only [List.length_nil, Nat.zero_add] at hbig; omega)
        obtain ⟨G, hG⟩ : ∃ G, G = grownCap w news.length 0 e := ⟨_, rfl⟩
        have hG1 : news.length ≤ G := by rw [hG]; exact grownCap_ge w _ 0 e
        have hG2 : G ≤ maxLen := by rw [hG]; exact grownCap_le_maxLen w _ 0 e (by simpa using h63)
        rw [← hG, zeroCells_one z hz1] at hr
        have hrow : (w.drew.alloc (.cells (news.toArray ++ (List.replicate (G - news.length) z).toArray) e)).ownsRow B e 1 (.slice (some ⟨w.heap.size, 0, none⟩) news.length G) news.length news :=
          ⟨by simp, .inr ⟨w.heap.size, G, _, rfl, hB, heap_new w.drew _, hG1, hG2, by simp; omega, by simp⟩⟩
        exact ⟨_, _, hr, ⟨by simpa using hrow, (Touch.refl _ _).drew.alloc _, .inr ⟨w.heap.size, rfl, Nat.le_refl _⟩, fun _ => ⟨_, rfl⟩, fun h => absurd (by rw [h]; rfl) hm⟩⟩
    · simp only [Nat.mul_one] at hcs htk
      by_cases hroom : xs.length + news.length ≤ cap
      · have hr := run_append_room (P := P) w t ty e i ht hi g xs.length cap cur hg a news.length c news (by rw [hsize]; omega) hnews h1 hroom (by rw [hsize]; omega)
        refine ⟨_, _, hr, ⟨⟨by simp, .inr ⟨g, cap, _, rfl, hBg, setRow_heap w g cur _ e (0, 0) hg, hroom, hcm, ?_, ?_⟩⟩, Touch.setRow (S := fun k => (Value.slice (some ⟨g, 0, none⟩) xs.length cap).ownBlock = some k) (Touch.refl _ _) g (fun _ => rfl) _, .inl rfl, fun _ => ⟨g, rfl⟩, fun _ => rfl⟩⟩
        · rw [hsize]; simp; omega
        · rw [hsize, Nat.mul_one, Nat.mul_one, List.toList_toArray, htk, List.take_left' (by simp)]
      · have hxc : ∀ j u, xs[j]? = some u → w.cell? ((⟨g, 0, none⟩ : Addr).add j) = some u := fun j u hj => row_cells (w := w) hg 0 xs.length j u (by rw [List.drop_zero, htk]; exact hj)
        have hr := run_append_grow (P := P) w t ty e i z ht hi hz ⟨g, 0, none⟩ xs.length cap xs (by rw [hsize]; omega) hxc a news.length c news (by rw [hsize]; omega) hnews (by omega) (by simp only [maxLen] at h63; omega) (by rw [hby]; exact growslice_fits (by omega) hbig)
        refine ⟨_, _, hr, ⟨⟨by simp, .inr ⟨w.heap.size, _, _, rfl, hB, heap_new w.drew _, grownCap_ge w _ cap e, grownCap_le_maxLen w _ cap e h63, ?_, ?_⟩⟩, (Touch.refl _ _).drew.alloc _, .inr ⟨w.heap.size, rfl, Nat.le_refl _⟩, fun _ => ⟨_, rfl⟩, fun h => by subst h; simp at hroom; omega⟩⟩
        · have := grownCap_ge w (xs.length + news.length) cap e
          rw [zeroCells_one z hz1]; simp; omega
        · rw [zeroCells_one z hz1, Nat.mul_one, List.append_toArray, List.append_toArray, List.toList_toArray, List.take_left' (by simp)]
end

/-- A slice of bytes that can be read: its elements S 0 .. S (n-1). -/
def Rb (w : World) (a : Option Addr) (n c : Nat) (S : Nat → Int) : Prop :=
  n ≤ c ∧ c ≤ maxLen ∧ (0 < n → ∃ b off, a = some ⟨b, off, none⟩ ∧ ∀ k, k < n → w.cell? ⟨b, off + k, none⟩ = some (.int .u8 (S k)))

def ints (l : List Int) : List Value := l.map (.int .u8)
theorem ints_length (l : List Int) : (ints l).length = l.length := by simp [ints]
theorem getD_ints (l : List Int) (k : Nat) (hk : k < l.length) : (ints l)[k]? = some (.int .u8 (l.getD k 0)) := by simp [ints, hk]
theorem ints_one (l : List Int) : ∀ u ∈ ints l, u.oneCell' = true := by
  intro u hu
  simp [ints] at hu
  obtain ⟨x, _, rfl⟩ := hu
  rfl

theorem Rb.ofOwns {B : Nat} {v : Value} {l : List Int} {w : World} (h : w.ownsRow B 5 1 v l.length (ints l)) : ∃ a c, v = .slice a l.length c ∧ Rb w a l.length c (fun k => l.getD k 0) := by
  obtain ⟨a, c, rfl, h1, h2⟩ := ownsRow_slice h
  refine ⟨a, c, rfl, h1, h2, fun h0 => ?_⟩
  obtain ⟨g, c2, he, _, _, _, _, hc⟩ := ownsRow_cell h h0
  simp at he
  exact ⟨g, 0, he.1, fun k hk => by rw [Nat.zero_add]; exact hc k _ (getD_ints l k hk)⟩

/-- Who reads it after old blocks stayed. -/
theorem Rb.touch {w w' : World} {Z : Nat → Prop} {a : Option Addr} {n c : Nat} {S : Nat → Int} (h : Rb w a n c S) (ht : Touch Z w w') (hn : ∀ x, a = some x → 0 < n → ¬ Z x.block) : Rb w' a n c S := by
  refine ⟨h.1, h.2.1, fun h0 => ?_⟩
  obtain ⟨b, off, rfl, hc⟩ := h.2.2 h0
  refine ⟨b, off, rfl, fun k hk => ?_⟩
  rw [← hc k hk]
  exact World.cell?_of_block (ht.block b (World.block_lt_of_cell? w _ (hc k hk)) (hn _ rfl h0))

theorem Rb.mem {w w' : World} {a : Option Addr} {n c : Nat} {S : Nat → Int} (h : Rb w a n c S) (hm : Mem w w') : Rb w' a n c S := by
  refine ⟨h.1, h.2.1, fun h0 => ?_⟩
  obtain ⟨b, off, rfl, hc⟩ := h.2.2 h0
  exact ⟨b, off, rfl, fun k hk => by rw [← hc k hk]; exact World.cell?_of_block (by rw [hm.heap])⟩

theorem Rb.lt {w : World} {a : Option Addr} {n c : Nat} {S : Nat → Int} (h : Rb w a n c S) : ∀ x, a = some x → 0 < n → x.block < w.heap.size := by
  intro x hx h0
  obtain ⟨b, off, rfl, hc⟩ := h.2.2 h0
  simp at hx; subst hx
  exact World.block_lt_of_cell? w _ (hc 0 h0)

theorem infoB : ∃ i, Try.prog.info? 5 = some i ∧ i.zero = some (Value.int .u8 0) ∧ i.size = 1 ∧ i.bytes = 1 := ⟨_, rfl, rfl, rfl, rfl⟩
theorem sizeB : (Try.prog.info? 5).map (·.size) = some 1 := rfl

theorem makeB (n : Nat) (hn : n ≤ 1048576) (w : World) : (Instr.makeSlice 22 (.int .i64 (n : Int)) (.int .i64 (n : Int))).run Try.prog w = .ok (.slice (some ⟨w.heap.size, 0, none⟩) n n) (w.alloc (.cells (madeCells #[.int .u8 0] n) 5)) := by
  obtain ⟨i0, hi0, hz0, hzs, hzb⟩ := infoB
  exact run_make_row (P := Try.prog) 22 5 i0 _ Try.underlying22 hi0 hz0 hzs rfl .i64 .i64 n (by rw [hzb]; omega) (by omega) w

/-- The list that a slice of bytes holds. -/
def listOf (n : Nat) (S : Nat → Int) : List Int := (List.range n).map S
theorem listOf_length (n : Nat) (S : Nat → Int) : (listOf n S).length = n := by simp [listOf]
theorem listOf_getD (n : Nat) (S : Nat → Int) (k : Nat) (hk : k < n) : (listOf n S).getD k 0 = S k := by simp [listOf, hk]

theorem Rb.cells {w : World} {a : Option Addr} {n c : Nat} {S : Nat → Int} (h : Rb w a n c S) (h0 : 0 < n) : ∃ x, a = some x ∧ ∀ j u, (ints (listOf n S))[j]? = some u → w.cell? (x.add j) = some u := by
  obtain ⟨b, off, rfl, hc⟩ := h.2.2 h0
  refine ⟨_, rfl, fun j u hj => ?_⟩
  have hj' : j < n := by
    rcases Nat.lt_or_ge j n with h | h
    · exact h
    · rw [List.getElem?_eq_none (by rw [ints_length, listOf_length]; exact h)] at hj; cases hj
  rw [getD_ints _ j (by rw [listOf_length]; exact hj'), listOf_getD n S j hj'] at hj
  rw [Addr.add_lit, ← Option.some.inj hj]
  exact hc j hj'

/-- make, then copy: a row of bytes of the call's own. -/
theorem bytesRow (B : Nat) (w : World) (a : Option Addr) (n c : Nat) (S : Nat → Int) (hR : Rb w a n c S) (hn : n ≤ 1048576) (hB : B ≤ w.heap.size) :
    ∃ W1 W2 cv, (Instr.makeSlice 22 (.int .i64 (n : Int)) (.int .i64 (n : Int))).run Try.prog w = .ok (.slice (some ⟨w.heap.size, 0, none⟩) n n) W1 ∧ Touch (fun _ => False) w W1 ∧
      (∀ ty, (Builtin.copy_ #[22, 22] ty #[.slice (some ⟨w.heap.size, 0, none⟩) n n, .slice a n c]).run Try.prog W1 = .ok cv W2) ∧
      W2.ownsRow B 5 1 (.slice (some ⟨w.heap.size, 0, none⟩) n n) n (ints (listOf n S)) ∧ Touch (fun _ => False) w W2 ∧ W2.heap.size = w.heap.size + 1 := by
  obtain ⟨R0, hR0⟩ : ∃ R0, R0 = madeCells #[Value.int .u8 0] n := ⟨_, rfl⟩
  have hR0s : R0.size = n := by rw [hR0, size_madeCells]
  have hmk := makeB n hn w
  rw [← hR0] at hmk
  have hT1 : Touch (fun _ => False) w (w.alloc (.cells R0 5)) := (Touch.refl _ _).alloc _
  have hlen : (ints (listOf n S)).length = n := by rw [ints_length, listOf_length]
  rcases Nat.eq_zero_or_pos n with rfl | h0
  · exact ⟨_, w.alloc (.cells R0 5), goInt 0, hmk, hT1, fun ty => run_copy_none _ 22 22 ty 5 _ a 0 _ 0 c Try.underlying22 sizeB (by simp), ⟨rfl, .inr ⟨w.heap.size, 0, R0, rfl, hB, heap_new w _, Nat.le_refl _, Nat.zero_le _, by rw [hR0s], by simp [ints, listOf]⟩⟩, hT1, by simp⟩
  · obtain ⟨x, rfl, hc⟩ := hR.cells h0
    have hrow : (w.alloc (.cells R0 5)).heap[w.heap.size]? = some (.cells R0 5 (0, 0)) := heap_new w _
    have hcp := fun ty => run_copy_row Try.prog (w.alloc (.cells R0 5)) 22 22 ty 5 w.heap.size 0 n n x n c R0 5 (ints (listOf n S)) Try.underlying22 sizeB hrow (by rw [hlen]; simp) (fun j v hj => by
      have hcj := hc j v hj
      rw [← hcj]
      exact World.cell?_of_block (hT1.block _ (World.block_lt_of_cell? w _ hcj) (fun h => h))) (by rw [hlen, hR0s]; omega) (ints_one _)
    refine ⟨_, _, _, hmk, hT1, hcp, ?_, ?_, ?_⟩
    · refine ⟨by rw [hlen, Nat.mul_one], .inr ⟨w.heap.size, n, _, rfl, hB, setRow_heap _ _ _ _ 5 (0, 0) hrow, Nat.le_refl _, by unfold maxLen; omega, ?_, ?_⟩⟩
      · simp [hlen, hR0s]
      · simp [hlen]
    · exact hT1.setRow _ (fun h => absurd h (Nat.lt_irrefl _)) _
    · simp

end Go.Proofs.Qxb6604050a
