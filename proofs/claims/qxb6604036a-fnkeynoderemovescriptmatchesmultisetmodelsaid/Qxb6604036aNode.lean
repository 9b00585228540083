/- The small functions over a node: newKeyNode (36), ZZMakeKeyNode (30), ZZKeyNodeKeys (13), ZZKeyNodeChildren (24), slices.Clone at []*keyNode (37). -/
import Derived.Test.Qxb6604036aIns
namespace Go.Proofs.Qxb6604036a
open Go.RowKit Go.Lib

/-- The row that newKeyNode makes. -/
def row65 : Array Value := (List.replicate 65 (Value.string ⟨#[]⟩)).toArray
theorem row65_size : row65.size = 65 := rfl

theorem make65 (w : World) : (Instr.makeSlice 23 (.int .i64 0) (.int .i64 65)).run Try.prog w = .ok (.slice (some ⟨w.heap.size, 0, none⟩) 0 65) (w.alloc (.cells row65 9)) := by
  kernel_rfl

/-- A node's block. -/
def nodeObj (kv cv : Value) : Obj := .cells #[kv, cv] 56 (0, 0)

set_option maxHeartbeats 400000 in
theorem new36 (w : World) : Calls Try.prog 36 #[] w fun e w' => e = .returned (.pointer (some ⟨w.heap.size + 1, 0, none⟩)) ∧ w' = (w.alloc (.cells row65 9)).alloc (nodeObj (.slice (some ⟨w.heap.size, 0, none⟩) 0 65) (.slice none 0 0)) := by
  have hmk := make65
  go_enter Try.func36, Try.ntmps36
  go_wp2
  go_ret
  exact ⟨rfl, rfl⟩

set_option maxHeartbeats 400000 in
theorem mk30 (a b : Option Addr) (n c m d : Nat) (w : World) : Calls Try.prog 30 #[.slice a n c, .slice b m d] w fun e w' => e = .returned (.pointer (some ⟨w.heap.size, 0, none⟩)) ∧ w' = w.alloc (nodeObj (.slice a n c) (.slice b m d)) := by
  go_enter Try.func30, Try.ntmps30
  go_wp2
  go_ret
  exact ⟨rfl, rfl⟩

theorem cell_node0 {w : World} {p : Nat} {kv cv : Value} (h : w.heap[p]? = some (nodeObj kv cv)) : w.cell? ⟨p, 0, none⟩ = some kv := by
  simp [World.cell?, h, nodeObj]
theorem cell_node1 {w : World} {p : Nat} {kv cv : Value} (h : w.heap[p]? = some (nodeObj kv cv)) : w.cell? ⟨p, 1, none⟩ = some cv := by
  simp [World.cell?, h, nodeObj]
theorem frozen_node {w : World} {p o : Nat} {kv cv : Value} (h : w.heap[p]? = some (nodeObj kv cv)) : w.frozen? ⟨p, o, none⟩ = false := by
  simp [World.frozen?, h, nodeObj]

set_option maxHeartbeats 400000 in
theorem keys13 (p : Nat) (a b : Option Addr) (n c m d : Nat) (w : World) (h : w.heap[p]? = some (nodeObj (.slice a n c) (.slice b m d))) :
    Calls Try.prog 13 #[.pointer (some ⟨p, 0, none⟩)] w fun e w' => e = .returned (.slice a n c) ∧ w' = w := by
  have h0 := cell_node0 h
  clear h
  go_enter Try.func13, Try.ntmps13
  go_wp2
  go_ret
  exact ⟨rfl, rfl⟩

set_option maxHeartbeats 400000 in
theorem kids24 (p : Nat) (a b : Option Addr) (n c m d : Nat) (w : World) (h : w.heap[p]? = some (nodeObj (.slice a n c) (.slice b m d))) :
    Calls Try.prog 24 #[.pointer (some ⟨p, 0, none⟩)] w fun e w' => e = .returned (.slice b m d) ∧ w' = w := by
  have h0 := cell_node1 h
  clear h
  go_enter Try.func24, Try.ntmps24
  go_wp2
  go_ret
  exact ⟨rfl, rfl⟩

set_option maxHeartbeats 1000000 in
/-- slices.Clone of a slice of a row, with an element or more. -/
theorem clone37 (B g o n c : Nat) (cur : Array Value) (w : World) (hn : 0 < n) (hbig : n * 8 ≤ 140737488355328) (hB : B ≤ w.heap.size)
    (hg : w.heap[g]? = some (.cells cur 27 (0, 0))) (hfit : o + n ≤ cur.size) :
    Calls Try.prog 37 #[.slice (some ⟨g, o, none⟩) n c] w fun e w' => ∃ v', e = .returned v' ∧ w'.ownsRow B 27 1 v' n ((cur.toList.drop o).take n) ∧ Touch (fun _ => False) w w' ∧ ∃ k, v'.ownBlock = some k ∧ w.heap.size ≤ k := by
  obtain ⟨i0, hi0, hz0, hzs, hzb⟩ := infoP
  have hgw : g < w.heap.size := (Array.getElem?_eq_some_iff.1 hg).1
  obtain ⟨cs, hcs⟩ : ∃ cs, cs = (cur.toList.drop o).take n := ⟨_, rfl⟩
  have hcl : cs.length = n := by rw [hcs]; simp; omega
  obtain ⟨W0, hW0⟩ : ∃ W0, W0 = w.alloc (.cells #[] 27) := ⟨_, rfl⟩
  have hs0 : W0.heap.size = w.heap.size + 1 := by rw [hW0]; simp
  obtain ⟨G, hG⟩ : ∃ G, G = grownCap W0 (0 + n) 0 27 := ⟨_, rfl⟩
  have hG1 : n ≤ G := by rw [hG]; have := grownCap_ge W0 (0 + n) 0 27; omega
  have hG2 : G ≤ maxLen := by rw [hG]; exact grownCap_le_maxLen W0 _ _ _ (by unfold maxLen; omega)
  obtain ⟨W1, hW1⟩ : ∃ W1, W1 = W0.drew.alloc (.cells (([] : List Value).toArray ++ cs.toArray ++ Builtin.zeroCells (Value.pointer none).cells (G - (0 + n))) 27) := ⟨_, rfl⟩
  have hap : ∀ ty, (Builtin.append_ #[47, 47] ty #[.slice (some ⟨w.heap.size, 0, none⟩) 0 0, .slice (some ⟨g, o, none⟩) n c]).run Try.prog W0 = .ok (.slice (some ⟨w.heap.size + 1, 0, none⟩) n G) W1 := fun ty => by
    have := run_append_grow (P := Try.prog) W0 47 ty 27 i0 _ Try.underlying47 hi0 hz0 ⟨w.heap.size, 0, none⟩ 0 0 [] (by simp) (by simp) ⟨g, o, none⟩ n c cs (by rw [hzs]; omega)
      (fun j v hj => by rw [hcs] at hj; exact row_cells (w := W0) (by rw [hW0, Below.heap_alloc w _ _ hgw]; exact hg) o n j v hj) (by omega) (by omega) (by rw [hzb]; exact growslice_fits (by omega) (by omega))
    rw [← hG, ← hW1, hs0] at this
    rw [this, Nat.zero_add]
  have hown : W1.ownsRow B 27 1 (.slice (some ⟨w.heap.size + 1, 0, none⟩) n G) n ((cur.toList.drop o).take n) := by
    refine ⟨by rw [← hcs, hcl, Nat.mul_one], .inr ⟨w.heap.size + 1, G, (([] : List Value).toArray ++ cs.toArray ++ Builtin.zeroCells (Value.pointer none).cells (G - (0 + n))), rfl, by omega, ?_, hG1, hG2, ?_, ?_⟩⟩
    · rw [hW1, ← hs0]; exact heap_new W0.drew _
    · rw [zeroCells_one (.pointer none) rfl]; simp; omega
    · rw [zeroCells_one (.pointer none) rfl, ← hcs]; simp [hcl]
  have htou : Touch (fun _ => False) w W1 := by rw [hW1, hW0]; exact (((Touch.refl _ _).alloc _).drew.alloc _)
  refine Calls.mono (R := fun e w' => e = .returned (.slice (some ⟨w.heap.size + 1, 0, none⟩) n G) ∧ w' = W1) ?_ (fun e w' ⟨he, hw⟩ => ⟨_, he, by rw [hw]; exact hown, by rw [hw]; exact htou, w.heap.size + 1, rfl, by omega⟩)
  have Hap : Hid (∀ ty, (Builtin.append_ #[47, 47] ty #[.slice (some ⟨w.heap.size, 0, none⟩) 0 0, .slice (some ⟨g, o, none⟩) n c]).run Try.prog (w.alloc (.cells #[] 27)) = .ok (.slice (some ⟨w.heap.size + 1, 0, none⟩) n G) W1) := by rw [← hW0]; exact hap
  clear hap hW0 hW1 hs0 hG hcl hcs hg hgw hi0 hz0 hzs hzb hown htou
  have hnil := fun w a n c => Lib.run_eql_slice_nil (P := Try.prog) w 47 27 a n c 0 0 Try.underlying47
  go_enter Try.func37, Try.ntmps37
  go_wp2_with (at_builtin; refine Lib.wpList_append_run _ rfl _ _ 47 47 rfl _ _ rfl rfl _ _ (Hap.out _) ?_)
  go_ret
  exact ⟨rfl, rfl⟩
end Go.Proofs.Qxb6604036a
