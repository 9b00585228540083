/- Two appends in one statement, and the children of two nodes: steps for refill's merge. -/
import Derived.Test.Qxb6604036aNd
namespace Go.Proofs.Qxb6604036a
open Go.RowKit Plain
set_option linter.unusedVariables false
set_option linter.unusedSimpArgs false

theorem St.two {B : Nat} {S : Nat → Prop} {w0 w : World} {a r : NS} {l : List NS} (h : St B S w0 w (a :: r :: l)) : ∀ k ∈ a.ft, k ∉ r.ft := by
  have hn := h.nodup
  rw [List.flatMap_cons, List.flatMap_cons] at hn
  have hd := (List.nodup_append.1 hn).2.2
  exact fun k hk hr => hd k hk k (List.mem_append.2 (.inl hr)) rfl

theorem kv_ft {a : NS} {k : Nat} (h : a.kv.ownBlock = some k) : k ∈ a.ft := by
  unfold NS.ft; rw [h]; simp
theorem cv_ft {a : NS} {k : Nat} (h : a.cv.ownBlock = some k) : k ∈ a.ft := by
  unfold NS.ft; rw [h]; simp

/-- append(append(a.keys, y), r.keys...) -/
theorem St.app2 {B : Nat} {S : Nat → Prop} {w0 w : World} {a r : NS} {l : List NS} (h : St B S w0 w (a :: r :: l)) (y : ByteArray) (hl : a.ks.length ≤ 1000) (hr : r.ks.length ≤ 1000) :
    ∃ g1 c1 w1 v2 w2, (Builtin.append_ #[23, 23] 23 #[a.kv, .slice (some ⟨w.heap.size, 0, none⟩) 1 1]).run Try.prog (w.alloc (.cells #[.string y] 9)) = .ok (.slice g1 (a.ks.length + 1) c1) w1 ∧
      (Builtin.append_ #[23, 23] 23 #[.slice g1 (a.ks.length + 1) c1, r.kv]).run Try.prog w1 = .ok v2 w2 ∧ w1.cell? ⟨r.p, 0, none⟩ = some r.kv ∧ w1.cell? ⟨a.p, 0, none⟩ = some a.kv ∧ StepK B S w0 a (r :: l) (a.ks ++ y :: r.ks) (.returned v2) w2 := by
  obtain ⟨hN, hBp, hK, hC⟩ := h.nd a (List.mem_cons_self ..)
  obtain ⟨rN, rBp, rK, rC⟩ := h.nd r (List.mem_cons_of_mem _ (List.mem_cons_self ..))
  have hs := h.size
  have htwo := h.two
  obtain ⟨v1, w1, hr1, ha⟩ := appS_one (w.alloc (.cells #[.string y] 9)) B 23 a.kv (strs a.ks) (.string y) w.heap.size 1 (by rw [strs_length]; exact hK.alloc _) (by rw [cell_of_row _ _ 0 #[.string y] 9 (0, 0) (heap_new w _)]; rfl) rfl (by rw [strs_length]; omega) (by simp; omega)
  have ht1 : Touch (fun k => a.kv.ownBlock = some k) w w1 := ((Touch.refl (fun k => a.kv.ownBlock = some k) w).alloc _).trans ha.touch fun _ _ h => h
  have hown1 : w1.ownsRow B 9 1 v1 (a.ks ++ [y]).length (strs (a.ks ++ [y])) := by
    have := ha.owns
    rw [strs_length] at this
    simpa [strs] using this
  have hrK1 : w1.ownsRow B 9 1 r.kv r.ks.length (strs r.ks) := ownsRow_same rK fun k hk => ht1.block k (ownsRow_lt rK hk).2 fun e => htwo k (kv_ft e) (kv_ft hk)
  have hpr : w1.heap[r.p]? = w.heap[r.p]? := ht1.block _ (lt_of_heap rN) fun e => htwo _ (kv_ft e) (by unfold NS.ft; simp)
  have hpa : w1.heap[a.p]? = w.heap[a.p]? := ht1.block _ (lt_of_heap hN) fun e => (ft_apart h.head_nodup).1 e
  obtain ⟨g1, c1, rfl, -, -⟩ := ownsRow_slice hown1
  obtain ⟨v2, w2, hr2, ha2⟩ := appS_row w1 B B 23 _ r.kv (strs (a.ks ++ [y])) (strs r.ks) (by rw [strs_length]; exact hown1) (by rw [strs_length]; exact hrK1) (strs_oneCell _) (by rw [strs_length, strs_length]; simp; omega) (Nat.le_trans hs ht1.size)
  have hlen : (a.ks ++ [y]).length = a.ks.length + 1 := by simp
  rw [hlen] at hr1 hr2
  refine ⟨g1, c1, w1, v2, w2, hr1, hr2, ?_, ?_, h.stepK ?_ ?_ ?_⟩
  · rw [← cell_node0 rN]; exact World.cell?_of_block hpr
  · rw [← cell_node0 hN]; exact World.cell?_of_block hpa
  · have := ha2.owns
    rw [strs_length, strs_length] at this
    have e1 : (a.ks ++ y :: r.ks).length = (a.ks ++ [y]).length + r.ks.length := by simp; omega
    have e2 : strs (a.ks ++ y :: r.ks) = strs (a.ks ++ [y]) ++ strs r.ks := by simp [strs]
    rw [e1, e2]
    exact this
  · refine ht1.trans ha2.touch fun i hi e => ?_
    rcases ha.place with e1 | ⟨k, e1, hk⟩
    · rw [← e1]; exact e
    · rw [e] at e1; cases e1; simp at hk; omega
  · rcases ha2.place with e2 | ⟨k, e2, hk⟩
    · rcases ha.place with e1 | ⟨k, e1, hk⟩
      · exact .inl (e2.trans e1)
      · exact .inr ⟨k, e2.trans e1, by simp at hk; omega⟩
    · exact .inr ⟨k, e2, by have := ht1.size; omega⟩

/-- append(a.children, r.children...) -/
theorem St.appPs {B : Nat} {S : Nat → Prop} {w0 w : World} {a r : NS} {l : List NS} (h : St B S w0 w (a :: r :: l)) (hl : a.ps.length ≤ 1000) (hr : r.ps.length ≤ 1000) :
    ∃ v' w1, (Builtin.append_ #[47, 47] 47 #[a.cv, r.cv]).run Try.prog w = .ok v' w1 ∧ StepC B S w0 a (r :: l) (a.ps ++ r.ps) (.returned v') w1 ∧ (r.cv = .slice none 0 0 → v' = a.cv) := by
  obtain ⟨hN, hBp, hK, hC⟩ := h.nd a (List.mem_cons_self ..)
  obtain ⟨rN, rBp, rK, rC⟩ := h.nd r (List.mem_cons_of_mem _ (List.mem_cons_self ..))
  have hs := h.size
  have ho := h.one a (List.mem_cons_self ..)
  have hro := h.one r (List.mem_cons_of_mem _ (List.mem_cons_self ..))
  obtain ⟨v', w1, hr1, ha⟩ := appP_row w B B 47 a.cv r.cv a.ps r.ps hC rC hro (by omega) hs
  refine ⟨v', w1, hr1, h.stepC ?_ ha.touch ha.place (fun u hu => ?_), fun e => ?_⟩
  · have := ha.owns
    rw [List.length_append]; exact this
  · rcases List.mem_append.1 hu with hu | hu
    · exact ho u hu
    · exact hro u hu
  · obtain ⟨i0, hi0, hz0, hzs, hzb⟩ := infoP
    have := run_append_owned_none (P := Try.prog) w B 47 47 27 i0 1 Try.underlying47 hi0 a.cv a.ps.length a.ps hC
    rw [e, this] at hr1
    cases hr1
    rfl

end Go.Proofs.Qxb6604036a
