/- Some nodes of their own, apart from each other: one step on one of them leaves the others. -/
import Derived.Test.Qxb6604036aInner
import Derived.Test.Qxb6604036aDel
import Derived.Test.Qxb6604036aApp
namespace Go.Proofs.Qxb6604036a
open Go.RowKit Plain
set_option linter.unusedVariables false
set_option linter.unusedSimpArgs false

/-- A node by itself: its block, its two fields, what they hold. -/
structure NS where
  p : Nat
  kv : Value
  cv : Value
  ks : List ByteArray
  ps : List Value

def NS.ft (a : NS) : List Nat := a.p :: (a.kv.ownBlock.toList ++ a.cv.ownBlock.toList)

def Nd (B : Nat) (w : World) (a : NS) : Prop :=
  w.heap[a.p]? = some (nodeObj a.kv a.cv) ∧ B ≤ a.p ∧ w.ownsRow B 9 1 a.kv a.ks.length (strs a.ks) ∧ w.ownsRow B 27 1 a.cv a.ps.length a.ps

/-- The nodes of a list, each as it is said, in blocks apart. -/
structure St (B : Nat) (S : Nat → Prop) (w0 w : World) (l : List NS) : Prop where
  nd : ∀ a ∈ l, Nd B w a
  nodup : (l.flatMap NS.ft).Nodup
  place : ∀ k ∈ l.flatMap NS.ft, S k ∨ w0.heap.size ≤ k
  touch : Touch S w0 w
  one : ∀ a ∈ l, ∀ u ∈ a.ps, u.oneCell' = true

theorem Nd.lt {B : Nat} {w : World} {a : NS} (h : Nd B w a) : ∀ k ∈ a.ft, B ≤ k ∧ k < w.heap.size := by
  obtain ⟨h1, h2, h3, h4⟩ := h
  intro k hk
  simp only [NS.ft, List.mem_cons, List.mem_append, Option.mem_toList] at hk
  rcases hk with rfl | hk | hk
  · exact ⟨h2, lt_of_heap h1⟩
  · exact ownsRow_lt h3 hk
  · exact ownsRow_lt h4 hk

theorem Nd.same {B : Nat} {w w' : World} {a : NS} (h : Nd B w a) (hk : ∀ k ∈ a.ft, w'.heap[k]? = w.heap[k]?) : Nd B w' a := by
  obtain ⟨h1, h2, h3, h4⟩ := h
  exact ⟨by rw [hk _ (by simp [NS.ft])]; exact h1, h2, ownsRow_same h3 fun k hv => hk k (by simp [NS.ft, hv]), ownsRow_same h4 fun k hv => hk k (by simp [NS.ft, hv])⟩

theorem St.mem {B : Nat} {S : Nat → Prop} {w0 w w' : World} {l : List NS} (h : St B S w0 w l) (hm : Mem w w') : St B S w0 w' l :=
  ⟨fun a ha => (h.nd a ha).same fun k _ => by rw [hm.heap], h.nodup, h.place, hm.touch h.touch, h.one⟩

theorem St.perm {B : Nat} {S : Nat → Prop} {w0 w : World} {l l' : List NS} (h : St B S w0 w l) (hp : l.Perm l') : St B S w0 w l' :=
  ⟨fun a ha => h.nd a (hp.mem_iff.2 ha), (hp.flatMap_right NS.ft).nodup_iff.1 h.nodup, fun k hk => h.place k ((hp.flatMap_right NS.ft).mem_iff.2 hk), h.touch, fun a ha => h.one a (hp.mem_iff.2 ha)⟩

theorem St.sub {B : Nat} {S : Nat → Prop} {w0 w : World} {l l' : List NS} (h : St B S w0 w (l ++ l')) : St B S w0 w l :=
  ⟨fun a ha => h.nd a (List.mem_append.2 (.inl ha)), by have := h.nodup; rw [List.flatMap_append] at this; exact (List.nodup_append.1 this).1,
    fun k hk => h.place k (by rw [List.flatMap_append]; exact List.mem_append.2 (.inl hk)), h.touch, fun a ha => h.one a (List.mem_append.2 (.inl ha))⟩

/-- One node is turned. -/
theorem St.upd {B : Nat} {S : Nat → Prop} {w0 w w2 : World} {a a' : NS} {l : List NS} (h : St B S w0 w (a :: l)) (ht : Touch (· ∈ a.ft) w w2) (hnd : Nd B w2 a') (hno : a'.ft.Nodup) (hpl : ∀ k ∈ a'.ft, k ∈ a.ft ∨ w.heap.size ≤ k)
    (hone : ∀ u ∈ a'.ps, u.oneCell' = true) : St B S w0 w2 (a' :: l) := by
  have hnodup := h.nodup
  rw [List.flatMap_cons, List.nodup_append] at hnodup
  obtain ⟨n1, n2, n3⟩ := hnodup
  have hlt : ∀ k ∈ l.flatMap NS.ft, k < w.heap.size := fun k hk => by
    obtain ⟨b, hb, hkb⟩ := List.mem_flatMap.1 hk
    exact ((h.nd b (List.mem_cons_of_mem _ hb)).lt k hkb).2
  refine ⟨fun b hb => ?_, ?_, fun k hk => ?_, ?_, fun b hb => ?_⟩
  · rcases List.mem_cons.1 hb with rfl | hb
    · exact hnd
    · refine (h.nd b (List.mem_cons_of_mem _ hb)).same fun k hk => ht.block k (hlt k (List.mem_flatMap.2 ⟨b, hb, hk⟩)) fun hka => ?_
      exact n3 k hka k (List.mem_flatMap.2 ⟨b, hb, hk⟩) rfl
  · rw [List.flatMap_cons, List.nodup_append]
    refine ⟨hno, n2, fun x hx y hy e => ?_⟩
    subst e
    rcases hpl x hx with h1 | h1
    · exact n3 x h1 x hy rfl
    · have := hlt x hy; omega
  · rw [List.flatMap_cons] at hk
    rcases List.mem_append.1 hk with hk | hk
    · rcases hpl k hk with h1 | h1
      · exact h.place k (by rw [List.flatMap_cons]; exact List.mem_append.2 (.inl h1))
      · exact .inr (Nat.le_trans h.touch.size h1)
    · exact h.place k (by rw [List.flatMap_cons]; exact List.mem_append.2 (.inr hk))
  · refine h.touch.trans ht fun k hk hka => ?_
    rcases h.place k (by rw [List.flatMap_cons]; exact List.mem_append.2 (.inl hka)) with h1 | h1
    · exact h1
    · omega
  · rcases List.mem_cons.1 hb with rfl | hb
    · exact hone
    · exact h.one b (List.mem_cons_of_mem _ hb)

theorem ft_apart {a : NS} (h : a.ft.Nodup) : a.kv.ownBlock ≠ some a.p ∧ a.cv.ownBlock ≠ some a.p ∧ ∀ k, a.kv.ownBlock = some k → a.cv.ownBlock ≠ some k := by
  unfold NS.ft at h
  refine ⟨fun e => by rw [e] at h; simp at h, fun e => by rw [e] at h; simp at h, fun k hk hc => by rw [hk, hc] at h; simp at h⟩

theorem ft_mk {p : Nat} {kv cv : Value} {ks : List ByteArray} {ps : List Value} (h1 : kv.ownBlock ≠ some p) (h2 : cv.ownBlock ≠ some p) (h3 : ∀ k, kv.ownBlock = some k → cv.ownBlock ≠ some k) : (NS.ft ⟨p, kv, cv, ks, ps⟩).Nodup := by
  show (p :: (kv.ownBlock.toList ++ cv.ownBlock.toList)).Nodup
  cases hk : kv.ownBlock with
  | none =>
    cases hc : cv.ownBlock with
    | none => simp
    | some c => simp; rintro rfl; exact h2 hc
  | some k =>
    cases hc : cv.ownBlock with
    | none => simp; rintro rfl; exact h1 hk
    | some c =>
      simp
      refine ⟨⟨?_, ?_⟩, ?_⟩
      · rintro rfl; exact h1 hk
      · rintro rfl; exact h2 hc
      · rintro rfl; exact h3 k hk hc

theorem St.head_nodup {B : Nat} {S : Nat → Prop} {w0 w : World} {a : NS} {l : List NS} (h : St B S w0 w (a :: l)) : a.ft.Nodup := by
  have := h.nodup
  rw [List.flatMap_cons] at this
  exact (List.nodup_append.1 this).1

/-- The head's keys are set anew. -/
theorem St.keys {B : Nat} {S : Nat → Prop} {w0 w w1 : World} {a : NS} {l : List NS} (h : St B S w0 w (a :: l)) {kv' : Value} {ks' : List ByteArray} (hown : w1.ownsRow B 9 1 kv' ks'.length (strs ks')) (ht : Touch (fun k => a.kv.ownBlock = some k) w w1)
    (hpl : kv'.ownBlock = a.kv.ownBlock ∨ ∃ k, kv'.ownBlock = some k ∧ w.heap.size ≤ k) : St B S w0 (w1.setCell ⟨a.p, 0, none⟩ kv') (⟨a.p, kv', a.cv, ks', a.ps⟩ :: l) := by
  obtain ⟨hN, hBp, hK, hC⟩ := h.nd a (List.mem_cons_self ..)
  obtain ⟨d1, d2, d3⟩ := ft_apart h.head_nodup
  have hpw := lt_of_heap hN
  have hkp : kv'.ownBlock ≠ some a.p := by
    rcases hpl with e | ⟨k, hk, hkw⟩
    · rw [e]; exact d1
    · rw [hk]; simp; omega
  have hkc : ∀ k, kv'.ownBlock = some k → a.cv.ownBlock ≠ some k := fun k hk hc => by
    rcases hpl with e | ⟨k', hk', hkw⟩
    · exact d3 k (by rw [← e]; exact hk) hc
    · rw [hk'] at hk; simp at hk; have := (ownsRow_lt hC hc).2; omega
  have hN1 : w1.heap[a.p]? = some (nodeObj a.kv a.cv) := by rw [ht.block _ hpw d1]; exact hN
  refine h.upd ?_ ⟨heap_setNode0 _ hN1, hBp, ownsRow_same hown fun k hk => Below.heap_setCell _ _ _ _ fun e => hkp (by rw [hk]; exact congrArg some e), ownsRow_same hC fun k hk => ?_⟩ (ft_mk hkp d2 hkc) (fun k hk => ?_) (h.one a (List.mem_cons_self ..))
  · exact Touch.setCell (S := (· ∈ a.ft)) (ht.mono fun k _ hk => by simp [NS.ft, hk]) _ (fun _ => by simp [NS.ft]) _
  · rw [Below.heap_setCell _ _ _ _ fun e => d2 (by rw [hk]; exact congrArg some e), ht.block k (ownsRow_lt hC hk).2 fun e => d3 k e hk]
  · simp only [NS.ft, List.mem_cons, List.mem_append, Option.mem_toList] at hk ⊢
    rcases hk with hk | hk | hk
    · exact .inl (.inl hk)
    · rcases hpl with e | ⟨k', hk', hkw⟩
      · exact .inl (.inr (.inl (by rw [← e]; exact hk)))
      · rw [hk'] at hk; simp at hk; exact .inr (by omega)
    · exact .inl (.inr (.inr hk))

/-- The head's children are set anew. -/
theorem St.kids {B : Nat} {S : Nat → Prop} {w0 w w1 : World} {a : NS} {l : List NS} (h : St B S w0 w (a :: l)) {cv' : Value} {ps' : List Value} (hown : w1.ownsRow B 27 1 cv' ps'.length ps') (ht : Touch (fun k => a.cv.ownBlock = some k) w w1)
    (hpl : cv'.ownBlock = a.cv.ownBlock ∨ ∃ k, cv'.ownBlock = some k ∧ w.heap.size ≤ k) (hone : ∀ u ∈ ps', u.oneCell' = true) : St B S w0 (w1.setCell ⟨a.p, 1, none⟩ cv') (⟨a.p, a.kv, cv', a.ks, ps'⟩ :: l) := by
  obtain ⟨hN, hBp, hK, hC⟩ := h.nd a (List.mem_cons_self ..)
  obtain ⟨d1, d2, d3⟩ := ft_apart h.head_nodup
  have hpw := lt_of_heap hN
  have hkp : cv'.ownBlock ≠ some a.p := by
    rcases hpl with e | ⟨k, hk, hkw⟩
    · rw [e]; exact d2
    · rw [hk]; simp; omega
  have hkc : ∀ k, a.kv.ownBlock = some k → cv'.ownBlock ≠ some k := fun k hk hc => by
    rcases hpl with e | ⟨k', hk', hkw⟩
    · exact d3 k hk (by rw [← e]; exact hc)
    · rw [hk'] at hc; simp at hc; have := (ownsRow_lt hK hk).2; omega
  have hN1 : w1.heap[a.p]? = some (nodeObj a.kv a.cv) := by rw [ht.block _ hpw d2]; exact hN
  refine h.upd ?_ ⟨heap_setNode1 _ hN1, hBp, ownsRow_same hK fun k hk => ?_, ownsRow_same hown fun k hk => Below.heap_setCell _ _ _ _ fun e => hkp (by rw [hk]; exact congrArg some e)⟩ (ft_mk d1 hkp hkc) (fun k hk => ?_) hone
  · exact Touch.setCell (S := (· ∈ a.ft)) (ht.mono fun k _ hk => by simp [NS.ft, hk]) _ (fun _ => by simp [NS.ft]) _
  · rw [Below.heap_setCell _ _ _ _ fun e => d1 (by rw [hk]; exact congrArg some e), ht.block k (ownsRow_lt hK hk).2 fun e => d3 k hk e]
  · simp only [NS.ft, List.mem_cons, List.mem_append, Option.mem_toList] at hk ⊢
    rcases hk with hk | hk | hk
    · exact .inl (.inl hk)
    · exact .inl (.inr (.inl hk))
    · rcases hpl with e | ⟨k', hk', hkw⟩
      · exact .inl (.inr (.inr (by rw [← e]; exact hk)))
      · rw [hk'] at hk; simp at hk; exact .inr (by omega)

/-- One of the head's keys is set anew. -/
theorem St.setKey {B : Nat} {S : Nat → Prop} {w0 w : World} {a : NS} {l : List NS} (h : St B S w0 w (a :: l)) {g i : Nat} (hg : a.kv.ownBlock = some g) (hi : i < a.ks.length) (y : ByteArray) :
    St B S w0 (w.setCell ⟨g, i, none⟩ (.string y)) (⟨a.p, a.kv, a.cv, a.ks.set i y, a.ps⟩ :: l) := by
  obtain ⟨hN, hBp, hK, hC⟩ := h.nd a (List.mem_cons_self ..)
  obtain ⟨d1, d2, d3⟩ := ft_apart h.head_nodup
  have hgp : g ≠ a.p := fun e => d1 (by rw [hg, e])
  rcases hK.2 with ⟨e, _⟩ | ⟨g', cap, cur, e, hBg, hcur, h1, h2, h3, h4⟩
  · rw [e] at hg; simp [Value.ownBlock] at hg
  · obtain rfl : g' = g := by rw [e] at hg; simpa [ownBlock_some] using hg
    simp only [Nat.mul_one] at h3 h4
    have hset := setCell_eq_setRow w g' i cur 9 (0, 0) (.string y) hcur
    refine h.upd ?_ ⟨?_, hBp, ⟨by simp [strs], .inr ⟨g', cap, cur.setIfInBounds i (.string y), by simpa using e, hBg, by rw [hset]; exact setRow_heap w g' _ _ 9 (0, 0) hcur, by simpa using h1, h2, by simpa using h3, ?_⟩⟩, ownsRow_same hC fun k hk => ?_⟩ (ft_mk d1 d2 d3) (fun k hk => .inl (by simpa [NS.ft] using hk)) (h.one a (List.mem_cons_self ..))
    · exact Touch.setCell (S := (· ∈ a.ft)) (Touch.refl _ _) _ (fun _ => by simp [NS.ft, hg]) _
    · show (w.setCell _ _).heap[a.p]? = _
      rw [Below.heap_setCell _ _ _ _ fun e => hgp e.symm]; exact hN
    · simp only [List.length_set, Nat.mul_one, Array.toList_setIfInBounds]
      rw [List.take_set, h4]
      simp [strs, List.map_set]
    · exact Below.heap_setCell _ _ _ _ fun e => d3 k (by rw [hg]; exact congrArg some e.symm) hk

/-- What is read of a node. -/
theorem St.head {B : Nat} {S : Nat → Prop} {w0 w : World} {a : NS} {l : List NS} (h : St B S w0 w (a :: l)) : w.cell? ⟨a.p, 0, none⟩ = some a.kv ∧ w.cell? ⟨a.p, 1, none⟩ = some a.cv ∧ (∀ o, w.frozen? ⟨a.p, o, none⟩ = false) ∧ a.p < w.heap.size ∧
    (∃ g c, a.kv = .slice g a.ks.length c ∧ a.ks.length ≤ c ∧ c ≤ maxLen) ∧ (∃ g c, a.cv = .slice g a.ps.length c ∧ a.ps.length ≤ c ∧ c ≤ maxLen) := by
  obtain ⟨hN, hBp, hK, hC⟩ := h.nd a (List.mem_cons_self ..)
  exact ⟨cell_node0 hN, cell_node1 hN, fun o => frozen_node hN, lt_of_heap hN, ownsRow_slice hK, ownsRow_slice hC⟩

theorem St.keyAt {B : Nat} {S : Nat → Prop} {w0 w : World} {a : NS} {l : List NS} (h : St B S w0 w (a :: l)) {i : Nat} (hi : i < a.ks.length) : ∃ g c, a.kv = .slice (some ⟨g, 0, none⟩) a.ks.length c ∧ a.kv.ownBlock = some g ∧ (∀ o, w.frozen? ⟨g, o, none⟩ = false) ∧ g < w.heap.size ∧ w.cell? ⟨g, i, none⟩ = some (.string a.ks[i]) := by
  obtain ⟨hN, hBp, hK, hC⟩ := h.nd a (List.mem_cons_self ..)
  obtain ⟨g, c, he, _, _, hg, hf, hc⟩ := ownsRow_cell hK (by omega)
  refine ⟨g, c, he, hg, fun o => ?_, (ownsRow_lt hK hg).2, hc i _ (by simp [strs, hi])⟩
  rcases hK.2 with ⟨e, _⟩ | ⟨g', cap, cur, e, _, hcur, _⟩
  · rw [e] at hg; simp [Value.ownBlock] at hg
  · obtain rfl : g' = g := by rw [e] at hg; simpa [ownBlock_some] using hg
    simp [World.frozen?, hcur]

theorem St.kidAt {B : Nat} {S : Nat → Prop} {w0 w : World} {a : NS} {l : List NS} (h : St B S w0 w (a :: l)) {i : Nat} (hi : i < a.ps.length) : ∃ g c, a.cv = .slice (some ⟨g, 0, none⟩) a.ps.length c ∧ a.cv.ownBlock = some g ∧ g < w.heap.size ∧ w.cell? ⟨g, i, none⟩ = some a.ps[i] := by
  obtain ⟨hN, hBp, hK, hC⟩ := h.nd a (List.mem_cons_self ..)
  obtain ⟨g, c, he, _, _, hg, hf, hc⟩ := ownsRow_cell hC (by omega)
  exact ⟨g, c, he, hg, (ownsRow_lt hC hg).2, hc i _ (List.getElem?_eq_getElem hi)⟩

/-- A call that gives the head's new keys; they are stored behind it. -/
def StepK (B : Nat) (S : Nat → Prop) (w0 : World) (a : NS) (l : List NS) (ks' : List ByteArray) (e : Ending) (w' : World) : Prop :=
  ∃ g c, e = .returned (.slice g ks'.length c) ∧ w'.cell? ⟨a.p, 0, none⟩ = some a.kv ∧ w'.frozen? ⟨a.p, 0, none⟩ = false ∧ St B S w0 (w'.setCell ⟨a.p, 0, none⟩ (.slice g ks'.length c)) (⟨a.p, .slice g ks'.length c, a.cv, ks', a.ps⟩ :: l)

def StepC (B : Nat) (S : Nat → Prop) (w0 : World) (a : NS) (l : List NS) (ps' : List Value) (e : Ending) (w' : World) : Prop :=
  ∃ g c, e = .returned (.slice g ps'.length c) ∧ w'.cell? ⟨a.p, 1, none⟩ = some a.cv ∧ w'.frozen? ⟨a.p, 1, none⟩ = false ∧ St B S w0 (w'.setCell ⟨a.p, 1, none⟩ (.slice g ps'.length c)) (⟨a.p, a.kv, .slice g ps'.length c, a.ks, ps'⟩ :: l)

theorem St.stepK {B : Nat} {S : Nat → Prop} {w0 w w1 : World} {a : NS} {l : List NS} (h : St B S w0 w (a :: l)) {kv' : Value} {ks' : List ByteArray} (hown : w1.ownsRow B 9 1 kv' ks'.length (strs ks')) (ht : Touch (fun k => a.kv.ownBlock = some k) w w1)
    (hpl : kv'.ownBlock = a.kv.ownBlock ∨ ∃ k, kv'.ownBlock = some k ∧ w.heap.size ≤ k) : StepK B S w0 a l ks' (.returned kv') w1 := by
  obtain ⟨g, c, rfl, _, _⟩ := ownsRow_slice hown
  obtain ⟨hN, hBp, hK, hC⟩ := h.nd a (List.mem_cons_self ..)
  have hN1 : w1.heap[a.p]? = some (nodeObj a.kv a.cv) := by rw [ht.block _ (lt_of_heap hN) (ft_apart h.head_nodup).1]; exact hN
  exact ⟨g, c, rfl, cell_node0 hN1, frozen_node hN1, h.keys hown ht hpl⟩

theorem St.stepC {B : Nat} {S : Nat → Prop} {w0 w w1 : World} {a : NS} {l : List NS} (h : St B S w0 w (a :: l)) {cv' : Value} {ps' : List Value} (hown : w1.ownsRow B 27 1 cv' ps'.length ps') (ht : Touch (fun k => a.cv.ownBlock = some k) w w1)
    (hpl : cv'.ownBlock = a.cv.ownBlock ∨ ∃ k, cv'.ownBlock = some k ∧ w.heap.size ≤ k) (hone : ∀ u ∈ ps', u.oneCell' = true) : StepC B S w0 a l ps' (.returned cv') w1 := by
  obtain ⟨g, c, rfl, _, _⟩ := ownsRow_slice hown
  obtain ⟨hN, hBp, hK, hC⟩ := h.nd a (List.mem_cons_self ..)
  have hN1 : w1.heap[a.p]? = some (nodeObj a.kv a.cv) := by rw [ht.block _ (lt_of_heap hN) (ft_apart h.head_nodup).2.1]; exact hN
  exact ⟨g, c, rfl, cell_node1 hN1, frozen_node hN1, h.kids hown ht hpl hone⟩

theorem St.size {B : Nat} {S : Nat → Prop} {w0 w : World} {a : NS} {l : List NS} (h : St B S w0 w (a :: l)) : B ≤ w.heap.size := by
  obtain ⟨hN, hBp, _⟩ := h.nd a (List.mem_cons_self ..)
  have := lt_of_heap hN; omega

/-- slices.Insert(a.keys, 0, y) -/
theorem St.ins0 {B : Nat} {S : Nat → Prop} {w0 w : World} {a : NS} {l : List NS} (h : St B S w0 w (a :: l)) (y : ByteArray) (hl : a.ks.length ≤ 1000) : Calls Try.prog 34 #[a.kv, .int .i64 0, .slice (some ⟨w.heap.size, 0, none⟩) 1 1] (w.alloc (.cells #[.string y] 9)) (StepK B S w0 a l (y :: a.ks)) := by
  obtain ⟨hN, hBp, hK, hC⟩ := h.nd a (List.mem_cons_self ..)
  have hs := h.size
  refine (insS B a.kv (strs a.ks) 0 w.heap.size (.string y) _ (by omega) (by rw [strs_length]; omega) (by simp; omega) (by rw [strs_length]; exact hK.alloc _) (strs_oneCell _) (heap_new w _) (ownsRow_ne hK (Nat.le_refl _)) rfl).mono ?_
  rintro e w1 ⟨v', rfl, hown, ht, k, hk, hpl⟩
  refine h.stepK (by rw [strs_length] at hown; simpa [strs] using hown) ?_ ?_
  · exact (((Touch.refl (fun k => a.kv.ownBlock = some k) w).alloc _).trans ht fun _ _ h => h)
  · rcases hpl with e | e
    · exact .inl (by rw [hk, e])
    · exact .inr ⟨k, hk, by simp at e; omega⟩

theorem St.insP0 {B : Nat} {S : Nat → Prop} {w0 w : World} {a : NS} {l : List NS} (h : St B S w0 w (a :: l)) (u : Value) (hu : u.oneCell' = true) (hl : a.ps.length ≤ 1000) : Calls Try.prog 35 #[a.cv, .int .i64 0, .slice (some ⟨w.heap.size, 0, none⟩) 1 1] (w.alloc (.cells #[u] 27)) (StepC B S w0 a l (u :: a.ps)) := by
  obtain ⟨hN, hBp, hK, hC⟩ := h.nd a (List.mem_cons_self ..)
  have hs := h.size
  have ho := h.one a (List.mem_cons_self ..)
  refine (insP B a.cv a.ps 0 w.heap.size u _ (by omega) (by omega) (by simp; omega) (hC.alloc _) ho (heap_new w _) (ownsRow_ne hC (Nat.le_refl _)) hu).mono ?_
  rintro e w1 ⟨v', rfl, hown, ht, k, hk, hpl⟩
  refine h.stepC (by simpa using hown) ?_ ?_ (by intro x hx; rcases List.mem_cons.1 hx with rfl | hx; exact hu; exact ho x hx)
  · exact (((Touch.refl (fun k => a.cv.ownBlock = some k) w).alloc _).trans ht fun _ _ h => h)
  · rcases hpl with e | e
    · exact .inl (by rw [hk, e])
    · exact .inr ⟨k, hk, by simp at e; omega⟩

/-- slices.Delete(a.keys, i, i+1) -/
theorem St.del {B : Nat} {S : Nat → Prop} {w0 w : World} {a : NS} {l : List NS} (h : St B S w0 w (a :: l)) {i : Nat} (hi : i < a.ks.length) : Calls Try.prog 38 #[a.kv, .int .i64 i, .int .i64 ((i : Int) + 1)] w (StepK B S w0 a l (a.ks.take i ++ a.ks.drop (i + 1))) := by
  obtain ⟨hN, hBp, hK, hC⟩ := h.nd a (List.mem_cons_self ..)
  refine (delS B a.kv (strs a.ks) i w (by rw [strs_length]; exact hi) (by rw [strs_length]; exact hK) (strs_oneCell _)).mono ?_
  rintro e w1 ⟨v', rfl, hown, ht, hpl⟩
  refine h.stepK ?_ ht (.inl hpl)
  have e1 : (strs a.ks).take i ++ (strs a.ks).drop (i + 1) = strs (a.ks.take i ++ a.ks.drop (i + 1)) := by simp [strs, List.map_take, List.map_drop]
  rw [e1, strs_length] at hown
  have e2 : (a.ks.take i ++ a.ks.drop (i + 1)).length = a.ks.length - 1 := by simp; omega
  rw [e2]; exact hown

theorem St.delP {B : Nat} {S : Nat → Prop} {w0 w : World} {a : NS} {l : List NS} (h : St B S w0 w (a :: l)) {i : Nat} (hi : i < a.ps.length) : Calls Try.prog 46 #[a.cv, .int .i64 i, .int .i64 ((i : Int) + 1)] w (StepC B S w0 a l (a.ps.take i ++ a.ps.drop (i + 1))) := by
  obtain ⟨hN, hBp, hK, hC⟩ := h.nd a (List.mem_cons_self ..)
  have ho := h.one a (List.mem_cons_self ..)
  refine (Go.Proofs.Qxb6604036a.delP B a.cv a.ps i w hi hC ho).mono ?_
  rintro e w1 ⟨v', rfl, hown, ht, hpl⟩
  refine h.stepC ?_ ht (.inl hpl) (fun x hx => ?_)
  · have e2 : (a.ps.take i ++ a.ps.drop (i + 1)).length = a.ps.length - 1 := by simp; omega
    rw [e2]; exact hown
  · rcases List.mem_append.1 hx with hx | hx
    · exact ho x (List.mem_of_mem_take hx)
    · exact ho x (List.mem_of_mem_drop hx)

/-- append(a.keys, y) -/
theorem St.app1 {B : Nat} {S : Nat → Prop} {w0 w : World} {a : NS} {l : List NS} (h : St B S w0 w (a :: l)) (y : ByteArray) (hl : a.ks.length ≤ 1000) :
    ∃ v' w1, (Builtin.append_ #[23, 23] 23 #[a.kv, .slice (some ⟨w.heap.size, 0, none⟩) 1 1]).run Try.prog (w.alloc (.cells #[.string y] 9)) = .ok v' w1 ∧ StepK B S w0 a l (a.ks ++ [y]) (.returned v') w1 := by
  obtain ⟨hN, hBp, hK, hC⟩ := h.nd a (List.mem_cons_self ..)
  have hs := h.size
  obtain ⟨v', w1, hr, ha⟩ := appS_one (w.alloc (.cells #[.string y] 9)) B 23 a.kv (strs a.ks) (.string y) w.heap.size 1 (by rw [strs_length]; exact hK.alloc _) (by rw [cell_of_row _ _ 0 #[.string y] 9 (0, 0) (heap_new w _)]; rfl) rfl (by rw [strs_length]; omega) (by simp; omega)
  refine ⟨v', w1, hr, h.stepK ?_ ?_ ?_⟩
  · have := ha.owns
    rw [strs_length] at this
    simpa [strs] using this
  · exact (((Touch.refl (fun k => a.kv.ownBlock = some k) w).alloc _).trans ha.touch fun _ _ h => h)
  · rcases ha.place with e | ⟨k, hk, hks⟩
    · exact .inl e
    · exact .inr ⟨k, hk, by simp at hks; omega⟩

theorem St.appP1 {B : Nat} {S : Nat → Prop} {w0 w : World} {a : NS} {l : List NS} (h : St B S w0 w (a :: l)) (u : Value) (hu : u.oneCell' = true) (hl : a.ps.length ≤ 1000) :
    ∃ v' w1, (Builtin.append_ #[47, 47] 47 #[a.cv, .slice (some ⟨w.heap.size, 0, none⟩) 1 1]).run Try.prog (w.alloc (.cells #[u] 27)) = .ok v' w1 ∧ StepC B S w0 a l (a.ps ++ [u]) (.returned v') w1 := by
  obtain ⟨hN, hBp, hK, hC⟩ := h.nd a (List.mem_cons_self ..)
  have hs := h.size
  have ho := h.one a (List.mem_cons_self ..)
  obtain ⟨v', w1, hr, ha⟩ := appP_one (w.alloc (.cells #[u] 27)) B 47 a.cv a.ps u w.heap.size 1 (hC.alloc _) (by rw [cell_of_row _ _ 0 #[u] 27 (0, 0) (heap_new w _)]; rfl) hu (by omega) (by simp; omega)
  refine ⟨v', w1, hr, h.stepC (by simpa using ha.owns) ?_ ?_ (fun x hx => ?_)⟩
  · exact (((Touch.refl (fun k => a.cv.ownBlock = some k) w).alloc _).trans ha.touch fun _ _ h => h)
  · rcases ha.place with e | ⟨k, hk, hks⟩
    · exact .inl e
    · exact .inr ⟨k, hk, by simp at hks; omega⟩
  · rcases List.mem_append.1 hx with hx | hx
    · exact ho x hx
    · rw [List.mem_singleton.1 hx]; exact hu

end Go.Proofs.Qxb6604036a
