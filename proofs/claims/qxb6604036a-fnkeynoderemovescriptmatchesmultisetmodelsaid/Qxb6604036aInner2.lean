/- Inner nodes: a node of 65 keys split in two. -/
import Derived.Test.Qxb6604036aInner1
namespace Go.Proofs.Qxb6604036a
open Go.RowKit Plain
set_option linter.unusedVariables false

theorem ownBlock_some (g o n c : Nat) : (Value.slice (some ⟨g, o, none⟩) n c).ownBlock = some g := rfl

theorem Over.split {B h mn N : Nat} {t t' : AT (h + 1)} {x m : ByteArray} {w V Wf : World} (o : Over B h t t' x w V) (hok : okT (h + 1) mn t) (h64 : t.1.ks.length = 64)
    {kb cb k6 c' cc c6 : Nat} {v' : Value} (hkb : t'.1.kv.ownBlock = some kb) (hcb : t'.1.cv.ownBlock = some cb) (hN : V.heap.size = N) (hBV : B ≤ N) (hwV : w.heap.size ≤ N) (hm : t'.1.ks[32]? = some m)
    (hp : Wf.heap[t'.1.p]? = some (nodeObj (.slice (some ⟨kb, 0, none⟩) 32 c') (.slice (some ⟨cb, 0, none⟩) 33 cc)))
    (hr : Wf.heap[N + 1]? = some (nodeObj (.slice (some ⟨N, 0, none⟩) 32 c6) v'))
    (hk1 : Wf.ownsRow B 9 1 (.slice (some ⟨kb, 0, none⟩) 32 c') 32 (strs (t'.1.ks.take 32)))
    (hk2 : Wf.ownsRow B 9 1 (.slice (some ⟨N, 0, none⟩) 32 c6) 32 (strs (t'.1.ks.drop 33)))
    (hc1 : Wf.ownsRow B 27 1 (.slice (some ⟨cb, 0, none⟩) 33 cc) 33 ((t'.2.take 33).map (ptrV h)))
    (hc2 : Wf.ownsRow B 27 1 v' 33 ((t'.2.drop 33).map (ptrV h))) (hv' : v'.ownBlock = some k6) (hk6 : N + 2 ≤ k6)
    (hkeep : ∀ k, k < N → k ≠ t'.1.p → k ≠ kb → k ≠ cb → Wf.heap[k]? = V.heap[k]?) (hT : Touch (· ∈ foot (h + 1) t) w Wf) :
    InsertPost B (h + 1) t x mn w (.returned (.tuple #[.string m, .pointer (some ⟨N + 1, 0, none⟩)])) Wf := by
  have hl65 : t'.1.ks.length = 65 := by have := o.keys; omega
  have hl66 : t'.2.length = 66 := by have := o.kids; omega
  have hlt := Lies.lt (h + 1) _ o.lies
  have hnd := o.nodup
  have hsub := o.sub
  have ef : foot (h + 1) t' = [t'.1.p, kb, cb] ++ ((t'.2.take 33).flatMap (foot h) ++ (t'.2.drop 33).flatMap (foot h)) := by
    rw [← List.flatMap_append, List.take_append_drop]
    show t'.1.p :: (t'.1.kv.ownBlock.toList ++ (t'.1.cv.ownBlock.toList ++ t'.2.flatMap (foot h))) = _
    rw [hkb, hcb]; rfl
  rw [ef] at hlt hnd hsub
  have q1 := List.nodup_append.1 hnd
  have e1 : t'.1.ks = t'.1.ks.take 32 ++ m :: t'.1.ks.drop 33 := by
    have h32 : 32 < t'.1.ks.length := by omega
    rw [List.getElem?_eq_getElem h32] at hm
    simp at hm
    rw [← hm, ← List.drop_eq_getElem_cons h32, List.take_append_drop]
  have hl1 : (t'.1.ks.take 32).length = 32 := by simp; omega
  have hl2 : (t'.1.ks.drop 33).length = 32 := by simp; omega
  have hl3 : (t'.2.take 33).length = 33 := by simp; omega
  have hl4 : (t'.2.drop 33).length = 33 := by simp; omega
  have kidsL : ∀ d ∈ t'.2, Lies B Wf h d := fun d hd => by
    have hld := o.lies.2.2.2.2.2 d hd
    refine Lies.same h d hld fun k hk => ?_
    have hin : k ∈ (t'.2.take 33).flatMap (foot h) ++ (t'.2.drop 33).flatMap (foot h) := by
      rw [← List.flatMap_append, List.take_append_drop]
      exact List.mem_flatMap.2 ⟨d, hd, hk⟩
    have hkN : k < N := by have := (hlt k (List.mem_append.2 (.inr hin))).2; omega
    exact hkeep k hkN (fun e => q1.2.2 _ (by simp) _ hin e.symm) (fun e => q1.2.2 _ (by simp) _ hin e.symm) (fun e => q1.2.2 _ (by simp) _ hin e.symm)
  have hBp := o.lies.2.1
  have et : foot (h + 1) ((⟨t'.1.p, .slice (some ⟨kb, 0, none⟩) 32 c', .slice (some ⟨cb, 0, none⟩) 33 cc, t'.1.ks.take 32⟩, t'.2.take 33) : AT (h + 1)) = [t'.1.p, kb, cb] ++ (t'.2.take 33).flatMap (foot h) := by simp [foot, ownBlock_some]
  have er : foot (h + 1) ((⟨N + 1, .slice (some ⟨N, 0, none⟩) 32 c6, v', t'.1.ks.drop 33⟩, t'.2.drop 33) : AT (h + 1)) = [N + 1, N, k6] ++ (t'.2.drop 33).flatMap (foot h) := by simp [foot, hv', ownBlock_some]
  refine ⟨hT, .inr ⟨(⟨t'.1.p, .slice (some ⟨kb, 0, none⟩) 32 c', .slice (some ⟨cb, 0, none⟩) 33 cc, t'.1.ks.take 32⟩, t'.2.take 33), (⟨N + 1, .slice (some ⟨N, 0, none⟩) 32 c6, v', t'.1.ks.drop 33⟩, t'.2.drop 33), m, rfl, o.p, ⟨hp, hBp, ?_, ?_, ⟨cb, rfl⟩, fun d hd => kidsL d (List.mem_of_mem_take hd)⟩,
    ⟨hr, ?_, ?_, ?_, ⟨k6, hv'⟩, fun d hd => kidsL d (List.mem_of_mem_drop hd)⟩, ?_, ?_, ?_, ?_, ?_, ?_⟩⟩
  · simp only [hl1]; exact hk1
  · simp only [hl3]; exact hc1
  · show B ≤ N + 1; omega
  · simp only [hl2]; exact hk2
  · simp only [hl4]; exact hc2
  · rw [et, er]
    have hall : ∀ k ∈ [t'.1.p, kb, cb] ++ ((t'.2.take 33).flatMap (foot h) ++ (t'.2.drop 33).flatMap (foot h)), k < N := fun k hk => by have := (hlt k hk).2; omega
    have r1 : ([t'.1.p, kb, cb] ++ (t'.2.take 33).flatMap (foot h) ++ (t'.2.drop 33).flatMap (foot h)).Nodup := by rw [List.append_assoc]; exact hnd
    rw [List.nodup_append] at r1 ⊢
    refine ⟨r1.1, ?_, fun u hu v hv e => ?_⟩
    · rw [List.nodup_append]
      refine ⟨by simp; omega, r1.2.1, fun u hu v hv e => ?_⟩
      have := hall v (List.mem_append.2 (.inr (List.mem_append.2 (.inr hv))))
      simp at hu; omega
    · subst e
      rcases List.mem_append.1 hv with hv | hv
      · have : u < N := hall u (by rcases List.mem_append.1 hu with hu | hu; exact List.mem_append.2 (.inl hu); exact List.mem_append.2 (.inr (List.mem_append.2 (.inl hu))))
        simp at hv; omega
      · exact r1.2.2 u hu u hv rfl
  · rw [et, er]
    intro k hk
    simp only [List.mem_append] at hk
    rcases hk with (hk | hk) | hk | hk
    · exact hsub k (List.mem_append.2 (.inl hk))
    · exact hsub k (List.mem_append.2 (.inr (List.mem_append.2 (.inl hk))))
    · simp at hk; exact .inr (by omega)
    · exact hsub k (List.mem_append.2 (.inr (List.mem_append.2 (.inr hk))))
  · exact ⟨by simp only [hl1]; omega, by simp only [hl1]; omega, by simp only [hl1, hl3], fun d hd => o.okk d (List.mem_of_mem_take hd)⟩
  · exact ⟨by simp only [hl2]; omega, by simp only [hl2]; omega, by simp only [hl2, hl4], fun d hd => o.okk d (List.mem_of_mem_drop hd)⟩
  · rw [← o.order]
    show weave ((t'.2.take 33).map (inorder h)) (t'.1.ks.take 32) ++ m :: weave ((t'.2.drop 33).map (inorder h)) (t'.1.ks.drop 33) = weave (t'.2.map (inorder h)) t'.1.ks
    rw [← weave_split m _ _ _ _ (by simp; omega), ← e1, ← List.map_append, List.take_append_drop]
  · exact ⟨h64, o.cfull⟩

end Go.Proofs.Qxb6604036a
