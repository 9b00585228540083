/- ZZInsert (10), b1InsertAll (18): a tree built key by key. -/
import Derived.Test.Qxb6604036aInner
import Derived.Test.Qxb6604036aOrder
namespace Go.Proofs.Qxb6604036a
open Go.RowKit Plain
set_option linter.unusedVariables false
set_option linter.unusedSimpArgs false

set_option maxHeartbeats 400000 in
theorem insert10 (B h mn : Nat) (t : AT h) (x : ByteArray) (w : World) (hB : B ≤ w.heap.size) (hl : Lies B w h t) (hnd : (foot h t).Nodup) (hok : okT h mn t) (hs : Sorted sl (inorder h t)) :
    Calls Try.prog 10 #[.pointer (some ⟨(hd h t).p, 0, none⟩), .string x] w (InsertPost B h t x mn w) := by
  have hc : Hid (Calls Try.prog 31 #[.pointer (some ⟨(hd h t).p, 0, none⟩), .string x] w (InsertPost B h t x mn w)) := insert31 B x w hB h mn t hl hnd hok hs
  clear hl hnd hok hs
  go_enter Try.func10, Try.ntmps10
  go_wp2_with fail
  refine hc.out.mono ?_
  clear hc
  rintro e w1 hP
  have HP : Hid (InsertPost B h t x mn w e w1) := hP
  rcases hP.2 with ⟨t', rfl, _⟩ | ⟨t', r, m, rfl, _⟩
  · clear hP
    go_wp2
    go_ret2
    exact HP.out
  · clear hP
    go_wp2
    go_ret2
    exact HP.out

/-- The tree that stands after the keys 'ys' have been put in. -/
structure RootRel (B : Nat) (w : World) (h : Nat) (t : AT h) (ys : List ByteArray) (wr : World) : Prop where
  lies : Lies B wr h t
  nodup : (foot h t).Nodup
  ok : okT h (rootMin h) t
  sorted : Sorted sl (inorder h t)
  perm : (inorder h t).Perm ys
  below : Below B w wr
  size : B ≤ wr.heap.size

theorem Touch.below_foot {B h : Nat} {t : AT h} {w w' : World} (ht : Touch (· ∈ foot h t) w w') (hl : Lies B w h t) (hB : B ≤ w.heap.size) : Below B w w' :=
  ht.below hB fun k hk => (Lies.lt h t hl k hk).1

theorem RootRel.keep {B h : Nat} {w wr w1 : World} {t t' : AT h} {ys : List ByteArray} {x : ByteArray} (hR : RootRel B w h t ys wr) (hT : Touch (· ∈ foot h t) wr w1) (hl : Lies B w1 h t') (hnd : (foot h t').Nodup) (hok : okT h (rootMin h) t') (hord : inorder h t' = sins sl x (inorder h t)) :
    RootRel B w h t' (x :: ys) w1 := by
  refine ⟨hl, hnd, hok, by rw [hord]; exact sins_sorted sto x _ hR.sorted, by rw [hord]; exact (sins_perm x _).trans (hR.perm.cons x), hR.below.trans (hT.below_foot hR.lies hR.size), Nat.le_trans hR.size hT.size⟩

theorem RootRel.grow {B h : Nat} {w wr w1 : World} {t t' r : AT h} {ys : List ByteArray} {x m : ByteArray} (hR : RootRel B w h t ys wr) (hT : Touch (· ∈ foot h t) wr w1) (hl : Lies B w1 h t') (hlr : Lies B w1 h r) (hnd : (foot h t' ++ foot h r).Nodup)
    (hok : okT h 32 t') (hokr : okT h 32 r) (hord : inorder h t' ++ m :: inorder h r = sins sl x (inorder h t)) {w2 : World}
    (hw2 : w2 = ((w1.alloc (.cells #[.string m] 9)).alloc (.cells #[ptrV h t', ptrV h r] 27)).alloc (nodeObj (.slice (some ⟨w1.heap.size, 0, none⟩) 1 1) (.slice (some ⟨w1.heap.size + 1, 0, none⟩) 2 2))) :
    RootRel B w (h + 1) (⟨w1.heap.size + 2, .slice (some ⟨w1.heap.size, 0, none⟩) 1 1, .slice (some ⟨w1.heap.size + 1, 0, none⟩) 2 2, [m]⟩, [t', r]) (x :: ys) w2 := by
  have hT1 := hT.size
  have hB1 : B ≤ w1.heap.size := Nat.le_trans hR.size hT1
  have hold : ∀ k, k < w1.heap.size → w2.heap[k]? = w1.heap[k]? := fun k hk => by
    rw [hw2, Below.heap_alloc _ _ _ (by simp; omega), Below.heap_alloc _ _ _ (by simp; omega), Below.heap_alloc _ _ _ hk]
  have h0 : w2.heap[w1.heap.size]? = some (.cells #[.string m] 9 (0, 0)) := by
    rw [hw2, Below.heap_alloc _ _ _ (by simp; omega), Below.heap_alloc _ _ _ (by simp)]; exact heap_new _ _
  have h1 : w2.heap[w1.heap.size + 1]? = some (.cells #[ptrV h t', ptrV h r] 27 (0, 0)) := by
    rw [hw2, Below.heap_alloc _ _ _ (by simp)]
    have := heap_new (w1.alloc (.cells #[.string m] 9)) (.cells #[ptrV h t', ptrV h r] 27 (0, 0))
    simpa using this
  have h2 : w2.heap[w1.heap.size + 2]? = some (nodeObj (.slice (some ⟨w1.heap.size, 0, none⟩) 1 1) (.slice (some ⟨w1.heap.size + 1, 0, none⟩) 2 2)) := by
    rw [hw2]
    have := heap_new ((w1.alloc (.cells #[.string m] 9)).alloc (.cells #[ptrV h t', ptrV h r] 27)) (nodeObj (.slice (some ⟨w1.heap.size, 0, none⟩) 1 1) (.slice (some ⟨w1.heap.size + 1, 0, none⟩) 2 2))
    simpa using this
  have hlt := Lies.lt h t' hl
  have hltr := Lies.lt h r hlr
  have hin : inorder (h + 1) ((⟨w1.heap.size + 2, .slice (some ⟨w1.heap.size, 0, none⟩) 1 1, .slice (some ⟨w1.heap.size + 1, 0, none⟩) 2 2, [m]⟩, [t', r]) : AT (h + 1)) = sins sl x (inorder h t) := by
    rw [← hord]; simp [inorder, weave]
  refine ⟨⟨h2, ?_, ?_, ?_, ⟨_, rfl⟩, ?_⟩, ?_, ?_, ?_, ?_, ?_, ?_⟩
  · show B ≤ w1.heap.size + 2; omega
  · exact ⟨rfl, .inr ⟨w1.heap.size, 1, _, rfl, hB1, h0, Nat.le_refl _, by decide, rfl, rfl⟩⟩
  · exact ⟨rfl, .inr ⟨w1.heap.size + 1, 2, _, rfl, by omega, h1, Nat.le_refl _, by decide, rfl, rfl⟩⟩
  · intro d hd
    simp at hd
    rcases hd with rfl | rfl
    · exact Lies.same h d hl fun k hk => hold k (hlt k hk).2
    · exact Lies.same h d hlr fun k hk => hold k (hltr k hk).2
  · have e : foot (h + 1) ((⟨w1.heap.size + 2, .slice (some ⟨w1.heap.size, 0, none⟩) 1 1, .slice (some ⟨w1.heap.size + 1, 0, none⟩) 2 2, [m]⟩, [t', r]) : AT (h + 1)) = [w1.heap.size + 2, w1.heap.size, w1.heap.size + 1] ++ (foot h t' ++ foot h r) := by simp [foot, ownBlock_some]
    rw [e, List.nodup_append]
    refine ⟨by simp, hnd, fun a ha b hb hab => ?_⟩
    have hbl : b < w1.heap.size := by
      rcases List.mem_append.1 hb with hb | hb
      · exact (hlt b hb).2
      · exact (hltr b hb).2
    simp at ha; omega
  · refine ⟨by simp [rootMin], by simp, by simp, ?_⟩
    intro d hd
    simp at hd
    rcases hd with rfl | rfl
    · exact hok
    · exact hokr
  · rw [hin]; exact sins_sorted sto x _ hR.sorted
  · rw [hin]; exact (sins_perm x _).trans (hR.perm.cons x)
  · refine hR.below.trans ((hT.below_foot hR.lies hR.size).trans ?_)
    rw [hw2]
    exact (((Below.refl _ _).alloc hB1 _).alloc (by simp; omega) _).alloc (by simp; omega) _
  · rw [hw2]; simp; omega

def AllPost (B n : Nat) (S : Nat → ByteArray) (w : World) (e : Ending) (w' : World) : Prop :=
  ∃ h, ∃ t : AT h, ∃ ys, e = .returned (.pointer (some ⟨(hd h t).p, 0, none⟩)) ∧ RootRel B w h t ys w' ∧ ys.Perm ((List.range n).map S)

set_option maxHeartbeats 4000000 in
set_option maxRecDepth 100000 in
theorem all18 (B n : Nat) (a : Option Addr) (c : Nat) (S : Nat → ByteArray) (w : World) (hB : B ≤ w.heap.size) (h : Rd w a n c S) (hab : ∀ x, a = some x → 0 < n → x.block < B) :
    Calls Try.prog 18 #[.slice a n c] w (AllPost B n S w) := by
  obtain ⟨h1, h2, h3⟩ := h
  unfold maxLen at h2
  have H3 : Hid (0 < n → ∃ b off, a = some ⟨b, off, none⟩ ∧ ∀ k, k < n → w.cell? ⟨b, off + k, none⟩ = some (.string (S k))) := h3
  have HAB : Hid (∀ x, a = some x → 0 < n → x.block < B) := hab
  clear h3 hab
  have HS : Hid (RootRel B w 0 (⟨w.heap.size, .slice none 0 0, .slice none 0 0, []⟩ : Hd) [] (w.alloc (nodeObj (.slice none 0 0) (.slice none 0 0)))) := by
    refine ⟨⟨heap_new w _, hB, World.ownsRow_nil _ _ _ _, rfl⟩, by simp [foot, Value.ownBlock], ⟨by simp [rootMin], by simp⟩, by simp [inorder, Sorted], by simp [inorder], (Below.refl _ _).alloc hB _, by simp; omega⟩
  go_enter Try.func18, Try.ntmps18
  go_wp2_with (go_at_call 30; refine (mk30 _ _ _ _ _ _ _).mono ?_; rintro e w' ⟨rfl, rfl⟩)
  go_loopw [3, 4] (fun u3 u4 wr => ∃ k : Nat, k ≤ n ∧ u4 = .int .i64 k ∧ ∃ h, ∃ t : AT h, ∃ ys, u3 = .pointer (some ⟨(hd h t).p, 0, none⟩) ∧ RootRel B w h t ys wr ∧ ys.Perm ((List.range k).map S)) (fun _ u4 _ => n - (intOf u4).toNat)
  case atStart => exact ⟨0, by omega, rfl, 0, _, [], rfl, HS.out, by simp⟩
  case round =>
    obtain ⟨k, hk, rfl, h, t, ys, rfl, hR, hp⟩ := hrel
    have HR : Hid (RootRel B w h t ys wr ∧ ys.Perm ((List.range k).map S)) := ⟨hR, hp⟩
    clear hR hp
    by_cases hlt : k < n
    · obtain ⟨b, off, rfl, hc⟩ := H3.out (by omega)
      have hcell : wr.cell? ⟨b, off + k, none⟩ = some (.string (S k)) := by
        rw [← hc k hlt]
        exact World.cell?_of_block (HR.out.1.below.block b (HAB.out _ rfl (by omega)))
      have hcall : Hid (Calls Try.prog 10 #[.pointer (some ⟨(hd h t).p, 0, none⟩), .string (S k)] wr (InsertPost B h t (S k) (rootMin h) wr)) :=
        insert10 B h (rootMin h) t (S k) wr HR.out.1.size HR.out.1.lies HR.out.1.nodup HR.out.1.ok HR.out.1.sorted
      have hkI : (k : Int) < (n : Int) := by omega
      have hperm : Hid ((S k :: ys).Perm ((List.range (k + 1)).map S)) := by
        rw [show Hid ((S k :: ys).Perm ((List.range (k + 1)).map S)) = (S k :: ys).Perm ((List.range (k + 1)).map S) from rfl, List.range_succ, List.map_append]
        exact (HR.out.2.cons (S k)).trans (by simpa using (List.perm_append_comm (l₁ := [S k])))
      clear hc
      go_wp2_with fail
      refine hcall.out.mono ?_
      clear hcall
      rintro e w1 ⟨hT, hcase⟩
      rcases hcase with ⟨t', rfl, hpt, hl, hnd, _, hok, _, hord, _⟩ | ⟨t', r, m, rfl, hpt, hl, hlr, hnd, _, hok, hokr, hord, _⟩
      · have HR2 : Hid (RootRel B w h t' (S k :: ys) w1) := HR.out.1.keep hT hl hnd hok hord
        have HP2 : Hid ((hd h t').p = (hd h t).p) := hpt
        clear hT hl hnd hok hord hpt HR H3 HAB HS
        go_wp2
        go_roundw
        case rel => exact ⟨k + 1, by omega, by go_num, h, t', _, by rw [HP2.out], HR2.out, hperm.out⟩
        case measure => simp [intOf]; omega
      · have hptv : ptrV h t' = .pointer (some ⟨(hd h t).p, 0, none⟩) := by simp [ptrV, hpt]
        have HR2 : Hid (∀ w2, w2 = ((w1.alloc (.cells #[.string m] 9)).alloc (.cells #[.pointer (some ⟨(hd h t).p, 0, none⟩), .pointer (some ⟨(hd h r).p, 0, none⟩)] 27)).alloc (nodeObj (.slice (some ⟨w1.heap.size, 0, none⟩) 1 1) (.slice (some ⟨w1.heap.size + 1, 0, none⟩) 2 2)) →
            RootRel B w (h + 1) (⟨w1.heap.size + 2, .slice (some ⟨w1.heap.size, 0, none⟩) 1 1, .slice (some ⟨w1.heap.size + 1, 0, none⟩) 2 2, [m]⟩, [t', r]) (S k :: ys) w2) := fun w2 hw2 => HR.out.1.grow (w2 := w2) hT hl hlr hnd hok hokr hord (by rw [hptv]; exact hw2)
        rw [show ptrV h r = .pointer (some ⟨(hd h r).p, 0, none⟩) from rfl]
        clear hT hl hlr hnd hok hokr hord hpt hptv HR H3 HAB HS
        go_wp2_with (go_at_call 30; refine (mk30 _ _ _ _ _ _ _).mono ?_; rintro e w' ⟨rfl, rfl⟩)
        go_roundw
        case rel => exact ⟨k + 1, by omega, by go_num, h + 1, _, _, rfl, HR2.out _ rfl, hperm.out⟩
        case measure => simp [intOf]; omega
    · obtain rfl : k = n := by omega
      clear HS H3 HAB
      go_wp2
      go_ret
      exact ⟨h, t, ys, rfl, HR.out.1, HR.out.2⟩

end Go.Proofs.Qxb6604036a
