/- The tree of keyNodes in memory: what it is, how it lies, what it takes up. -/
import Derived.Test.Qxb6604036aNode
import Derived.Test.Qxb6604036aPlain
import Derived.Test.Qxb6604036aStr
namespace Go.Proofs.Qxb6604036a
open Go.RowKit Plain

/-- A node's own part: its block, its two fields, its keys. -/
structure Hd where
  p : Nat
  kv : Value
  cv : Value
  ks : List ByteArray

/-- A tree of height h + 1, with the blocks in which it lies. -/
def AT : Nat → Type
  | 0 => Hd
  | h + 1 => Hd × List (AT h)

def hd : (h : Nat) → AT h → Hd
  | 0, t => t
  | _ + 1, t => t.1

def ptrV (h : Nat) (t : AT h) : Value := .pointer (some ⟨(hd h t).p, 0, none⟩)

def inorder : (h : Nat) → AT h → List ByteArray
  | 0, t => t.ks
  | h + 1, t => weave (t.2.map (inorder h)) t.1.ks

/-- The shape: mn to 64 keys; one child more than keys; each child 32 to 64. -/
def okT : (h : Nat) → Nat → AT h → Prop
  | 0, mn, t => mn ≤ t.ks.length ∧ t.ks.length ≤ 64
  | h + 1, mn, t => mn ≤ t.1.ks.length ∧ t.1.ks.length ≤ 64 ∧ t.2.length = t.1.ks.length + 1 ∧ ∀ c ∈ t.2, okT h 32 c

/-- How many of a list's head are below x: the place that the search finds. -/
def lb (x : ByteArray) : List ByteArray → Nat
  | [] => 0
  | k :: ks => if sl k x then lb x ks + 1 else 0

/-- Every node on x's search path holds 64 keys. -/
def full : (h : Nat) → AT h → ByteArray → Prop
  | 0, t, _ => t.ks.length = 64
  | h + 1, t, x => t.1.ks.length = 64 ∧ ∀ c, t.2[lb x t.1.ks]? = some c → full h c x

def strs (ks : List ByteArray) : List Value := ks.map .string

/-- How it lies in memory, from block B on. -/
def Lies (B : Nat) (w : World) : (h : Nat) → AT h → Prop
  | 0, t => w.heap[t.p]? = some (nodeObj t.kv t.cv) ∧ B ≤ t.p ∧ w.ownsRow B 9 1 t.kv t.ks.length (strs t.ks) ∧ t.cv = .slice none 0 0
  | h + 1, t => w.heap[t.1.p]? = some (nodeObj t.1.kv t.1.cv) ∧ B ≤ t.1.p ∧ w.ownsRow B 9 1 t.1.kv t.1.ks.length (strs t.1.ks) ∧
      w.ownsRow B 27 1 t.1.cv t.2.length (t.2.map (ptrV h)) ∧ (∃ k, t.1.cv.ownBlock = some k) ∧ ∀ c ∈ t.2, Lies B w h c

/-- The blocks that it takes up. -/
def foot : (h : Nat) → AT h → List Nat
  | 0, t => t.p :: t.kv.ownBlock.toList
  | h + 1, t => t.1.p :: (t.1.kv.ownBlock.toList ++ (t.1.cv.ownBlock.toList ++ t.2.flatMap (foot h)))

theorem sto : STO sl := ⟨sl_irrefl, sl_trans, sl_total⟩

theorem strs_length (ks : List ByteArray) : (strs ks).length = ks.length := by simp [strs]
theorem strs_oneCell (ks : List ByteArray) : ∀ x ∈ strs ks, x.oneCell' = true := by
  intro x hx
  obtain ⟨k, _, rfl⟩ := List.mem_map.1 hx
  rfl
theorem ptrs_oneCell (h : Nat) (cs : List (AT h)) : ∀ x ∈ cs.map (ptrV h), x.oneCell' = true := by
  intro x hx
  obtain ⟨k, _, rfl⟩ := List.mem_map.1 hx
  rfl

/-- A row whose block is as it was is still owned. -/
theorem ownsRow_same {B e n : Nat} {v : Value} {xs : List Value} {w w' : World} (h : w.ownsRow B e 1 v n xs) (hb : ∀ k, v.ownBlock = some k → w'.heap[k]? = w.heap[k]?) : w'.ownsRow B e 1 v n xs := by
  refine ⟨h.1, ?_⟩
  rcases h.2 with hn | ⟨g, cap, cur, rfl, hB, hg, rest⟩
  · exact .inl hn
  · exact .inr ⟨g, cap, cur, rfl, hB, by rw [hb g rfl]; exact hg, rest⟩

theorem ownsRow_lt {B e n : Nat} {v : Value} {xs : List Value} {w : World} (h : w.ownsRow B e 1 v n xs) {k : Nat} (hk : v.ownBlock = some k) : B ≤ k ∧ k < w.heap.size := World.ownsRow.lt h k hk

theorem lt_of_heap {w : World} {k : Nat} {o : Obj} (h : w.heap[k]? = some o) : k < w.heap.size := (Array.getElem?_eq_some_iff.1 h).1

theorem foot_p : ∀ (h : Nat) (t : AT h), (hd h t).p ∈ foot h t
  | 0, _ => by simp [foot, hd]
  | _ + 1, _ => by simp [foot, hd]

/-- Whatever leaves its blocks leaves the tree. -/
theorem Lies.same {B : Nat} {w w' : World} : ∀ (h : Nat) (t : AT h), Lies B w h t → (∀ k ∈ foot h t, w'.heap[k]? = w.heap[k]?) → Lies B w' h t
  | 0, t, hl, hk => by
    obtain ⟨h1, h2, h3, h4⟩ := hl
    exact ⟨by rw [hk _ (by simp [foot])]; exact h1, h2, ownsRow_same h3 fun k hv => hk k (by simp [foot, hv]), h4⟩
  | h + 1, t, hl, hk => by
    obtain ⟨h1, h2, h3, h4, h5, h6⟩ := hl
    refine ⟨by rw [hk _ (by simp [foot])]; exact h1, h2, ownsRow_same h3 fun k hv => hk k (by simp [foot, hv]), ownsRow_same h4 fun k hv => hk k (by simp [foot, hv]), h5, fun c hc => Lies.same h c (h6 c hc) fun k hkc => hk k ?_⟩
    simp only [foot, List.mem_cons, List.mem_append, List.mem_flatMap]
    exact .inr (.inr (.inr ⟨c, hc, hkc⟩))

theorem Lies.lt {B : Nat} {w : World} : ∀ (h : Nat) (t : AT h), Lies B w h t → ∀ k ∈ foot h t, B ≤ k ∧ k < w.heap.size
  | 0, t, hl, k, hk => by
    obtain ⟨h1, h2, h3, h4⟩ := hl
    simp only [foot, List.mem_cons, Option.mem_toList] at hk
    rcases hk with rfl | hk
    · exact ⟨h2, lt_of_heap h1⟩
    · exact ownsRow_lt h3 hk
  | h + 1, t, hl, k, hk => by
    obtain ⟨h1, h2, h3, h4, h5, h6⟩ := hl
    simp only [foot, List.mem_cons, List.mem_append, List.mem_flatMap, Option.mem_toList] at hk
    rcases hk with rfl | hk | hk | ⟨c, hc, hk⟩
    · exact ⟨h2, lt_of_heap h1⟩
    · exact ownsRow_lt h3 hk
    · exact ownsRow_lt h4 hk
    · exact Lies.lt h c (h6 c hc) k hk

theorem Lies.node {B : Nat} {w : World} {h : Nat} {t : AT h} (hl : Lies B w h t) : w.heap[(hd h t).p]? = some (nodeObj (hd h t).kv (hd h t).cv) ∧ B ≤ (hd h t).p ∧ w.ownsRow B 9 1 (hd h t).kv (hd h t).ks.length (strs (hd h t).ks) := by
  cases h with
  | zero => exact ⟨hl.1, hl.2.1, hl.2.2.1⟩
  | succ h => exact ⟨hl.1, hl.2.1, hl.2.2.1⟩

/-- An owned row's value, written out. -/
theorem ownsRow_slice {B e n : Nat} {v : Value} {xs : List Value} {w : World} (h : w.ownsRow B e 1 v n xs) : ∃ a c, v = .slice a n c ∧ n ≤ c ∧ c ≤ maxLen := by
  rcases h.2 with ⟨rfl, rfl⟩ | ⟨g, cap, cur, rfl, _, _, h1, h2, _⟩
  · exact ⟨none, 0, rfl, Nat.le_refl _, Nat.zero_le _⟩
  · exact ⟨_, cap, rfl, h1, h2⟩

theorem getD_strs (ks : List ByteArray) (k : Nat) (hk : k < ks.length) : (strs ks)[k]? = some (.string (ks.getD k ByteArray.empty)) := by
  simp [strs, hk]

theorem ownsRow_cell {B e n : Nat} {v : Value} {xs : List Value} {w : World} (h : w.ownsRow B e 1 v n xs) (hn : 0 < n) :
    ∃ g c, v = .slice (some ⟨g, 0, none⟩) n c ∧ n ≤ c ∧ c ≤ maxLen ∧ v.ownBlock = some g ∧ w.frozen? ⟨g, 0, none⟩ = false ∧ ∀ k u, xs[k]? = some u → w.cell? ⟨g, k, none⟩ = some u := by
  rcases h.2 with ⟨_, rfl⟩ | ⟨g, cap, cur, rfl, _, hg, h1, h2, h3, h4⟩
  · omega
  · refine ⟨g, cap, rfl, h1, h2, rfl, by simp [World.frozen?, hg], fun k u hu => ?_⟩
    rw [cell_of_row w g k cur e (0, 0) hg]
    rw [← h4, List.getElem?_take] at hu
    split at hu
    · simpa using hu
    · cases hu

theorem lb_le (x : ByteArray) : ∀ ks, lb x ks ≤ ks.length
  | [] => Nat.le_refl _
  | k :: ks => by
    unfold lb
    split
    · have := lb_le x ks; simp; omega
    · simp

/-- the search's answer is 'lb' -/
theorem lb_eq (x : ByteArray) : ∀ (ks : List ByteArray) (i : Nat), i ≤ ks.length → (∀ k, k < i → sl (ks.getD k ByteArray.empty) x = true) → (∀ k, i ≤ k → k < ks.length → sl (ks.getD k ByteArray.empty) x = false) → lb x ks = i
  | [], i, h, _, _ => by simp at h; simp [lb, h]
  | k :: ks, 0, _, _, h2 => by
    have := h2 0 (Nat.le_refl _) (by simp)
    simp at this
    simp [lb, this]
  | k :: ks, i + 1, h, h1, h2 => by
    have h0 := h1 0 (by omega)
    simp at h0
    have := lb_eq x ks i (by simpa using h) (fun j hj => by have := h1 (j + 1) (by omega); simpa using this) (fun j hj hl => by have := h2 (j + 1) (by omega) (by simpa using hl); simpa using this)
    simp [lb, h0, this]

theorem sorted_mono {ks : List ByteArray} (hs : Sorted sl ks) (x : ByteArray) : ∀ k l, k ≤ l → l < ks.length → sl (ks.getD l ByteArray.empty) x = true → sl (ks.getD k ByteArray.empty) x = true := by
  intro k l hkl hl hlt
  rcases Nat.lt_or_eq_of_le hkl with h | rfl
  · have := List.pairwise_iff_getElem.1 hs k l (by omega) hl h
    rw [List.getD_eq_getElem?_getD, List.getElem?_eq_getElem hl] at hlt
    rw [List.getD_eq_getElem?_getD, List.getElem?_eq_getElem (by omega)]
    exact sto.le_lt this hlt
  · exact hlt

/-- slices.BinarySearch over a sorted owned row of keys. -/
theorem search33 (B : Nat) (v : Value) (ks : List ByteArray) (x : ByteArray) (w : World) (hn : ks.length ≤ 4611686018427387904) (hrow : w.ownsRow B 9 1 v ks.length (strs ks)) (hs : Sorted sl ks) :
    Calls Try.prog 33 #[v, .string x] w fun e w' => w = w' ∧ ∃ f : Bool, e = .returned (.tuple #[.int .i64 (lb x ks), .bool f]) ∧ (f = true ↔ lb x ks < ks.length ∧ ks.getD (lb x ks) ByteArray.empty = x) ∧
      (∀ k ∈ ks.take (lb x ks), sl k x = true) ∧ (∀ k ∈ ks.drop (lb x ks), sl k x = false) := by
  by_cases h0 : ks.length = 0
  · have hk : ks = [] := List.length_eq_zero_iff.1 h0
    subst hk
    obtain ⟨a, c, rfl, _, _⟩ := ownsRow_slice hrow
    refine (search33_none a c x w).mono ?_
    rintro e w' ⟨rfl, rfl⟩
    exact ⟨rfl, false, rfl, by simp, by simp, by simp⟩
  · obtain ⟨g, c, rfl, _, _, _, _, hc⟩ := ownsRow_cell hrow (by omega)
    refine (search33_some g 0 ks.length c (fun k => ks.getD k ByteArray.empty) x w hn (fun k hk => by rw [Nat.zero_add]; exact hc k _ (getD_strs ks k hk)) (sorted_mono hs x)).mono ?_
    rintro e w' ⟨rfl, i, f, hi, rfl, hf, h1, h2⟩
    have he := lb_eq x ks i hi h1 h2
    rw [he]
    refine ⟨rfl, f, rfl, hf, fun k hk => ?_, fun k hk => ?_⟩
    · obtain ⟨j, hj, rfl⟩ := List.mem_iff_getElem.1 hk
      have hj' : j < i ∧ j < ks.length := by rw [List.length_take] at hj; omega
      have := h1 j hj'.1
      simpa [hj'.2] using this
    · obtain ⟨j, hj, rfl⟩ := List.mem_iff_getElem.1 hk
      have hj' : i + j < ks.length := by simp at hj; omega
      have := h2 (i + j) (by omega) hj'
      simpa [hj'] using this

/-- What (*keyNode).insert leaves. -/
def InsertPost (B h : Nat) (t : AT h) (x : ByteArray) (mn : Nat) (w : World) (e : Ending) (w' : World) : Prop :=
  Touch (· ∈ foot h t) w w' ∧
  ((∃ t' : AT h, e = .returned (.tuple #[.string ⟨#[]⟩, .pointer none]) ∧ (hd h t').p = (hd h t).p ∧ Lies B w' h t' ∧ (foot h t').Nodup ∧ (∀ k ∈ foot h t', k ∈ foot h t ∨ w.heap.size ≤ k) ∧
      okT h mn t' ∧ (hd h t).ks.length ≤ (hd h t').ks.length ∧ inorder h t' = sins sl x (inorder h t) ∧ ¬ full h t x)
   ∨ (∃ t' r : AT h, ∃ m, e = .returned (.tuple #[.string m, ptrV h r]) ∧ (hd h t').p = (hd h t).p ∧ Lies B w' h t' ∧ Lies B w' h r ∧ (foot h t' ++ foot h r).Nodup ∧
      (∀ k ∈ foot h t' ++ foot h r, k ∈ foot h t ∨ w.heap.size ≤ k) ∧ okT h 32 t' ∧ okT h 32 r ∧ inorder h t' ++ m :: inorder h r = sins sl x (inorder h t) ∧ full h t x))

/-- The same memory; draws may have been made. -/
structure Mem (w w' : World) : Prop where
  heap : w'.heap = w.heap
  os : w'.os = w.os
  tape : w'.tape = w.tape
  output : w'.output = w.output

theorem Mem.refl (w : World) : Mem w w := ⟨rfl, rfl, rfl, rfl⟩
theorem Mem.drew {w w' : World} (h : Mem w w') : Mem w w'.drew := ⟨h.heap, h.os, h.tape, h.output⟩
theorem Mem.ofDrew (w : World) : Mem w w.drew := ⟨rfl, rfl, rfl, rfl⟩
theorem Mem.touch {S : Nat → Prop} {v w w' : World} (ht : Touch S v w) (h : Mem w w') : Touch S v w' :=
  ⟨h.os.trans ht.os, h.tape.trans ht.tape, h.output.trans ht.output, by rw [h.heap]; exact ht.size, fun k hk hn => by rw [h.heap]; exact ht.block k hk hn⟩

end Go.Proofs.Qxb6604036a
