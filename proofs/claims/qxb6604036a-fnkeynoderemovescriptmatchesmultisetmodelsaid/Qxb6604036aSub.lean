/- A tree as its root's node and what hangs below it, at every height alike. -/
import Derived.Test.Qxb6604036aNd2
namespace Go.Proofs.Qxb6604036a
open Go.RowKit Plain
set_option linter.unusedVariables false
set_option linter.unusedSimpArgs false

/-- What hangs below a root of height h + 1. -/
def Subs : Nat → Type
  | 0 => Unit
  | g + 1 => List (AT g)

def mkT : (h : Nat) → Hd → Subs h → AT h
  | 0, H, _ => H
  | _ + 1, H, gs => (H, gs)
def subs : (h : Nat) → AT h → Subs h
  | 0, _ => ()
  | _ + 1, t => t.2
def subP : (h : Nat) → Subs h → List Value
  | 0, _ => []
  | g + 1, gs => gs.map (ptrV g)
def subF : (h : Nat) → Subs h → List Nat
  | 0, _ => []
  | g + 1, gs => gs.flatMap (foot g)
def allLie (B : Nat) (w : World) (g : Nat) (l : List (AT g)) : Prop := ∀ c ∈ l, Lies B w g c
def allOk (g : Nat) (l : List (AT g)) (n : Nat) : Prop := l.length = n + 1 ∧ ∀ c ∈ l, okT g 32 c
def subLies (B : Nat) (w : World) : (h : Nat) → Subs h → Prop
  | 0, _ => True
  | g + 1, gs => allLie B w g gs
def subOk : (h : Nat) → Subs h → Nat → Prop
  | 0, _, _ => True
  | g + 1, gs, n => allOk g gs n
def subIn : (h : Nat) → Subs h → List ByteArray → List ByteArray
  | 0, _, ks => ks
  | g + 1, gs, ks => weave (gs.map (inorder g)) ks
/-- The children's field: nil at a leaf, a row elsewhere. -/
def cvOk : (h : Nat) → Value → Prop
  | 0, v => v = .slice none 0 0
  | _ + 1, v => ∃ k, v.ownBlock = some k

/-- The root's node by itself. -/
def ns (h : Nat) (t : AT h) : NS := ⟨(hd h t).p, (hd h t).kv, (hd h t).cv, (hd h t).ks, subP h (subs h t)⟩

theorem hd_mk (h : Nat) (H : Hd) (gs : Subs h) : hd h (mkT h H gs) = H := by cases h <;> rfl
theorem subs_mk (h : Nat) (H : Hd) (gs : Subs h) : subs h (mkT h H gs) = gs := by cases h <;> rfl
theorem mk_eta (h : Nat) (t : AT h) : mkT h (hd h t) (subs h t) = t := by cases h <;> rfl

theorem lies_ns {B : Nat} {w : World} {h : Nat} {t : AT h} : Lies B w h t ↔ Nd B w (ns h t) ∧ cvOk h (hd h t).cv ∧ subLies B w h (subs h t) := by
  cases h with
  | zero =>
    constructor
    · rintro ⟨h1, h2, h3, h4⟩
      have h4' : (hd 0 t).cv = .slice none 0 0 := h4
      refine ⟨⟨h1, h2, h3, ?_⟩, h4, trivial⟩
      show w.ownsRow B 27 1 (hd 0 t).cv 0 []
      rw [h4']; exact World.ownsRow_nil w B 27 1
    · rintro ⟨⟨h1, h2, h3, _⟩, h4, _⟩
      exact ⟨h1, h2, h3, h4⟩
  | succ g =>
    constructor
    · rintro ⟨h1, h2, h3, h4, h5, h6⟩
      refine ⟨⟨h1, h2, h3, ?_⟩, h5, h6⟩
      show w.ownsRow B 27 1 t.1.cv (t.2.map (ptrV g)).length (t.2.map (ptrV g))
      rw [List.length_map]; exact h4
    · rintro ⟨⟨h1, h2, h3, h4⟩, h5, h6⟩
      refine ⟨h1, h2, h3, ?_, h5, h6⟩
      have h4' : w.ownsRow B 27 1 t.1.cv (t.2.map (ptrV g)).length (t.2.map (ptrV g)) := h4
      rw [List.length_map] at h4'; exact h4'

theorem foot_ns {h : Nat} {t : AT h} (hc : cvOk h (hd h t).cv) : foot h t = (ns h t).ft ++ subF h (subs h t) := by
  cases h with
  | zero =>
    have hc' : t.cv = .slice none 0 0 := hc
    show t.p :: t.kv.ownBlock.toList = (t.p :: (t.kv.ownBlock.toList ++ t.cv.ownBlock.toList)) ++ []
    rw [hc']; simp [Value.ownBlock]
  | succ g =>
    show t.1.p :: (t.1.kv.ownBlock.toList ++ (t.1.cv.ownBlock.toList ++ t.2.flatMap (foot g))) = (t.1.p :: (t.1.kv.ownBlock.toList ++ t.1.cv.ownBlock.toList)) ++ t.2.flatMap (foot g)
    simp

theorem okT_ns {h mn : Nat} {t : AT h} : okT h mn t ↔ mn ≤ (hd h t).ks.length ∧ (hd h t).ks.length ≤ 64 ∧ subOk h (subs h t) (hd h t).ks.length := by
  cases h with
  | zero => exact ⟨fun ⟨a, b⟩ => ⟨a, b, trivial⟩, fun ⟨a, b, _⟩ => ⟨a, b⟩⟩
  | succ g => exact Iff.rfl

theorem inorder_ns (h : Nat) (t : AT h) : inorder h t = subIn h (subs h t) (hd h t).ks := by cases h <;> rfl

theorem subLies.same {B : Nat} {w w' : World} {h : Nat} {gs : Subs h} (hl : subLies B w h gs) (hk : ∀ k ∈ subF h gs, w'.heap[k]? = w.heap[k]?) : subLies B w' h gs := by
  cases h with
  | zero => trivial
  | succ g => exact fun c hc => Lies.same g c (hl c hc) fun k hkc => hk k (List.mem_flatMap.2 ⟨c, hc, hkc⟩)

theorem subP_len {h : Nat} {gs : Subs h} {n : Nat} (h0 : subOk h gs n) : subP h gs = [] ∨ (subP h gs).length = n + 1 := by
  cases h with
  | zero => exact .inl rfl
  | succ g =>
    have e : (subP (g + 1) gs).length = List.length (α := AT g) gs := List.length_map ..
    exact .inr (e.trans h0.1)

theorem subP_ptr {h : Nat} {gs : Subs h} : ∀ u ∈ subP h gs, ∃ p, u = .pointer (some ⟨p, 0, none⟩) := by
  cases h with
  | zero => intro u hu; cases hu
  | succ g =>
    intro u hu
    obtain ⟨c, _, rfl⟩ := List.mem_map.1 hu
    exact ⟨_, rfl⟩

/-- The two kids' places in a woven list. -/
theorem weave_mid {α : Type} (A C : List (List α)) (l r : List α) (a c : List α) (x : α) (hA : A.length = a.length) (hC : C.length = c.length) : weave (A ++ l :: r :: C) (a ++ x :: c) = pl A a ++ (l ++ x :: r) ++ pr c C := by
  have h1 := weave_split x (r :: C) c (A ++ [l]) a (by simp [hA])
  have h2 := weave_at l [] [] rfl A a hA
  have h3 := weave_cons r C c hC
  simp only [List.append_nil] at h2
  rw [List.append_assoc] at h1
  simp only [List.singleton_append] at h1
  rw [h1, h2, h3]
  simp [pr]

end Go.Proofs.Qxb6604036a
