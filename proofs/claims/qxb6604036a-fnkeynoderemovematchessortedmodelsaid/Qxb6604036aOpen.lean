/- The tree among the arguments, as the walks want it. -/
import Derived.Test.Qxb6604036aRow4
import Derived.Test.Qxb6604036aIn
import Derived.ChangeArms
import Derived.DataReads
namespace Go.Proofs.Qxb6604036a
open Go.ChangeShapes Go.WideShapes Go.ChangeAt Go.RowKit
set_option linter.unusedVariables false

/-- The keys' field. -/
theorem keys_open {H : Type} {enc : TypeId × Value → H} {w : World} {base : Nat} {spare : Nat → Bool} {held : Bool} {fuel : Nat} {v : Value} {x : DataW H × List MemPlace}
    (h : DataW.trod enc Try.prog w base spare held fuel 23 [v] = some x) : ∃ (a : Option Addr) (c : Nat) (ks : List ByteArray), v = .slice a ks.length c ∧ Rd w a ks.length c (fun k => ks.getD k ByteArray.empty) ∧ ∀ s ∈ ks, s.size ≤ maxLen := by
  rcases open_strings Try.underlying23 Try.underlying9 (by kernel_rfl) h with ⟨hcs, _⟩ | ⟨ad, l, cp, ss, hcs, _, hl, hm, hz, _, hcell, hsz⟩
  · simp at hcs
    subst hcs
    exact ⟨none, 0, [], rfl, ⟨Nat.le_refl _, Nat.zero_le _, fun h => absurd h (Nat.lt_irrefl _)⟩, by simp⟩
  · simp at hcs
    subst hcs
    have hlen : l ≤ ss.length := by rw [hz]; split <;> omega
    have hkl : (ss.take l).length = l := by rw [List.length_take]; omega
    refine ⟨some ad, cp, ss.take l, by rw [hkl], ⟨by rw [hkl]; exact hl, hm, fun h0 => ?_⟩, fun s hs => hsz s (List.mem_of_mem_take hs)⟩
    rw [hkl] at h0
    obtain ⟨b, off, spot⟩ := ad
    have hspot : spot = none := by simpa [Addr.add] using World.cell?_spot (hcell 0 (by omega))
    subst hspot
    refine ⟨b, off, rfl, fun k hk => ?_⟩
    rw [hkl] at hk
    have := hcell k (by omega)
    rw [Go.WideShapes.add_plain] at this
    rw [this]
    simp [List.getD_eq_getElem?_getD, hk]

/-- A list of what is there for each number below. -/
theorem list_of {α : Type} (Q : Nat → α → Prop) (n : Nat) (h : ∀ k, k < n → ∃ x, Q k x) : ∃ l : List α, l.length = n ∧ ∀ k x, l[k]? = some x → Q k x := by
  induction n with
  | zero => exact ⟨[], rfl, by simp⟩
  | succ n ih =>
    obtain ⟨l, hl, hq⟩ := ih fun k hk => h k (by omega)
    obtain ⟨x, hx⟩ := h n (by omega)
    refine ⟨l ++ [x], by simp [hl], fun k y hy => ?_⟩
    rcases Nat.lt_or_ge k l.length with hk | hk
    · rw [List.getElem?_append_left hk] at hy; exact hq k y hy
    · rw [List.getElem?_append_right hk] at hy
      have hk0 : k - l.length < 1 := by simpa using (List.getElem?_eq_some_iff.1 hy).1
      obtain rfl : k = n := by omega
      rw [hl] at hy; simp at hy; rw [← hy]; exact hx

theorem Try.cells37 : Try.prog.cellsOf 37 = 2 := by kernel_rfl
theorem Try.cells22 : Try.prog.cellsOf 22 = 1 := by kernel_rfl

theorem one_of {l : List Value} (h : l.length = 1) : ∃ v, l = [v] := by
  match l, h with
  | [v], _ => exact ⟨v, rfl⟩

theorem in_open {H : Type} {enc : TypeId × Value → H} {w : World} {base : Nat} {spare : Nat → Bool} {held : Bool} : ∀ (g fuel : Nat) (v : Value) (x : DataW H × List MemPlace), fuel ≤ 3 * g →
    DataW.trod enc Try.prog w base spare held fuel 22 [v] = some x → ∃ t : IT g, In w g t v
  | 0, fuel, v, x, hf, h => by
    obtain rfl : fuel = 0 := by omega
    simp [DataW.trod] at h
  | g + 1, fuel, v, x, hf, h => by
    rcases DataW.trod_pointer Try.underlying22 h with ⟨hcs, _⟩ | ⟨a, cs', y, n, hfu, hcs, _, hcells, hy⟩
    · simp at hcs
      exact ⟨none, hcs⟩
    · simp at hcs
      subst hcs
      rw [Try.cells37] at hcells
      obtain ⟨_, hlen, hcell⟩ := World.cells?_some hcells
      obtain ⟨c0, c1, rfl⟩ : ∃ c0 c1, cs' = [c0, c1] := by
        match cs', hlen with
        | [c0, c1], _ => exact ⟨c0, c1, rfl⟩
      have k0 := hcell 0 (by omega)
      have k1 := hcell 1 (by omega)
      obtain ⟨b, off, spot⟩ := a
      have hspot : spot = none := by simpa [Addr.add] using World.cell?_spot k0
      subst hspot
      rw [Go.WideShapes.add_plain] at k0 k1
      simp at k0 k1
      obtain ⟨xs, n2, hn2, _, _, hxl, hfld⟩ := DataW.trod_struct Try.underlying37 hy
      have f0 := hfld 0 _ rfl
      have f1 := hfld 1 _ rfl
      have e0 : ([c0, c1].drop 0).take (Try.prog.cellsOf 23) = [c0] := by
        rw [show Try.prog.cellsOf 23 = 1 by kernel_rfl]; rfl
      have e1 : ([c0, c1].drop 1).take (Try.prog.cellsOf 35) = [c1] := by
        rw [show Try.prog.cellsOf 35 = 1 by kernel_rfl]; rfl
      have f0' : DataW.trod enc Try.prog w base spare held n2 23 [c0] = xs[0]? := by rw [← e0]; exact f0
      have f1' : DataW.trod enc Try.prog w base spare held n2 35 [c1] = xs[1]? := by rw [← e1]; exact f1
      have hxl2 : xs.length = 2 := hxl
      rw [List.getElem?_eq_getElem (by omega)] at f0' f1'
      obtain ⟨ka, kc, ks, rfl, hR, hsz⟩ := keys_open f0'
      rcases DataW.trod_slice Try.underlying35 f1' with ⟨hcs, _⟩ | ⟨ca, len, cap, elems, rest, n3, hn3, hcs, _, _, hl, hm, hel, hget, _, _⟩
      · simp at hcs
        subst hcs
        exact ⟨some (ks, []), b, off, ka, kc, none, 0, rfl, k0, k1, hR, hsz, Nat.le_refl _, Nat.zero_le _, fun h0 => absurd h0 (Nat.lt_irrefl _)⟩
      · simp at hcs
        subst hcs
        obtain ⟨cs, hcl, hch⟩ := list_of (α := IT g) (fun k c => ∃ u, w.cell? (ca.add k) = some u ∧ In w g c u) len fun k hk => by
          have h1 := hget k hk
          rw [Try.cells22, Nat.mul_one, List.getElem?_eq_getElem (by omega), Option.bind_eq_some_iff] at h1
          obtain ⟨cs1, h2, h3⟩ := h1
          obtain ⟨_, hl1, _⟩ := World.cells?_some h2
          obtain ⟨u, rfl⟩ := one_of hl1
          obtain ⟨t, ht⟩ := in_open g n3 u _ (by omega) h3
          exact ⟨t, u, cell_of_cells?_one h2, ht⟩
        refine ⟨some (ks, cs), b, off, ka, kc, some ca, cap, rfl, k0, by rw [hcl]; exact k1, hR, hsz, by rw [hcl]; exact hl, hm, fun h0 => ?_⟩
        obtain ⟨cb, co, spot⟩ := ca
        have hsp : spot = none := by
          obtain ⟨u, hu, _⟩ := hch 0 cs[0] (List.getElem?_eq_getElem h0)
          simpa [Addr.add] using World.cell?_spot hu
        subst hsp
        refine ⟨cb, co, rfl, fun k c hk => ?_⟩
        obtain ⟨u, hu, hi⟩ := hch k c hk
        rw [Go.WideShapes.add_plain] at hu
        exact ⟨u, hu, hi⟩

end Go.Proofs.Qxb6604036a
