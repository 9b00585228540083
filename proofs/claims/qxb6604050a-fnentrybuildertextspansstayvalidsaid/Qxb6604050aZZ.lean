/- ZZEntryBuilderText (12), zzB1Clone (11), the guard (9). -/
import Derived.Test.Qxb6604050aText
namespace Go.Proofs.Qxb6604050a
open Go.RowKit
set_option linter.unusedVariables false
set_option linter.unusedSimpArgs false
attribute [local go_sem ↓] Go.wp_at_zero Go.wp_at_succ

/-- What ZZEntryBuilderText answers. -/
def ZZPost (B : Nat) (more : Value) (size : Int) (s m : Nat) (l news : List Int) (w : World) (e : Ending) (w' : World) : Prop :=
  ∃ v' z, e = .returned (.tuple #[.int .u32 (s : Int), .int .u32 ((s + m : Nat) : Int), v', .int .i64 z]) ∧ z = wrap64 (size + (m : Int)) ∧ Grew B more l news w v' w' ∧ Touch (fun k => more.ownBlock = some k) w w'

set_option maxHeartbeats 1000000 in
theorem zz12 (n c m d B s : Nat) (q : Int) (a t : Option Addr) (more : Value) (l news : List Int) (size : Int) (w : World) (hrow : w.ownsRow B 5 1 more l.length (ints l)) (hB : B ≤ w.heap.size)
    (H19 : ∀ p w1 x2 x3 x4, p = w.heap.size → w1 = w.alloc (bObj (.slice a n c) more x2 x3 x4 size) → Calls Try.prog 19 #[.pointer (some ⟨p, 0, none⟩), .slice t m d, .int .i64 q] w1 (TextPost p B (.slice a n c) more x2 x3 x4 size s m l news w1)) :
    Calls Try.prog 12 #[.slice a n c, more, .int .i64 size, .slice t m d, .int .i64 q] w (ZZPost B more size s m l news w) := by
  obtain ⟨b2, c2, rfl, -, -⟩ := ownsRow_slice hrow
  obtain ⟨nl, hnl⟩ : ∃ nl, nl = l.length := ⟨_, rfl⟩
  rw [← hnl] at hrow H19 ⊢
  have HR : Hid (w.ownsRow B 5 1 (.slice b2 nl c2) nl (ints l) ∧ nl = l.length) := ⟨hrow, hnl⟩
  have HC : Hid (∀ p w1 x2 x3 x4, p = w.heap.size → w1 = w.alloc (bObj (.slice a n c) (.slice b2 nl c2) x2 x3 x4 size) → Calls Try.prog 19 #[.pointer (some ⟨p, 0, none⟩), .slice t m d, .int .i64 q] w1 (TextPost p B (.slice a n c) (.slice b2 nl c2) x2 x3 x4 size s m l news w1)) := H19
  clear hrow hnl H19
  go_enter Try.func12, Try.ntmps12
  go_wp2_with fail
  refine (HC.out _ _ _ _ _ rfl rfl).mono ?_
  rintro e w2 ⟨v', z, rfl, hz, hp, hG, hT⟩
  obtain ⟨a', c', rfl, -, -⟩ := ownsRow_slice hG.owns
  obtain ⟨nn, hnn⟩ : ∃ nn, nn = (l ++ news).length := ⟨_, rfl⟩
  rw [← hnn] at hp hG
  obtain ⟨k0, k1, k5, kf⟩ := bObj_cell hp
  have hps : w.heap.size < w2.heap.size := World.block_lt_of_cell? w2 _ k0
  have hne : w.heap.size ≠ w2.heap.size := by omega
  have l1 : ∀ o, (w2.alloc (.cells #[.int .u32 (s : Int), .int .u32 ((s + m : Nat) : Int)] 45)).cell? ⟨w.heap.size, o, none⟩ = w2.cell? ⟨w.heap.size, o, none⟩ := fun o => World.cell?_of_block (Below.heap_alloc w2 _ _ hps)
  have j1 := (l1 1).trans k1
  have j5 := (l1 5).trans k5
  have HG : Hid (Grew B (.slice b2 nl c2) l news (w.alloc (bObj (.slice a n c) (.slice b2 nl c2) (.slice none 0 0) (.slice none 0 0) (.map none) size)) (.slice a' nn c') w2 ∧ z = wrap64 (size + (m : Int)) ∧ Touch (fun k => k = w.heap.size ∨ (Value.slice b2 nl c2).ownBlock = some k) (w.alloc (bObj (.slice a n c) (.slice b2 nl c2) (.slice none 0 0) (.slice none 0 0) (.map none) size)) w2) := ⟨hG, hz, hT⟩
  clear hG hz hT hp kf l1 hnn
  go_wp2
  go_quiet (fail)
  go_wp2
  refine bodyPost_ret (v := .tuple #[.int .u32 (s : Int), .int .u32 ((s + m : Nat) : Int), .slice a' nn c', .int .i64 z]) (by simp [results, Try.results12, go_sem]) rfl ?_
  obtain ⟨hG, hz, hT⟩ := HG.out
  have hT0 := (Touch.refl (fun k => (Value.slice b2 nl c2).ownBlock = some k) w).alloc (bObj (.slice a n c) (.slice b2 nl c2) (.slice none 0 0) (.slice none 0 0) (.map none) size)
  have hT2 := (hT0.trans hT fun i hi h => h.elim (fun e => absurd e (Nat.ne_of_lt hi)) id).alloc (.cells #[.int .u32 (s : Int), .int .u32 ((s + m : Nat) : Int)] 45)
  have hT3 : Touch (fun _ => False) w2 (w2.alloc (.cells #[.int .u32 (s : Int), .int .u32 ((s + m : Nat) : Int)] 45)) := (Touch.refl _ _).alloc _
  have hT4 : Touch (fun _ => False) w2 ((w2.alloc (.cells #[.int .u32 (s : Int), .int .u32 ((s + m : Nat) : Int)] 45)).drewN nq) := ⟨hT3.os, hT3.tape, hT3.output, hT3.size, hT3.block⟩
  refine ⟨.slice a' nn c', z, rfl, hz, ⟨ownsRow_touch hG.owns hT4 fun _ _ h => h, ?_, hG.some_, hG.same⟩, ⟨hT2.os, hT2.tape, hT2.output, hT2.size, hT2.block⟩⟩
  rcases hG.place with h | ⟨k, h, hk⟩
  · exact .inl h
  · exact .inr ⟨k, h, by simp at hk; omega⟩

/-- A copy of a slice of bytes; nil stays nil. -/
def ClonePost (B : Nat) (a : Option Addr) (n : Nat) (S : Nat → Int) (w : World) (e : Ending) (w' : World) : Prop :=
  ∃ v, e = .returned v ∧ w'.ownsRow B 5 1 v n (ints (listOf n S)) ∧ (∀ k, v.ownBlock = some k → w.heap.size ≤ k) ∧ (v.ownBlock = none ↔ a = none) ∧ Touch (fun _ => False) w w'

theorem clone11_nil (B n c : Nat) (S : Nat → Int) (w : World) (hn : n = 0) (hc : c = 0) :
    Calls Try.prog 11 #[.slice none n c] w (ClonePost B none n S w) := by
  subst hn hc
  have heq := fun w a n c => Lib.run_eql_slice_nil (P := Try.prog) w 22 5 a n c 0 0 Try.underlying22
  go_enter Try.func11, Try.ntmps11
  go_wp2
  go_ret
  exact ⟨.slice none 0 0, rfl, World.ownsRow_nil w B 5 1, fun k h => (Option.some_ne_none k h.symm).elim, ⟨fun _ => rfl, fun _ => rfl⟩, Touch.refl _ _⟩

theorem clone11 (B n c : Nat) (x : Addr) (S : Nat → Int) (w : World) (hR : Rb w (some x) n c S) (hn : n ≤ 1048576) (hB : B ≤ w.heap.size) :
    Calls Try.prog 11 #[.slice (some x) n c] w (ClonePost B (some x) n S w) := by
  obtain ⟨W1, W2, cv, hmk, hT1, hcp, hown, hT2, hsz⟩ := bytesRow B w (some x) n c S hR hn hB
  have hT1' : Hid (Touch (fun _ => False) w W1) := hT1
  have HO : Hid (W2.ownsRow B 5 1 (.slice (some ⟨w.heap.size, 0, none⟩) n n) n (ints (listOf n S)) ∧ Touch (fun _ => False) w W2) := ⟨hown, hT2⟩
  obtain ⟨a', c', hv, h1, h2⟩ := ownsRow_slice hown
  clear hown hT1 hT2 hv
  obtain ⟨y1, y2, -⟩ := hR
  unfold maxLen at y2
  have heq := fun w a n c => Lib.run_eql_slice_nil (P := Try.prog) w 22 5 a n c 0 0 Try.underlying22
  go_enter Try.func11, Try.ntmps11
  go_wp2
  go_ret
  exact ⟨.slice (some ⟨w.heap.size, 0, none⟩) n n, rfl, HO.out.1, fun k h => (by cases h; exact Nat.le_refl _), ⟨fun h => (by cases h), fun h => (by cases h)⟩, HO.out.2⟩

/-- A slice of bytes: nil, or a row. -/
structure Arg (w : World) (a : Option Addr) (n c : Nat) (S : Nat → Int) : Prop where
  rd : Rb w a n c S
  nil : a = none → n = 0 ∧ c = 0

theorem Arg.touch {w w' : World} {a : Option Addr} {n c : Nat} {S : Nat → Int} (h : Arg w a n c S) (ht : Touch (fun _ => False) w w') : Arg w' a n c S := ⟨h.rd.touch ht fun _ _ _ h => h, h.nil⟩

theorem Rb.ofRow {w : World} {B n c : Nat} {a : Option Addr} {S : Nat → Int} (h : w.ownsRow B 5 1 (.slice a n c) n (ints (listOf n S))) : Rb w a n c S := by
  have hl := listOf_length n S
  obtain ⟨a1, c1, e, hR⟩ := Rb.ofOwns (B := B) (v := .slice a n c) (l := listOf n S) (w := w) (by rw [hl]; exact h)
  rw [hl] at e hR
  cases e
  refine ⟨hR.1, hR.2.1, fun h0 => ?_⟩
  obtain ⟨b, off, e1, hc⟩ := hR.2.2 h0
  exact ⟨b, off, e1, fun k hk => (hc k hk).trans (by show some (Value.int .u8 ((listOf n S).getD k 0)) = _; rw [listOf_getD n S k hk])⟩

theorem Arg.ofRow {w : World} {B n c : Nat} {a : Option Addr} {S : Nat → Int} (h : w.ownsRow B 5 1 (.slice a n c) n (ints (listOf n S))) : Arg w a n c S := by
  refine ⟨Rb.ofRow h, fun ha => ?_⟩
  subst ha
  rcases h.2 with ⟨e, hn⟩ | ⟨g, _, _, e, _⟩
  · cases e; exact ⟨rfl, rfl⟩
  · cases e

theorem clone11_any (B n c : Nat) (a : Option Addr) (S : Nat → Int) (w : World) (h : Arg w a n c S) (hn : n ≤ 1048576) (hB : B ≤ w.heap.size) :
    Calls Try.prog 11 #[.slice a n c] w (ClonePost B a n S w) := by
  cases a with
  | none => exact clone11_nil B n c S w (h.nil rfl).1 (h.nil rfl).2
  | some x => exact clone11 B n c x S w h.rd hn hB

/-- A copied text. -/
theorem zz12_copy (n c m d B : Nat) (q : Int) (a t : Option Addr) (T : Nat → Int) (more : Value) (l : List Int) (size : Int) (w : World) (hrow : w.ownsRow B 5 1 more l.length (ints l)) (hT : Arg w t m d T) (hB : B ≤ w.heap.size) (hq : q < 0) (hn : n ≤ 1048576) (hl : l.length ≤ 1048576) (hm : m ≤ 1048576) :
    Calls Try.prog 12 #[.slice a n c, more, .int .i64 size, .slice t m d, .int .i64 q] w (ZZPost B more size (n + l.length) m l (listOf m T) w) := by
  refine zz12 n c m d B _ q a t more l _ size w hrow hB ?_
  intro p w1 x2 x3 x4 hp hw1
  have ht1 : Touch (fun _ => False) w w1 := by rw [hw1]; exact (Touch.refl _ _).alloc _
  refine text19_copy p n c m d B q a t T more l x2 x3 x4 size w1 (by rw [hw1, hp]; exact heap_new w _) (ownsRow_touch hrow ht1 fun _ _ h => h) (fun e => ?_) (hT.touch ht1).rd (fun e => (hT.nil e).2) (Nat.le_trans hB ht1.size) hq hn hl hm
  have := (ownsRow_lt hrow e).2
  omega

/-- A text in place. -/
theorem zz12_in (n c m d B q : Nat) (a t : Option Addr) (more : Value) (l : List Int) (size : Int) (w : World) (hrow : w.ownsRow B 5 1 more l.length (ints l)) (hB : B ≤ w.heap.size) (hq : q + m ≤ n) (hn : n ≤ 1048576) :
    Calls Try.prog 12 #[.slice a n c, more, .int .i64 size, .slice t m d, .int .i64 (q : Int)] w (ZZPost B more size q m l [] w) := by
  refine zz12 n c m d B _ q a t more l _ size w hrow hB ?_
  intro p w1 x2 x3 x4 hp hw1
  have ht1 : Touch (fun _ => False) w w1 := by rw [hw1]; exact (Touch.refl _ _).alloc _
  refine text19_in p n c m d q B a t more l x2 x3 x4 size w1 (by rw [hw1, hp]; exact heap_new w _) (ownsRow_touch hrow ht1 fun _ _ h => h) (fun e => ?_) hq hn
  have := (ownsRow_lt hrow e).2
  omega

/-- Only a bool comes back. -/
def BoolPost (w : World) (e : Ending) (w' : World) : Prop := ∃ r, e = .returned (.bool r) ∧ w = w'

theorem guard9 (a b t : Option Addr) (n c n2 c2 m d : Nat) (x y : Int) (w : World) (hn : n ≤ maxLen) (hn2 : n2 ≤ maxLen) (hm : m ≤ maxLen) :
    Calls Try.prog 9 #[.slice a n c, .slice b n2 c2, .int .i64 x, .slice t m d, .int .i64 y] w (BoolPost w) := by
  unfold maxLen at hn hn2 hm
  by_cases h1 : n ≤ 1048576
  · by_cases h2 : n2 ≤ 1048576
    · by_cases h3 : n + n2 ≤ 1048576
      · by_cases h4 : m ≤ 1048576
        · by_cases h5 : n + n2 + m ≤ 1048576
          all_goals
            go_enter Try.func9, Try.ntmps9
            go_wp2
            go_ret
            exact ⟨_, rfl, rfl⟩
        · go_enter Try.func9, Try.ntmps9
          go_wp2
          go_ret
          exact ⟨_, rfl, rfl⟩
      · go_enter Try.func9, Try.ntmps9
        go_wp2
        go_ret
        exact ⟨_, rfl, rfl⟩
    · go_enter Try.func9, Try.ntmps9
      go_wp2
      go_ret
      exact ⟨_, rfl, rfl⟩
  · go_enter Try.func9, Try.ntmps9
    go_wp2
    go_ret
    exact ⟨_, rfl, rfl⟩
end Go.Proofs.Qxb6604050a
