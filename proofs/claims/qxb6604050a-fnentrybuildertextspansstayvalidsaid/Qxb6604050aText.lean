/- (*entryBuilder).text (19), ZZEntryBuilderText (12). -/
import Derived.Test.Qxb6604050aReads
namespace Go.Proofs.Qxb6604050a
open Go.RowKit
set_option linter.unusedVariables false
set_option linter.unusedSimpArgs false
attribute [local go_sem ↓] Go.wp_at_zero Go.wp_at_succ

def bObj (src more x2 x3 x4 : Value) (size : Int) : Obj := .cells #[src, more, x2, x3, x4, .int .i64 size] 43 (0, 0)

theorem bObj_cell {w : World} {p : Nat} {src more x2 x3 x4 : Value} {size : Int} (h : w.heap[p]? = some (bObj src more x2 x3 x4 size)) :
    w.cell? ⟨p, 0, none⟩ = some src ∧ w.cell? ⟨p, 1, none⟩ = some more ∧ w.cell? ⟨p, 5, none⟩ = some (.int .i64 size) ∧ ∀ o, w.frozen? ⟨p, o, none⟩ = false := by
  refine ⟨?_, ?_, ?_, fun o => ?_⟩
  · simp [World.cell?, h, bObj]
  · simp [World.cell?, h, bObj]
  · simp [World.cell?, h, bObj]
  · simp [World.frozen?, h, bObj]

theorem bObj_set1 {w : World} {p : Nat} {src more x2 x3 x4 v : Value} {size : Int} (h : w.heap[p]? = some (bObj src more x2 x3 x4 size)) :
    (w.setCell ⟨p, 1, none⟩ v).heap[p]? = some (bObj src v x2 x3 x4 size) := by
  rw [setCell_eq_setRow w p 1 _ 43 (0, 0) _ h, setRow_heap w p _ _ 43 (0, 0) h]
  rfl

theorem bObj_set5 {w : World} {p : Nat} {src more x2 x3 x4 : Value} {size z : Int} (h : w.heap[p]? = some (bObj src more x2 x3 x4 size)) :
    (w.setCell ⟨p, 5, none⟩ (.int .i64 z)).heap[p]? = some (bObj src more x2 x3 x4 z) := by
  rw [setCell_eq_setRow w p 5 _ 43 (0, 0) _ h, setRow_heap w p _ _ 43 (0, 0) h]
  rfl

/-- What text leaves of the builder's row of copied bytes. -/
structure Grew (B : Nat) (more : Value) (l news : List Int) (w : World) (v' : Value) (w' : World) : Prop where
  owns : w'.ownsRow B 5 1 v' (l ++ news).length (ints (l ++ news))
  place : v'.ownBlock = more.ownBlock ∨ ∃ k, v'.ownBlock = some k ∧ w.heap.size ≤ k
  some_ : l ++ news ≠ [] → ∃ k, v'.ownBlock = some k
  same : news = [] → v'.ownBlock = more.ownBlock

def TextPost (p B : Nat) (src more x2 x3 x4 : Value) (size : Int) (s m : Nat) (l news : List Int) (w : World) (e : Ending) (w' : World) : Prop :=
  ∃ v' z, e = .returned (.agg #[.int .u32 (s : Int), .int .u32 ((s + m : Nat) : Int)]) ∧ z = wrap64 (size + (m : Int)) ∧ w'.heap[p]? = some (bObj src v' x2 x3 x4 z) ∧ Grew B more l news w v' w' ∧ Touch (fun k => k = p ∨ more.ownBlock = some k) w w'

theorem wrap_u32_of (s : Nat) (h : s ≤ 4194304) : IntKind.u32.wrap (s : Int) = (s : Int) := by rw [IntKind.wrap_u32]; omega

set_option maxHeartbeats 1000000 in
theorem text19_in (p n c m d q B : Nat) (a t : Option Addr) (more : Value) (l : List Int) (x2 x3 x4 : Value) (size : Int) (w : World) (h : w.heap[p]? = some (bObj (.slice a n c) more x2 x3 x4 size)) (hrow : w.ownsRow B 5 1 more l.length (ints l)) (hpm : more.ownBlock ≠ some p) (hq : q + m ≤ n) (hn : n ≤ 1048576) :
    Calls Try.prog 19 #[.pointer (some ⟨p, 0, none⟩), .slice t m d, .int .i64 (q : Int)] w (TextPost p B (.slice a n c) more x2 x3 x4 size q m l [] w) := by
  obtain ⟨k0, k1, k5, kf⟩ := bObj_cell h
  have hp : p < w.heap.size := World.block_lt_of_cell? w _ k0
  have l0 : ∀ o, (w.alloc (.cells #[.int .u32 0, .int .u32 0] 45)).frozen? ⟨p, o, none⟩ = false := fun o => by
    rw [← kf o]; simp [World.frozen?, Below.heap_alloc w _ _ hp]
  have l1 : ∀ o, (w.alloc (.cells #[.int .u32 0, .int .u32 0] 45)).cell? ⟨p, o, none⟩ = w.cell? ⟨p, o, none⟩ := fun o => World.cell?_of_block (Below.heap_alloc w _ _ hp)
  have j5 := (l1 5).trans k5
  have jf := l0 5
  have hx : IntKind.i64.wrap ((q : Int) + (m : Int)) = ((q + m : Nat) : Int) := by rw [IntKind.wrap_i64]; omega
  have hy : IntKind.u32.wrap ((q + m : Nat) : Int) = ((q + m : Nat) : Int) := wrap_u32_of _ (by omega)
  have hz : IntKind.u32.wrap (q : Int) = (q : Int) := wrap_u32_of _ (by omega)
  have H : Hid (w.heap[p]? = some (bObj (.slice a n c) more x2 x3 x4 size)) := h
  have HR : Hid (w.ownsRow B 5 1 more l.length (ints l)) := hrow
  have HN : Hid (more.ownBlock ≠ some p) := hpm
  clear kf h l0 l1 k0 k1 k5 hrow hpm
  go_enter Try.func19, Try.ntmps19
  go_wp2
  have hT : Touch (fun k => k = p ∨ more.ownBlock = some k) w ((w.setCell ⟨p, 5, none⟩ (.int .i64 (wrap64 (size + (m : Int))))).alloc (.cells #[.int .u32 (q : Int), .int .u32 ((q : Int) + (m : Int))] 45)) :=
    ((Touch.refl _ _).setCell _ (fun _ => .inl rfl) _).alloc _
  have hT2 : Touch (fun k => k = p) w ((w.setCell ⟨p, 5, none⟩ (.int .i64 (wrap64 (size + (m : Int))))).alloc (.cells #[.int .u32 (q : Int), .int .u32 ((q : Int) + (m : Int))] 45)) :=
    (Touch.setCell (S := fun k => k = p) (Touch.refl _ _) _ (fun _ => rfl) _).alloc _
  refine bodyPost_ret (v := .agg #[.int .u32 (q : Int), .int .u32 ((q : Int) + (m : Int))]) (by simp [results, Try.results19, go_sem]) rfl ?_
  refine ⟨more, _, by simp, rfl, ?_, ⟨?_, .inl rfl, ?_, fun _ => rfl⟩, hT⟩
  · rw [Below.heap_alloc _ _ _ (by simpa [World.setCell] using hp)]
    exact bObj_set5 H.out
  · rw [List.append_nil]
    exact ownsRow_touch HR.out hT2 fun k hk hkp => HN.out (hkp ▸ hk)
  · intro hne
    rw [List.append_nil] at hne
    rcases HR.out.2 with ⟨_, hl⟩ | ⟨g, _, _, hg, _⟩
    · exact absurd (List.length_eq_zero_iff.1 hl) hne
    · rw [hg]; exact ⟨g, rfl⟩

/-- append(more, text...). -/
theorem appB (w : World) (B ty : Nat) (v : Value) (l : List Int) (t : Option Addr) (m d : Nat) (T : Nat → Int) (hown : w.ownsRow B 5 1 v l.length (ints l)) (hT : Rb w t m d T) (hd : t = none → d = 0) (hbig : l.length + m ≤ 4194304) (hB : B ≤ w.heap.size) :
    ∃ v' w', (Builtin.append_ #[22, 22] ty #[v, .slice t m d]).run Try.prog w = .ok v' w' ∧ Grew B v l (listOf m T) w v' w' ∧ Touch (fun k => v.ownBlock = some k) w w' := by
  obtain ⟨i0, hi0, hz0, hzs, hzb⟩ := infoB
  have hlen : (ints (listOf m T)).length = m := by rw [ints_length, listOf_length]
  obtain ⟨v', w', hr, A⟩ := append_row (P := Try.prog) w B 22 ty 5 i0 _ 1 Try.underlying22 hi0 hz0 hzs hzb rfl v (ints l) (by rw [ints_length]; exact hown) (.slice t m d) (ints (listOf m T)) (by
    cases t with
    | none =>
      rcases Nat.eq_zero_or_pos m with rfl | h0
      · exact .inl ⟨by rw [hd rfl], rfl⟩
      · obtain ⟨b, off, hb, _⟩ := hT.2.2 h0; cases hb
    | some x =>
      refine .inr ⟨x, d, by rw [hlen], ?_⟩
      rcases Nat.eq_zero_or_pos m with rfl | h0
      · intro j u hj; simp [ints, listOf] at hj
      · obtain ⟨y, hy, hc⟩ := hT.cells h0
        cases hy
        exact hc) (ints_one _) (by rw [ints_length, hlen]; omega) (by rw [ints_length, hlen]; unfold maxLen; omega) hB
  refine ⟨v', w', hr, ⟨?_, A.place, fun hne => A.some_ ?_, fun hn => A.same (by rw [hn]; rfl)⟩, A.touch⟩
  · have := A.owns
    rw [ints_length, ints_length, ← List.length_append] at this
    simpa [ints] using this
  · simp [ints] at hne ⊢
    exact hne

set_option maxHeartbeats 2000000 in
theorem text19_copy (p n c m d B : Nat) (q : Int) (a t : Option Addr) (T : Nat → Int) (more : Value) (l : List Int) (x2 x3 x4 : Value) (size : Int) (w : World) (h : w.heap[p]? = some (bObj (.slice a n c) more x2 x3 x4 size)) (hrow : w.ownsRow B 5 1 more l.length (ints l)) (hpm : more.ownBlock ≠ some p) (hT : Rb w t m d T) (hd : t = none → d = 0)
    (hB : B ≤ w.heap.size) (hq : q < 0) (hn : n ≤ 1048576) (hl : l.length ≤ 1048576) (hm : m ≤ 1048576) :
    Calls Try.prog 19 #[.pointer (some ⟨p, 0, none⟩), .slice t m d, .int .i64 q] w (TextPost p B (.slice a n c) more x2 x3 x4 size (n + l.length) m l (listOf m T) w) := by
  obtain ⟨b2, c2, rfl, -, -⟩ := ownsRow_slice hrow
  obtain ⟨k0, k1, k5, kf⟩ := bObj_cell h
  have hp : p < w.heap.size := World.block_lt_of_cell? w _ k0
  have hla : (w.alloc (.cells #[.int .u32 0, .int .u32 0] 45)).cell? ⟨p, 0, none⟩ = some (.slice a n c) := by rw [← k0]; exact World.cell?_of_block (Below.heap_alloc w _ _ hp)
  have hlb : (w.alloc (.cells #[.int .u32 0, .int .u32 0] 45)).cell? ⟨p, 1, none⟩ = some (.slice b2 l.length c2) := by rw [← k1]; exact World.cell?_of_block (Below.heap_alloc w _ _ hp)
  obtain ⟨nl, hnl⟩ : ∃ nl, nl = l.length := ⟨_, rfl⟩
  rw [← hnl] at hlb hl k1 h hrow hpm ⊢
  have hx0 : IntKind.i64.wrap ((n : Int) + (nl : Int)) = ((n + nl : Nat) : Int) := by rw [IntKind.wrap_i64]; omega
  have hx : IntKind.i64.wrap (((n + nl : Nat) : Int) + (m : Int)) = ((n + nl + m : Nat) : Int) := by rw [IntKind.wrap_i64]; omega
  have hy : IntKind.u32.wrap ((n + nl + m : Nat) : Int) = ((n + nl + m : Nat) : Int) := wrap_u32_of _ (by omega)
  have hz : IntKind.u32.wrap ((n + nl : Nat) : Int) = ((n + nl : Nat) : Int) := wrap_u32_of _ (by omega)
  have HH : Hid (w.heap[p]? = some (bObj (.slice a n c) (.slice b2 nl c2) x2 x3 x4 size) ∧ w.ownsRow B 5 1 (.slice b2 nl c2) nl (ints l) ∧ (Value.slice b2 nl c2).ownBlock ≠ some p ∧ Rb w t m d T ∧ (t = none → d = 0) ∧ nl = l.length) := ⟨h, hrow, hpm, hT, hd, hnl⟩
  clear h hrow hpm hT hd k0 k1 k5 kf hnl
  go_enter Try.func19, Try.ntmps19
  go_wp2
  go_quiet (fail)
  obtain ⟨w1, hw1⟩ : ∃ w1, w1 = (w.alloc (.cells #[.int .u32 0, .int .u32 0] 45)).drewN nq := ⟨_, rfl⟩
  have hsz : w1.heap.size = w.heap.size + 1 := by rw [hw1]; show (w.alloc _).heap.size = _; simp
  have hsp : w1.heap[w.heap.size]? = some (.cells #[.int .u32 0, .int .u32 0] 45 (0, 0)) := by rw [hw1]; exact heap_new w _
  have hT1 : Touch (fun _ => False) w w1 := by rw [hw1]; have h0 := (Touch.refl (fun _ => False) w).alloc (.cells #[.int .u32 0, .int .u32 0] 45); exact ⟨h0.os, h0.tape, h0.output, h0.size, h0.block⟩
  rw [← hw1]
  clear hw1 hla hlb
  obtain ⟨h, hrow, hpm, hT, hd, hnl⟩ := HH.out
  have hw1p : w1.heap[p]? = w.heap[p]? := hT1.block p hp (fun h => h)
  obtain ⟨v', w2, hr, hG, hT2⟩ := appB w1 B 22 (.slice b2 nl c2) l t m d T (by rw [← hnl]; exact ownsRow_touch hrow hT1 fun _ _ h => h) (hT.touch hT1 fun _ _ _ h => h) hd (by omega) (Nat.le_trans hB hT1.size)
  have hp1 : p < w1.heap.size := Nat.lt_of_lt_of_le hp hT1.size
  have hnsp : (Value.slice b2 nl c2).ownBlock ≠ some w.heap.size := fun e => by have := (ownsRow_lt hrow e).2; omega
  have hsp2 : w2.heap[w.heap.size]? = some (.cells #[.int .u32 0, .int .u32 0] 45 (0, 0)) := by rw [hT2.block _ (by omega) (fun e => hnsp e)]; exact hsp
  have hw2p : w2.heap[p]? = some (bObj (.slice a n c) (.slice b2 nl c2) x2 x3 x4 size) := by
    rw [hT2.block p hp1 (fun e => hpm e), hw1p]; exact h
  have hw3p := bObj_set1 (v := v') hw2p
  obtain ⟨-, k1', k5', kf'⟩ := bObj_cell hw2p
  obtain ⟨a', c', hv', -, -⟩ := ownsRow_slice hG.owns
  obtain ⟨nn, hnn⟩ : ∃ nn, nn = (l ++ listOf m T).length := ⟨_, rfl⟩
  rw [← hnn] at hv'
  subst hv'
  have k1w : w1.cell? ⟨p, 1, none⟩ = some (.slice b2 nl c2) := by rw [← (bObj_cell h).2.1]; exact World.cell?_of_block hw1p
  have kf1 := kf' 1
  have kf5 := kf' 5
  have s0 : w2.cell? ⟨w.heap.size, 0, none⟩ = some (.int .u32 0) := by simp [World.cell?, hsp2]
  have s1 : w2.cell? ⟨w.heap.size, 1, none⟩ = some (.int .u32 0) := by simp [World.cell?, hsp2]
  have s2 : w2.frozen? ⟨w.heap.size, 0, none⟩ = false := by simp [World.frozen?, hsp2]
  have s3 : w2.frozen? ⟨w.heap.size, 1, none⟩ = false := by simp [World.frozen?, hsp2]
  have hne : p ≠ w.heap.size := by omega
  have hne' : w.heap.size ≠ p := by omega
  have Hr : Hid ((Builtin.append_ #[22, 22] 22 #[.slice b2 nl c2, .slice t m d]).run Try.prog w1 = .ok (.slice a' nn c') w2) := hr
  have HG : Hid (Grew B (.slice b2 nl c2) l (listOf m T) w1 (.slice a' nn c') w2 ∧ Touch (fun k => (Value.slice b2 nl c2).ownBlock = some k) w1 w2 ∧ w2.heap[w.heap.size]? = some (.cells #[.int .u32 0, .int .u32 0] 45 (0, 0)) ∧ w2.heap[p]? = some (bObj (.slice a n c) (.slice b2 nl c2) x2 x3 x4 size)) := ⟨hG, hT2, hsp2, hw2p⟩
  clear hr kf' hw1p h hnn hnl hrow hpm hT hd hw3p hw2p hsp2 hsp hG hT2
  go_wp2_with (at_builtin; refine Lib.wpList_append_run _ rfl _ _ 22 22 rfl _ _ rfl rfl _ _ Hr.out ?_)
  refine bodyPost_ret (v := .agg #[.int .u32 ((n : Int) + (nl : Int)), .int .u32 ((n : Int) + (nl : Int) + (m : Int))]) (by simp [results, Try.results19, go_sem, s0, s1, s2, s3, hne, hne', kf1, kf5, k1', k5']) rfl ?_
  obtain ⟨h, hrow, hpm, hT, hd, hnl⟩ := HH.out
  obtain ⟨hG, hT2, hsp2, hw2p⟩ := HG.out
  have hv1 : (Value.slice a' nn c').ownBlock ≠ some p := fun e => by
    rcases hG.place with h | ⟨k, h, hk⟩
    · exact hpm (h ▸ e)
    · rw [e] at h; cases h; omega
  have hv2 : (Value.slice a' nn c').ownBlock ≠ some w.heap.size := fun e => by
    rcases hG.place with h | ⟨k, h, hk⟩
    · exact hnsp (h ▸ e)
    · rw [e] at h; cases h; omega
  have q3 := bObj_set5 (z := wrap64 (size + (m : Int))) (bObj_set1 (v := .slice a' nn c') hw2p)
  have tA : Touch (fun k => k = p ∨ k = w.heap.size) w2 ((((w2.setCell ⟨p, 1, none⟩ (.slice a' nn c')).setCell ⟨p, 5, none⟩ (.int .i64 (wrap64 (size + (m : Int))))).setCell ⟨w.heap.size, 0, none⟩ (.int .u32 ((n : Int) + (nl : Int)))).setCell ⟨w.heap.size, 1, none⟩ (.int .u32 ((n : Int) + (nl : Int) + (m : Int)))) :=
    ((((Touch.refl _ _).setCell _ (fun _ => .inl rfl) _).setCell _ (fun _ => .inl rfl) _).setCell _ (fun _ => .inr rfl) _).setCell _ (fun _ => .inr rfl) _
  have tB : Touch (fun k => k = p ∨ (Value.slice b2 nl c2).ownBlock = some k) w w2 := (hT1.mono fun _ _ h => h.elim).trans hT2 (fun i _ h => .inr h)
  refine ⟨.slice a' nn c', _, by simp [hnl], rfl, ?_, ⟨?_, ?_, hG.some_, hG.same⟩, tB.trans tA fun i hi h => h.elim .inl (fun h => absurd h (Nat.ne_of_lt hi))⟩
  · rw [Below.heap_setCell _ _ _ _ hne, Below.heap_setCell _ _ _ _ hne]
    exact q3
  · exact ownsRow_touch hG.owns tA fun k hk h => h.elim (fun e => hv1 (e ▸ hk)) (fun e => hv2 (e ▸ hk))
  · rcases hG.place with h | ⟨k, h, hk⟩
    · exact .inl h
    · exact .inr ⟨k, h, by omega⟩
end Go.Proofs.Qxb6604050a
