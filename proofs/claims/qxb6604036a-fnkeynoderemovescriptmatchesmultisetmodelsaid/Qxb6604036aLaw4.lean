/- FnKeyNodeInsertScriptBuildsSortedTree (4): the walk. -/
import Derived.Test.Qxb6604036aAll
namespace Go.Proofs.Qxb6604036a
open Go.RowKit Plain
set_option linter.unusedVariables false
set_option linter.unusedSimpArgs false

theorem Plain.weave_length {α : Type} : ∀ (L : List (List α)) (ks : List α), (L.map List.length).sum ≤ (weave L ks).length
  | [], _ => by simp
  | l :: L, [] => by have := weave_length L []; simp [weave]; exact this
  | l :: L, k :: ks => by have := weave_length L ks; simp [weave]; omega

theorem sum_ge {α : Type} (f : α → Nat) (c : Nat) : ∀ (L : List α), (∀ x ∈ L, c ≤ f x) → L.length * c ≤ (L.map f).sum
  | [], _ => by simp
  | l :: L, h => by
    have h1 := sum_ge f c L fun x hx => h x (by simp [hx])
    have h2 := h l (by simp)
    simp [Nat.add_mul]; omega

theorem child_big : ∀ (h : Nat) (t : AT h), okT h 32 t → 2 ^ h ≤ (inorder h t).length
  | 0, t, hok => by have := hok.1; show 1 ≤ t.ks.length; omega
  | h + 1, t, hok => by
    obtain ⟨h1, h2, h3, h4⟩ := hok
    have e : (inorder (h + 1) t).length ≥ ((t.2.map (inorder h)).map List.length).sum := Plain.weave_length _ _
    rw [List.map_map] at e
    have s := sum_ge (List.length ∘ inorder h) (2 ^ h) t.2 fun c hc => child_big h c (h4 c hc)
    have : 2 * 2 ^ h ≤ t.2.length * 2 ^ h := Nat.mul_le_mul_right _ (by omega)
    rw [Nat.pow_succ]; omega

theorem root_small (h : Nat) (t : AT h) (hok : okT h (rootMin h) t) (hn : (inorder h t).length ≤ 65536) : h ≤ 16 := by
  cases h with
  | zero => omega
  | succ h =>
    obtain ⟨h1, h2, h3, h4⟩ := hok
    have e : (inorder (h + 1) t).length ≥ ((t.2.map (inorder h)).map List.length).sum := Plain.weave_length _ _
    rw [List.map_map] at e
    have s := sum_ge (List.length ∘ inorder h) (2 ^ h) t.2 fun c hc => child_big h c (h4 c hc)
    have hr : rootMin (h + 1) = 1 := by simp [rootMin]
    have : 2 * 2 ^ h ≤ t.2.length * 2 ^ h := Nat.mul_le_mul_right _ (by omega)
    rcases Nat.lt_or_ge h 16 with hlt | hge
    · omega
    · have := Nat.pow_le_pow_right (n := 2) (by omega) hge
      omega

theorem alloc_setCell_int (w : World) (v : Int) : (w.alloc (.cells #[.int .i64 v] 3)).heap[w.heap.size]? = some (.cells #[.int .i64 v] 3 (0, 0)) := heap_new w _

/-- Whatever the keys: true; and nothing that was there has turned. -/
def LawPost (w : World) (e : Ending) (w' : World) : Prop := e = .returned (.bool true) ∧ Below w.heap.size w w'

theorem Rd.below {w w' : World} {B n c : Nat} {a : Option Addr} {S : Nat → ByteArray} (h : Rd w a n c S) (hb : Below B w w') (hab : ∀ x, a = some x → 0 < n → x.block < B) : Rd w' a n c S := by
  refine ⟨h.1, h.2.1, fun h0 => ?_⟩
  obtain ⟨b, off, rfl, hc⟩ := h.2.2 h0
  exact ⟨b, off, rfl, fun k hk => by rw [← hc k hk]; exact World.cell?_of_block (hb.block b (hab _ rfl h0))⟩

set_option maxHeartbeats 4000000 in
set_option maxRecDepth 100000 in
theorem law4 (a : Option Addr) (n c : Nat) (S : Nat → ByteArray) (w : World) (h : Rd w a n c S) (hS : ∀ k, (S k).size ≤ maxLen) :
    Calls Try.prog 4 #[.slice a n c] w (LawPost w) := by
  have HRd : Hid (Rd w a n c S) := h
  have HS : Hid (∀ k, (S k).size ≤ maxLen) := hS
  have HAB : Hid (∀ x, a = some x → 0 < n → x.block < w.heap.size) := h.lt
  obtain ⟨h1, h2, h3⟩ := h
  clear h3
  unfold maxLen at h2
  clear hS
  go_enter Try.func4, Try.ntmps4
  go_wp2_with fail
  refine (bytes16 a n c S w HRd.out HS.out).mono ?_
  rintro e w1 ⟨r, rfl, rfl⟩
  cases r
  · go_wp2
    go_ret
    exact ⟨rfl, Below.refl _ _⟩
  rcases Nat.lt_or_ge 65536 n with hn | hn
  · have hnI : (65536 : Int) < (n : Int) := by omega
    go_wp2
    go_ret
    exact ⟨rfl, Below.refl _ _⟩
  have hnI : ¬ (65536 : Int) < (n : Int) := by omega
  go_wp2_with fail
  have b1 : Below w.heap.size w (w.alloc (.cells #[.int .i64 1048576] 3)) := (Below.refl _ _).alloc (Nat.le_refl _) _
  refine (fits17 a n c w.heap.size S _ (HRd.out.below b1 fun x hx h0 => HAB.out x hx h0) HS.out ⟨1048576, heap_new w _⟩ (fun x hx h0 e => by have := HAB.out x hx h0; omega)).mono ?_
  rintro e w2 ⟨r, rfl, ht2, _⟩
  have b2 : Below w.heap.size w w2 := b1.trans (ht2.below (by simp) fun k hk => by omega)
  have HB2 : Hid (Below w.heap.size w w2) := b2
  have hs2 := b2.size
  clear b1 b2 ht2
  cases r
  · go_wp2
    go_ret
    exact ⟨rfl, HB2.out⟩
  go_wp2_with fail
  have HR2 : Hid (Rd w2 a n c S) := HRd.out.below HB2.out fun x hx h0 => HAB.out x hx h0
  refine (all18 w2.heap.size n a c S w2 (Nat.le_refl _) HR2.out (fun x hx h0 => by have := HAB.out x hx h0; omega)).mono ?_
  rintro e w3 ⟨h, t, ys, rfl, hR, hp⟩
  have HR : Hid (RootRel w2.heap.size w2 h t ys w3 ∧ ys.Perm ((List.range n).map S)) := ⟨hR, hp⟩
  have hs3 := hR.size
  have hlen : (inorder h t).length = n := by rw [hR.perm.length_eq, hp.length_eq]; simp
  have HL : Hid ((inorder h t).length = n) := hlen
  have hh := root_small h t hR.ok (by omega)
  have hBw : Hid (Below w.heap.size w w3) := HB2.out.trans (hR.below.mono hs2)
  clear hR hp hlen
  go_wp2_with fail
  refine (rootOk19 w2.heap.size h t w3 HR.out.1.lies HR.out.1.ok (by omega)).mono ?_
  rintro e w3' ⟨rfl, rfl⟩
  go_wp2_with fail
  refine (order15 w2.heap.size h (rootMin h) t HR.out.1.ok (.slice none 0 0) [] w3 HR.out.1.lies (World.ownsRow_nil _ _ _ _) (by simp [Value.ownBlock]) (by have := HL.out; simp; omega) hs3).mono ?_
  rintro e w4 ⟨v1, rfl, hO⟩
  have hs4 := hO.touch.size
  have b4 : Below w.heap.size w w4 := hBw.out.trans (hO.touch.below (by omega) (by simp [Value.ownBlock]))
  have HB4 : Hid (Below w.heap.size w w4) := b4
  have hO' : w4.ownsRow w2.heap.size 9 1 v1 (inorder h t).length (strs (inorder h t)) := by simpa using hO.owns
  have HO : Hid (w4.ownsRow w2.heap.size 9 1 v1 (inorder h t).length (strs (inorder h t))) := hO'
  clear hO'
  clear hO b4 hBw
  go_wp2_with fail
  refine (sort20 w2.heap.size n (by omega) a c S w4 (by omega) (HRd.out.below HB4.out fun x hx h0 => HAB.out x hx h0)).mono ?_
  rintro e w5 ⟨v2, l, rfl, hol, hll, hpl, hsl, ht5, _⟩
  have hs5 := ht5.size
  have HB5 : Hid (Below w.heap.size w w5) := HB4.out.trans (ht5.below (by omega) fun k h => h.elim)
  have hO5 : w5.ownsRow w2.heap.size 9 1 v1 (inorder h t).length (strs (inorder h t)) := ownsRow_touch HO.out ht5 fun _ _ => id
  have heq : inorder h t = l := sorted_unique sto _ _ HR.out.1.sorted hsl (HR.out.1.perm.trans (HR.out.2.trans hpl.symm))
  obtain ⟨a1, c1, hv1, hr1⟩ := Rd.ofOwns hO5
  rw [← hll] at hol
  obtain ⟨a2, c2, hv2, hr2⟩ := Rd.ofOwns hol
  have HE : Hid (inorder h t = l) := heq
  subst hv1
  subst hv2
  have HEq := equal14 a1 a2 _ c1 _ c2 _ _ w5 hr1 hr2
  have HEq' : Hid (Calls Try.prog 14 #[.slice a1 (inorder h t).length c1, .slice a2 l.length c2] w5 (EqPost (inorder h t).length l.length (fun k => (inorder h t).getD k ByteArray.empty) (fun k => l.getD k ByteArray.empty) w5)) := HEq
  clear HEq hr1 hr2 heq hO5 hol hll hpl hsl ht5 HO HL HR HR2 HRd
  go_wp2_with fail
  refine HEq'.out.mono ?_
  clear HEq'
  rintro e w6 ⟨r, rfl, hM, hr⟩
  have hrt : r = true := hr.2 (by rw [HE.out]; exact ⟨rfl, fun _ _ => rfl⟩)
  subst hrt
  have HB6 : Hid (Below w.heap.size w w6) := ⟨hM.os.trans HB5.out.os, hM.tape.trans HB5.out.tape, hM.output.trans HB5.out.output, by rw [hM.heap]; exact HB5.out.size, fun k hk => by rw [hM.heap]; exact HB5.out.block k hk⟩
  clear hM hr
  go_wp2
  go_ret
  exact ⟨rfl, HB6.out⟩

end Go.Proofs.Qxb6604036a
