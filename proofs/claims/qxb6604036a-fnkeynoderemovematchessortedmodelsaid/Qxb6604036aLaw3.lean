/- FnKeyNodeInsertMatchesSortedModel (3): the walk. -/
import Derived.Test.Qxb6604036aPath
import Derived.Test.Qxb6604036aBuild
import Derived.BigQuiet
import Derived.Deep.QuietTactic
namespace Go.Proofs.Qxb6604036a
open Go.RowKit Plain
set_option linter.unusedVariables false
set_option linter.unusedSimpArgs false

theorem keysOf' {B h : Nat} {t : AT h} {w : World} (hl : Lies B w h t) : ∃ a c, ∀ u : World, Mem w u → Calls Try.prog 13 #[.pointer (some ⟨(hd h t).p, 0, none⟩)] u fun e w' => e = .returned (.slice a (hd h t).ks.length c) ∧ u = w' := by
  obtain ⟨hN, _, hK⟩ := hl.node
  obtain ⟨a, c, hkv, _, _⟩ := ownsRow_slice hK
  obtain ⟨b, m, d, hcv⟩ : ∃ b m d, (hd h t).cv = .slice b m d := by
    cases h with
    | zero => exact ⟨_, _, _, hl.2.2.2⟩
    | succ h => obtain ⟨b, d, e, _, _⟩ := ownsRow_slice hl.2.2.2.1; exact ⟨_, _, _, e⟩
  rw [hkv, hcv] at hN
  exact ⟨a, c, fun u hu => keysOf _ _ _ _ _ _ _ _ (by rw [hu.heap]; exact hN)⟩

theorem Mem.below {B : Nat} {w w1 w2 : World} (hm : Mem w1 w2) (hb : Below B w w1) : Below B w w2 :=
  ⟨hm.os.trans hb.os, hm.tape.trans hb.tape, hm.output.trans hb.output, by rw [hm.heap]; exact hb.size, fun k hk => by rw [hm.heap]; exact hb.block k hk⟩

/-- Where the root's keys are read. -/
theorem In.keys {w : World} : ∀ {f : Nat} {t : IT f} {v : Value} {mn h : Nat}, In w f t v → okI f t mn h → ∃ b off ka kc, v = .pointer (some ⟨b, off, none⟩) ∧ w.cell? ⟨b, off, none⟩ = some (.slice ka (keysI f t).length kc) ∧ (keysI f t).length ≤ kc ∧ kc ≤ maxLen
  | f + 1, some (ks, cs), v, mn, h, hin, _ => by
    obtain ⟨b, off, ka, kc, ca, cc, rfl, g1, g2, g3, g4, g5, g6, g7⟩ := hin
    exact ⟨b, off, ka, kc, rfl, g1, g3.1, g3.2.1⟩

set_option maxHeartbeats 8000000 in
set_option maxRecDepth 100000 in
theorem law3 (f : Nat) (t : IT f) (v : Value) (x : ByteArray) (w : World) (hin : In w f t v) (hx : x.size ≤ maxLen) : Calls Try.prog 3 #[v, .string x] w (LawPost w) := by
  have HIN : Hid (In w f t v) := hin
  obtain ⟨av, hv⟩ := hin.ptr
  subst hv
  clear hin
  unfold maxLen at hx
  rcases Nat.lt_or_ge 1048576 x.size with hbig | hbig
  · have hbI : (1048576 : Int) < (x.size : Int) := by omega
    go_enter Try.func3, Try.ntmps3
    go_wp2
    go_ret
    exact ⟨rfl, Below.refl _ _⟩
  have hbI : ¬ (1048576 : Int) < (x.size : Int) := by omega
  have hc7 : Hid (Calls Try.prog 7 #[.pointer av, .int .i64 (1048576 - (x.size : Int))] w (TreePost f t (1048576 - x.size) w)) := by
    have := tree7 f t (.pointer av) (1048576 - x.size) w HIN.out (by omega)
    rw [show ((1048576 - x.size : Nat) : Int) = 1048576 - (x.size : Int) by omega] at this
    exact this
  go_enter Try.func3, Try.ntmps3
  go_wp2_with fail
  refine hc7.out.mono ?_
  clear hc7
  rintro e w1 ⟨xh, vb, ok, rfl, hT1, hok⟩
  have hb1 : Below w.heap.size w w1 := hT1.below (Nat.le_refl _) fun q hq => hq.elim
  have HB1 : Hid (Below w.heap.size w w1) := hb1
  have hs1 := hb1.size
  cases ok
  · clear hT1 hok hb1
    go_wp2
    go_ret
    exact ⟨rfl, HB1.out⟩
  obtain ⟨h, rfl, hokI, hh, hroot, hrow, hsort, hcnt⟩ := hok rfl
  have HK : Hid (okI f t 0 h ∧ w1.ownsRow w.heap.size 9 1 vb (ordI f t).length (strs (ordI f t)) ∧ Sorted sl (ordI f t) ∧ (ordI f t).length ≤ 65536) := ⟨hokI, hrow, hsort, by have := ordI_le f t; omega⟩
  have hc8 : Hid (Calls Try.prog 8 #[.pointer av, .string x] w1 (PathPost f t x w1)) := path8 f t _ x 0 h w1 (HIN.out.below hb1) hokI hh
  clear hok hokI hrow hsort hcnt hroot hT1 hb1
  go_wp2_with fail
  refine hc8.out.mono ?_
  clear hc8
  rintro e w1' ⟨rfl, ful, rfl, hful⟩
  have HFUL : Hid (ful = true ↔ fullI f t x) := hful
  clear hful
  have hc9 : Hid (Calls Try.prog 9 #[.pointer av] w1 (BuildPost w.heap.size f t 0 h w1)) := build9 w f t _ 0 h HK.out.1 HIN.out w1 HB1.out
  go_wp2_with fail
  refine hc9.out.mono ?_
  clear hc9
  rintro e w2 ⟨t', he, htw, hl2, hnd2, hf2, hT2⟩
  have hs2 := hT2.size
  have HT' : Hid (Twin f t 0 h t' ∧ Lies w.heap.size w2 h t' ∧ (foot h t').Nodup ∧ (∀ k ∈ foot h t', w1.heap.size ≤ k) ∧ Touch (fun _ => False) w1 w2) := ⟨htw, hl2, hnd2, hf2, hT2⟩
  have hc10 : Hid (Calls Try.prog 10 #[.pointer (some ⟨(hd h t').p, 0, none⟩), .string x] w2 (InsertPost w.heap.size h t' x 0 w2)) := insert10 w.heap.size h 0 t' x w2 (by omega) hl2 hnd2 htw.ok (by rw [htw.ord]; exact HK.out.2.2.1)
  obtain ⟨p, hp⟩ : ∃ p, p = (hd h t').p := ⟨_, rfl⟩
  have he' : e = .returned (.pointer (some ⟨p, 0, none⟩)) := by rw [he, hp]; rfl
  subst he'
  rw [← hp] at hc10
  have HP : Hid (p = (hd h t').p) := hp
  clear he htw hl2 hnd2 hf2 hT2 hp
  go_wp2_with fail
  refine hc10.out.mono ?_
  clear hc10
  rintro e w3 ⟨hT3, hcase⟩
  have hs3 := hT3.size
  have hrow3 : w3.ownsRow w.heap.size 9 1 vb (ordI f t).length (strs (ordI f t)) := by
    have h2 : w2.ownsRow w.heap.size 9 1 vb (ordI f t).length (strs (ordI f t)) := ownsRow_touch HK.out.2.1 HT'.out.2.2.2.2 fun _ _ => id
    refine ownsRow_touch h2 hT3 fun k hk hm => ?_
    have h3 := HT'.out.2.2.2.1 k hm
    have h4 := (ownsRow_lt HK.out.2.1 hk).2
    omega
  have HB3 : Hid (Below w.heap.size w w3) := HB1.out.trans ((HT'.out.2.2.2.2.below hs1 fun q hq => hq.elim).trans (hT3.below (by omega) fun k hk => by have := HT'.out.2.2.2.1 k hk; omega))
  have hc11 : Hid (Calls Try.prog 11 #[vb, .string x] w3 (WithPost w.heap.size (sins sl x (ordI f t)) w3)) := with11 w.heap.size vb (ordI f t) x w3 hrow3 (by have := HK.out.2.2.2; omega) (by omega)
  clear hT3 hrow3
  rcases hcase with ⟨t2, rfl, hp2, hl3, hnd3, hsub3, hok3, hks3, hord3, hnf⟩ | ⟨t2, r2, mid, he, hp2, hl3, hlr3, hnd3, hsub3, hok3, hokr3, hord3, hfu⟩
  · have HR : Hid (p = (hd h t2).p ∧ Lies w.heap.size w3 h t2 ∧ okT h 0 t2 ∧ (hd h t').ks.length ≤ (hd h t2).ks.length ∧ inorder h t2 = sins sl x (ordI f t)) := ⟨by rw [HP.out, hp2], hl3, hok3, hks3, by rw [hord3, HT'.out.1.ord]⟩
    have hfulF : ful = false := by
      cases ful with
      | false => rfl
      | true => exact absurd ((HT'.out.1.full x).2 (HFUL.out.1 rfl)) hnf
    subst hfulF
    clear hp2 hl3 hnd3 hsub3 hok3 hks3 hord3 hnf
    go_wp2_with fail
    refine hc11.out.mono ?_
    clear hc11
    rintro e w4 ⟨vw, rfl, hF⟩
    have hs4 := hF.touch.size
    have HF : Hid (FR w.heap.size w3 (sins sl x (ordI f t)) vw w4) := hF
    have HL4 : Hid (Lies w.heap.size w4 h t2) := Lies.same h t2 HR.out.2.1 fun k hk => hF.touch.block k (Lies.lt h t2 HR.out.2.1 k hk).2 id
    have HB4 : Hid (Below w.heap.size w w4) := HB3.out.trans (hF.touch.below (by omega) fun q hq => hq.elim)
    clear hF
    have hc12 : Hid (Calls Try.prog 12 #[.pointer (some ⟨p, 0, none⟩), .int .i64 0, .int .i64 0] w4 fun e w' => e = .returned (.tuple #[.int .i64 ((h : Int) + 1), .bool true]) ∧ w4 = w') := by
      have := shape12 w.heap.size w4 h 0 t2 0 HL4.out HR.out.2.2.1 (by omega)
      rw [HR.out.1]; exact this
    go_wp2_with fail
    refine hc12.out.mono ?_
    clear hc12
    rintro e w4' ⟨rfl, rfl⟩
    obtain ⟨b, off, ka, kc, hav, hcell, hkc, hkm⟩ := In.keys HIN.out HK.out.1
    cases hav
    have c4 : w4.cell? ⟨b, off, none⟩ = some (.slice ka (keysI f t).length kc) := Below.keeps HB4.out _ _ hcell
    obtain ⟨nk, hnk⟩ : ∃ nk, nk = (keysI f t).length := ⟨_, rfl⟩
    obtain ⟨n2, hn2⟩ : ∃ n2, n2 = (hd h t2).ks.length := ⟨_, rfl⟩
    have hle : nk ≤ n2 := by have h1 := HR.out.2.2.2.1; rw [HT'.out.1.keys] at h1; omega
    unfold maxLen at hkm
    rw [← hnk] at c4 hkc
    obtain ⟨a2, c2, hc13⟩ := keysOf' HL4.out
    rw [← HR.out.1, ← hn2] at hc13
    have HC13 : Hid (∀ u : World, Mem w4 u → Calls Try.prog 13 #[.pointer (some ⟨p, 0, none⟩)] u fun e w' => e = .returned (.slice a2 n2 c2) ∧ u = w') := hc13
    have hn2b : n2 ≤ 64 := by rw [hn2]; exact (okT_le HR.out.2.2.1).2
    have hleI : ¬ (n2 : Int) < (nk : Int) := by omega
    clear hc13 hcell hnk hn2
    go_wp2
    go_quiet ((go_at_call 13; refine Calls.quiet_of_same ((HC13.out _ (mem_drewN _ _)).mono fun _ _ hq => ⟨hq.1, hq.2.symm⟩)))
    have HM5 : Hid (Mem w4 (w4.drewN nq)) := mem_drewN w4 nq
    have HL5 : Hid (Lies w.heap.size (w4.drewN nq) h t2) := Lies.same h t2 HL4.out fun k hk => by rw [HM5.out.heap]
    have hlenS : (sins sl x (ordI f t)).length ≤ 65537 := by rw [sins_length]; have := HK.out.2.2.2; omega
    have hc15 : Hid (Calls Try.prog 15 #[.pointer (some ⟨p, 0, none⟩), .slice none 0 0] (w4.drewN nq) (OrdPost w.heap.size (.slice none 0 0) [] (sins sl x (ordI f t)) (w4.drewN nq))) := by
      have := order15 w.heap.size h 0 t2 HR.out.2.2.1 (.slice none 0 0) [] (w4.drewN nq) HL5.out (World.ownsRow_nil _ _ _ _) (by simp [Value.ownBlock]) (by rw [HR.out.2.2.2.2]; simp only [List.length_nil]; omega) (by rw [HM5.out.heap]; omega)
      rw [HR.out.2.2.2.2] at this
      rw [HR.out.1]; exact this
    have HF5 : Hid (FR w.heap.size w3 (sins sl x (ordI f t)) vw (w4.drewN nq)) := HF.out.mem HM5.out
    have HB5 : Hid (Below w.heap.size w (w4.drewN nq)) := HM5.out.below HB4.out
    obtain ⟨W5, hW5⟩ : ∃ W5, W5 = w4.drewN nq := ⟨_, rfl⟩
    rw [← hW5] at hc15 HF5 HB5 ⊢
    clear HM5 HL5 hW5 c4 HC13 HF HL4 HB4
    go_wp2_with fail
    refine hc15.out.mono ?_
    clear hc15
    rintro e w6 ⟨v1, rfl, hO⟩
    have hO1 : w6.ownsRow w.heap.size 9 1 v1 (sins sl x (ordI f t)).length (strs (sins sl x (ordI f t))) := by simpa using hO.owns
    have hO2 : w6.ownsRow w.heap.size 9 1 vw (sins sl x (ordI f t)).length (strs (sins sl x (ordI f t))) := ownsRow_touch HF5.out.owns hO.touch fun k _ hk => by simp [Value.ownBlock] at hk
    have HB6 : Hid (Below w.heap.size w w6) := HB5.out.trans (hO.touch.below HB5.out.size (by simp [Value.ownBlock]))
    obtain ⟨a1, c1, hv1, hr1⟩ := Rd.ofOwns hO1
    obtain ⟨a3, c3, hv3, hr3⟩ := Rd.ofOwns hO2
    subst hv1
    obtain ⟨LS, hLS⟩ : ∃ LS, LS = (sins sl x (ordI f t)).length := ⟨_, rfl⟩
    have hc14 : Hid (Calls Try.prog 14 #[.slice a1 LS c1, .slice a3 LS c3] w6 (EqPost LS LS (fun k => (sins sl x (ordI f t)).getD k ByteArray.empty) (fun k => (sins sl x (ordI f t)).getD k ByteArray.empty) w6)) := by rw [hLS]; exact equal14 a1 a3 _ c1 _ c3 _ _ w6 hr1 hr3
    rw [← hLS] at hv3 ⊢
    subst hv3
    clear hr1 hr3 hO1 hO2 hO hLS HF5 HB5
    go_wp2_with fail
    refine hc14.out.mono ?_
    clear hc14
    rintro e w7 ⟨r, rfl, hM, hr⟩
    have hrt : r = true := hr.2 ⟨rfl, fun _ _ => rfl⟩
    subst hrt
    have HB7 : Hid (Below w.heap.size w w7) := hM.below HB6.out
    clear hM hr
    go_wp2
    go_ret
    exact ⟨rfl, HB7.out⟩
  · obtain ⟨q, hq⟩ : ∃ q, q = (hd h r2).p := ⟨_, rfl⟩
    have he' : e = .returned (.tuple #[.string mid, .pointer (some ⟨q, 0, none⟩)]) := by rw [he, hq]; rfl
    subst he'
    have HR : Hid (p = (hd h t2).p ∧ q = (hd h r2).p ∧ Lies w.heap.size w3 h t2 ∧ Lies w.heap.size w3 h r2 ∧ okT h 32 t2 ∧ okT h 32 r2 ∧ (inorder h t2 ++ [mid]) ++ inorder h r2 = sins sl x (ordI f t)) := ⟨by rw [HP.out, hp2], hq, hl3, hlr3, hok3, hokr3, by rw [← HT'.out.1.ord, ← hord3]; simp⟩
    have hfulT : ful = true := HFUL.out.2 ((HT'.out.1.full x).1 hfu)
    subst hfulT
    clear hp2 hl3 hlr3 hnd3 hsub3 hok3 hokr3 hord3 hfu he hq
    go_wp2_with fail
    refine hc11.out.mono ?_
    clear hc11
    rintro e w4 ⟨vw, rfl, hF⟩
    have hs4 := hF.touch.size
    have HF : Hid (FR w.heap.size w3 (sins sl x (ordI f t)) vw w4) := hF
    have HL4 : Hid (Lies w.heap.size w4 h t2 ∧ Lies w.heap.size w4 h r2) := ⟨Lies.same h t2 HR.out.2.2.1 fun k hk => hF.touch.block k (Lies.lt h t2 HR.out.2.2.1 k hk).2 id, Lies.same h r2 HR.out.2.2.2.1 fun k hk => hF.touch.block k (Lies.lt h r2 HR.out.2.2.2.1 k hk).2 id⟩
    have HB4 : Hid (Below w.heap.size w w4) := HB3.out.trans (hF.touch.below (by omega) fun q hq => hq.elim)
    clear hF
    have hc12 : Hid (Calls Try.prog 12 #[.pointer (some ⟨p, 0, none⟩), .int .i64 32, .int .i64 0] w4 fun e w' => e = .returned (.tuple #[.int .i64 ((h : Int) + 1), .bool true]) ∧ w4 = w') := by
      have := shape12 w.heap.size w4 h 32 t2 0 HL4.out.1 HR.out.2.2.2.2.1 (by omega)
      rw [HR.out.1]; exact this
    have hc12' : Hid (Calls Try.prog 12 #[.pointer (some ⟨q, 0, none⟩), .int .i64 32, .int .i64 0] w4 fun e w' => e = .returned (.tuple #[.int .i64 ((h : Int) + 1), .bool true]) ∧ w4 = w') := by
      have := shape12 w.heap.size w4 h 32 r2 0 HL4.out.2 HR.out.2.2.2.2.2.1 (by omega)
      rw [HR.out.2.1]; exact this
    have hlenS : ((inorder h t2 ++ [mid]) ++ inorder h r2).length ≤ 65537 := by rw [HR.out.2.2.2.2.2.2, sins_length]; have := HK.out.2.2.2; omega
    have HLEN : Hid ((inorder h t2).length + 1 + (inorder h r2).length ≤ 65537) := by
      show _ ≤ 65537
      simp only [List.length_append, List.length_cons, List.length_nil] at hlenS
      omega
    clear hlenS
    have hc15 : Hid (Calls Try.prog 15 #[.pointer (some ⟨p, 0, none⟩), .slice none 0 0] w4 (OrdPost w.heap.size (.slice none 0 0) [] (inorder h t2) w4)) := by
      have := order15 w.heap.size h 32 t2 HR.out.2.2.2.2.1 (.slice none 0 0) [] w4 HL4.out.1 (World.ownsRow_nil _ _ _ _) (by simp [Value.ownBlock]) (by have := HLEN.out; simp only [List.length_nil]; omega) (by omega)
      rw [HR.out.1]; exact this
    go_wp2_with fail
    refine hc12.out.mono ?_
    clear hc12
    rintro e w4' ⟨rfl, rfl⟩
    go_wp2_with fail
    refine hc12'.out.mono ?_
    clear hc12'
    rintro e w4' ⟨rfl, rfl⟩
    go_wp2_with fail
    refine hc15.out.mono ?_
    clear hc15
    rintro e w5 ⟨v1, rfl, hO⟩
    have hs5 := hO.touch.size
    have ho1 : w5.ownsRow w.heap.size 9 1 v1 (inorder h t2).length (strs (inorder h t2)) := by simpa using hO.owns
    obtain ⟨v2, w6, hr2, ha2⟩ := appS_one (w5.alloc (.cells #[.string mid] 9)) w.heap.size 23 v1 (strs (inorder h t2)) (.string mid) w5.heap.size 1 (by rw [strs_length]; exact ho1.alloc _) (by rw [cell_of_row _ _ 0 #[.string mid] 9 (0, 0) (heap_new w5 _)]; rfl) rfl (by rw [strs_length]; have := HLEN.out; omega) (by simp; omega)
    have HR2 : Hid ((Builtin.append_ #[23, 23] 23 #[v1, .slice (some ⟨w5.heap.size, 0, none⟩) 1 1]).run Try.prog (w5.alloc (.cells #[.string mid] 9)) = .ok v2 w6) := hr2
    have h2 : OrdRow w.heap.size v1 (inorder h t2) [mid] w5 v2 w6 := OrdRow.ofApp ha2 ((Touch.refl _ _).alloc _)
    have hO6 : OrdRow w.heap.size (.slice none 0 0) [] (inorder h t2 ++ [mid]) w4 v2 w6 := hO.trans (by simpa using h2)
    have hs6 := hO6.touch.size
    have hTF : Touch (fun _ => False) w4 w6 := hO6.touch.mono fun k _ hk => by simp [Value.ownBlock] at hk
    have hlr6 : Lies w.heap.size w6 h r2 := Lies.same h r2 HL4.out.2 fun k hk => hTF.block k (Lies.lt h r2 HL4.out.2 k hk).2 id
    have hc15' : Hid (Calls Try.prog 15 #[.pointer (some ⟨q, 0, none⟩), v2] w6 (OrdPost w.heap.size v2 (inorder h t2 ++ [mid]) (inorder h r2) w6)) := by
      have := order15 w.heap.size h 32 r2 HR.out.2.2.2.2.2.1 v2 (inorder h t2 ++ [mid]) w6 hlr6 (by simpa using hO6.owns) (fun k hk hm => by
        have hlt := (Lies.lt h r2 HL4.out.2 k hm).2
        rcases hO6.place with e | ⟨k', hk', hks⟩
        · rw [e] at hk; simp [Value.ownBlock] at hk
        · rw [hk'] at hk; simp at hk; omega) (by have := HLEN.out; simp only [List.length_append, List.length_cons, List.length_nil]; omega) (by omega)
      rw [HR.out.2.1]; exact this
    have HO6 : Hid (OrdRow w.heap.size (.slice none 0 0) [] (inorder h t2 ++ [mid]) w4 v2 w6) := hO6
    clear hO ho1 hr2 ha2 h2 hO6 hTF hlr6
    go_wp2_with (at_builtin; refine Lib.wpList_append_run _ rfl _ _ 23 23 rfl _ _ rfl rfl _ _ HR2.out ?_)
    go_wp2_with fail
    refine hc15'.out.mono ?_
    clear hc15' HR2
    rintro e w7 ⟨v3, rfl, hO7'⟩
    have hO7 : OrdRow w.heap.size (.slice none 0 0) [] (sins sl x (ordI f t)) w4 v3 w7 := by
      have := HO6.out.trans (by simpa using hO7')
      rwa [HR.out.2.2.2.2.2.2] at this
    have hO1 : w7.ownsRow w.heap.size 9 1 v3 (sins sl x (ordI f t)).length (strs (sins sl x (ordI f t))) := by simpa using hO7.owns
    have hO2 : w7.ownsRow w.heap.size 9 1 vw (sins sl x (ordI f t)).length (strs (sins sl x (ordI f t))) := ownsRow_touch HF.out.owns hO7.touch fun k _ hk => by simp [Value.ownBlock] at hk
    have HB7 : Hid (Below w.heap.size w w7) := HB4.out.trans (hO7.touch.below HB4.out.size (by simp [Value.ownBlock]))
    obtain ⟨a1, c1, hv1, hr1⟩ := Rd.ofOwns hO1
    obtain ⟨a3, c3, hv3, hr3⟩ := Rd.ofOwns hO2
    subst hv1
    obtain ⟨LS, hLS⟩ : ∃ LS, LS = (sins sl x (ordI f t)).length := ⟨_, rfl⟩
    have hc14 : Hid (Calls Try.prog 14 #[.slice a1 LS c1, .slice a3 LS c3] w7 (EqPost LS LS (fun k => (sins sl x (ordI f t)).getD k ByteArray.empty) (fun k => (sins sl x (ordI f t)).getD k ByteArray.empty) w7)) := by rw [hLS]; exact equal14 a1 a3 _ c1 _ c3 _ _ w7 hr1 hr3
    rw [← hLS] at hv3 ⊢
    subst hv3
    clear hr1 hr3 hO1 hO2 hO7 hO7' hLS HF HB4 HO6 HL4
    go_wp2_with fail
    refine hc14.out.mono ?_
    clear hc14
    rintro e w8 ⟨r, rfl, hM, hr⟩
    have hrt : r = true := hr.2 ⟨rfl, fun _ _ => rfl⟩
    subst hrt
    have HB8 : Hid (Below w.heap.size w w8) := hM.below HB7.out
    clear hM hr
    go_wp2
    go_ret
    exact ⟨rfl, HB8.out⟩

end Go.Proofs.Qxb6604036a
