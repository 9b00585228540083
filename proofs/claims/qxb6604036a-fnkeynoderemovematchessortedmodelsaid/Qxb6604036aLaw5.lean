/- FnKeyNodeRemoveMatchesSortedModel (5): the walk. -/
import Derived.Test.Qxb6604036aLaw3
import Derived.Test.Qxb6604036aRemW
import Derived.BigQuiet
import Derived.Deep.QuietTactic
namespace Go.Proofs.Qxb6604036a
open Go.RowKit Plain
set_option linter.unusedVariables false
set_option linter.unusedSimpArgs false

theorem okI_root : ∀ {f : Nat} {t : IT f} {h : Nat}, okI f t 0 h → rootI f t → okI f t (if h = 0 then 0 else 1) h
  | f + 1, some (ks, cs), h, hok, hr => by
    obtain ⟨h1, h2, h3⟩ := hok
    refine ⟨?_, h2, h3⟩
    rcases h3 with ⟨_, e⟩ | ⟨h', e, hc, _⟩
    · rw [if_pos e]; exact Nat.zero_le _
    · rw [if_neg (by omega)]
      have := hr
      unfold rootI at this
      simp only at this
      omega

set_option maxHeartbeats 8000000 in
set_option maxRecDepth 100000 in
theorem law5 (f : Nat) (t : IT f) (v : Value) (x : ByteArray) (w : World) (hin : In w f t v) (hx : x.size ≤ maxLen) : Calls Try.prog 5 #[v, .string x] w (LawPost w) := by
  have HIN : Hid (In w f t v) := hin
  obtain ⟨av, hv⟩ := hin.ptr
  subst hv
  clear hin
  unfold maxLen at hx
  rcases Nat.lt_or_ge 1048576 x.size with hbig | hbig
  · have hbI : (1048576 : Int) < (x.size : Int) := by omega
    go_enter Try.func5, Try.ntmps5
    go_wp2
    go_ret
    exact ⟨rfl, Below.refl _ _⟩
  have hbI : ¬ (1048576 : Int) < (x.size : Int) := by omega
  have hc7 : Hid (Calls Try.prog 7 #[.pointer av, .int .i64 (1048576 - (x.size : Int))] w (TreePost f t (1048576 - x.size) w)) := by
    have := tree7 f t (.pointer av) (1048576 - x.size) w HIN.out (by omega)
    rw [show ((1048576 - x.size : Nat) : Int) = 1048576 - (x.size : Int) by omega] at this
    exact this
  go_enter Try.func5, Try.ntmps5
  go_wp2_with fail
  refine hc7.out.mono ?_
  clear hc7
  rintro e w1 ⟨xh, vb, ok, rfl, hT1, hok⟩
  have hb1 : Below w.heap.size w w1 := hT1.below (Nat.le_refl _) fun q hq => hq.elim
  have HB1 : Hid (Below w.heap.size w w1) := hb1
  have hs1 := hb1.size
  cases ok
  · clear hT1 hok hb1
    go_wp2
    go_ret
    exact ⟨rfl, HB1.out⟩
  obtain ⟨h, rfl, hokI, hh, hroot, hrow, hsort, hcnt⟩ := hok rfl
  have HK : Hid (okI f t (if h = 0 then 0 else 1) h ∧ w1.ownsRow w.heap.size 9 1 vb (ordI f t).length (strs (ordI f t)) ∧ Sorted sl (ordI f t) ∧ (ordI f t).length ≤ 65536) := ⟨okI_root hokI hroot, hrow, hsort, by have := ordI_le f t; omega⟩
  clear hok hokI hrow hsort hcnt hroot hT1 hb1
  have hc9 : Hid (Calls Try.prog 9 #[.pointer av] w1 (BuildPost w.heap.size f t (if h = 0 then 0 else 1) h w1)) := build9 w f t _ _ h HK.out.1 HIN.out w1 HB1.out
  go_wp2_with fail
  refine hc9.out.mono ?_
  clear hc9
  rintro e w2 ⟨t', he, htw, hl2, hnd2, hf2, hT2⟩
  have hs2 := hT2.size
  have HT' : Hid (Twin f t (if h = 0 then 0 else 1) h t' ∧ Lies w.heap.size w2 h t' ∧ (foot h t').Nodup ∧ (∀ k ∈ foot h t', w1.heap.size ≤ k) ∧ Touch (fun _ => False) w1 w2) := ⟨htw, hl2, hnd2, hf2, hT2⟩
  have hc21 : Hid (Calls Try.prog 21 #[.pointer (some ⟨(hd h t').p, 0, none⟩), .string x] w2 (RemPost w.heap.size h t' x w2)) := remove21 w.heap.size h t' x w2 hl2 hnd2 htw.ok (by rw [htw.ord]; exact HK.out.2.2.1)
  obtain ⟨p, hp⟩ : ∃ p, p = (hd h t').p := ⟨_, rfl⟩
  have he' : e = .returned (.pointer (some ⟨p, 0, none⟩)) := by rw [he, hp]; rfl
  subst he'
  rw [← hp] at hc21
  have HP : Hid (p = (hd h t').p) := hp
  clear he htw hl2 hnd2 hf2 hT2 hp
  go_wp2_with fail
  refine hc21.out.mono ?_
  clear hc21
  rintro e w3 ⟨rfl, t2, hK3, hok3, hin3⟩
  have hT3 := hK3.touch
  have hs3 := hT3.size
  have hrow3 : w3.ownsRow w.heap.size 9 1 vb (ordI f t).length (strs (ordI f t)) := by
    have h2 : w2.ownsRow w.heap.size 9 1 vb (ordI f t).length (strs (ordI f t)) := ownsRow_touch HK.out.2.1 HT'.out.2.2.2.2 fun _ _ => id
    refine ownsRow_touch h2 hT3 fun k hk hm => ?_
    have h3 := HT'.out.2.2.2.1 k hm
    have h4 := (ownsRow_lt HK.out.2.1 hk).2
    omega
  have HB3 : Hid (Below w.heap.size w w3) := HB1.out.trans ((HT'.out.2.2.2.2.below hs1 fun q hq => hq.elim).trans (hT3.below (by omega) fun k hk => by have := HT'.out.2.2.2.1 k hk; omega))
  have HROW : Hid (w3.ownsRow w.heap.size 9 1 vb (ordI f t).length (strs (ordI f t))) := hrow3
  have HR : Hid (p = (hd h t2).p ∧ Lies w.heap.size w3 h t2 ∧ okT h 0 t2 ∧ (hd h t').ks.length - 1 ≤ (hd h t2).ks.length ∧ inorder h t2 = srem x (ordI f t)) := ⟨by rw [HP.out, hK3.root], hK3.lies, okT_down hok3 (Nat.zero_le _), (okT_le hok3).1, by rw [hin3, HT'.out.1.ord]⟩
  clear hT3 hrow3 hK3 hok3 hin3
  have hc12 : Hid (Calls Try.prog 12 #[.pointer (some ⟨p, 0, none⟩), .int .i64 0, .int .i64 0] w3 fun e w' => e = .returned (.tuple #[.int .i64 ((h : Int) + 1), .bool true]) ∧ w3 = w') := by
    have := shape12 w.heap.size w3 h 0 t2 0 HR.out.2.1 HR.out.2.2.1 (by omega)
    rw [HR.out.1]; exact this
  go_wp2_with fail
  refine hc12.out.mono ?_
  clear hc12
  rintro e w3' ⟨rfl, rfl⟩
  obtain ⟨b, off, ka, kc, hav, hcell, hkc, hkm⟩ := In.keys HIN.out HK.out.1
  cases hav
  have c4 : w3.cell? ⟨b, off, none⟩ = some (.slice ka (keysI f t).length kc) := Below.keeps HB3.out _ _ hcell
  obtain ⟨nk, hnk⟩ : ∃ nk, nk = (keysI f t).length := ⟨_, rfl⟩
  obtain ⟨n2, hn2⟩ : ∃ n2, n2 = (hd h t2).ks.length := ⟨_, rfl⟩
  have hle : nk ≤ n2 + 1 := by have h1 := HR.out.2.2.2.1; rw [HT'.out.1.keys] at h1; omega
  unfold maxLen at hkm
  rw [← hnk] at c4 hkc
  obtain ⟨a2, c2, hc13⟩ := keysOf' HR.out.2.1
  rw [← HR.out.1, ← hn2] at hc13
  have HC13 : Hid (∀ u : World, Mem w3 u → Calls Try.prog 13 #[.pointer (some ⟨p, 0, none⟩)] u fun e w' => e = .returned (.slice a2 n2 c2) ∧ u = w') := hc13
  have hn2b : n2 ≤ 64 := by rw [hn2]; exact (okT_le HR.out.2.2.1).2
  have hleI : ¬ (n2 : Int) + 1 < (nk : Int) := by omega
  clear hc13 hcell hnk hn2
  go_wp2
  go_quiet ((go_at_call 13; refine Calls.quiet_of_same ((HC13.out _ (mem_drewN _ _)).mono fun _ _ hq => ⟨hq.1, hq.2.symm⟩)))
  have HM5 : Hid (Mem w3 (w3.drewN nq)) := mem_drewN w3 nq
  have HL5 : Hid (Lies w.heap.size (w3.drewN nq) h t2) := Lies.same h t2 HR.out.2.1 fun k hk => by rw [HM5.out.heap]
  have hlenS : (srem x (ordI f t)).length ≤ 65537 := by have h1 := (srem_sub x (ordI f t)).length_le; have := HK.out.2.2.2; omega
  have hc15 : Hid (Calls Try.prog 15 #[.pointer (some ⟨p, 0, none⟩), .slice none 0 0] (w3.drewN nq) (OrdPost w.heap.size (.slice none 0 0) [] (srem x (ordI f t)) (w3.drewN nq))) := by
    have := order15 w.heap.size h 0 t2 HR.out.2.2.1 (.slice none 0 0) [] (w3.drewN nq) HL5.out (World.ownsRow_nil _ _ _ _) (by simp [Value.ownBlock]) (by rw [HR.out.2.2.2.2]; simp only [List.length_nil]; omega) (by rw [HM5.out.heap]; omega)
    rw [HR.out.2.2.2.2] at this
    rw [HR.out.1]; exact this
  have HROW5 : Hid ((w3.drewN nq).ownsRow w.heap.size 9 1 vb (ordI f t).length (strs (ordI f t))) := ownsRow_same HROW.out fun k _ => by rw [HM5.out.heap]
  have HB5 : Hid (Below w.heap.size w (w3.drewN nq)) := HM5.out.below HB3.out
  obtain ⟨W5, hW5⟩ : ∃ W5, W5 = w3.drewN nq := ⟨_, rfl⟩
  rw [← hW5] at hc15 HROW5 HB5 ⊢
  clear HM5 HL5 hW5 c4 HC13 HB3 HROW
  go_wp2_with fail
  refine hc15.out.mono ?_
  clear hc15
  rintro e w6 ⟨v1, rfl, hO⟩
  have hO1 : w6.ownsRow w.heap.size 9 1 v1 (srem x (ordI f t)).length (strs (srem x (ordI f t))) := by simpa using hO.owns
  have hO2 : w6.ownsRow w.heap.size 9 1 vb (ordI f t).length (strs (ordI f t)) := ownsRow_touch HROW5.out hO.touch fun k _ hk => by simp [Value.ownBlock] at hk
  have HB6 : Hid (Below w.heap.size w w6) := HB5.out.trans (hO.touch.below HB5.out.size (by simp [Value.ownBlock]))
  have HO1 : Hid (w6.ownsRow w.heap.size 9 1 v1 (srem x (ordI f t)).length (strs (srem x (ordI f t)))) := hO1
  have hc22 : Hid (Calls Try.prog 22 #[vb, .string x] w6 (WithPost w.heap.size (srem x (ordI f t)) w6)) := with22 w.heap.size vb (ordI f t) x w6 hO2 (by have := HK.out.2.2.2; omega) HB6.out.size
  clear hO hO1 hO2 HROW5 HB5
  go_wp2_with fail
  refine hc22.out.mono ?_
  clear hc22
  rintro e w7 ⟨vw, rfl, hF⟩
  have hO1 : w7.ownsRow w.heap.size 9 1 v1 (srem x (ordI f t)).length (strs (srem x (ordI f t))) := ownsRow_touch HO1.out hF.touch fun _ _ => id
  have HB7 : Hid (Below w.heap.size w w7) := HB6.out.trans (hF.touch.below HB6.out.size fun q hq => hq.elim)
  obtain ⟨a1, c1, hv1, hr1⟩ := Rd.ofOwns hO1
  obtain ⟨a3, c3, hv3, hr3⟩ := Rd.ofOwns hF.owns
  subst hv1
  obtain ⟨LS, hLS⟩ : ∃ LS, LS = (srem x (ordI f t)).length := ⟨_, rfl⟩
  have hc14 : Hid (Calls Try.prog 14 #[.slice a1 LS c1, .slice a3 LS c3] w7 (EqPost LS LS (fun k => (srem x (ordI f t)).getD k ByteArray.empty) (fun k => (srem x (ordI f t)).getD k ByteArray.empty) w7)) := by rw [hLS]; exact equal14 a1 a3 _ c1 _ c3 _ _ w7 hr1 hr3
  rw [← hLS] at hv3 ⊢
  subst hv3
  clear hr1 hr3 hO1 hF hLS HB6 HO1
  go_wp2_with fail
  refine hc14.out.mono ?_
  clear hc14
  rintro e w8 ⟨r, rfl, hM, hr⟩
  have hrt : r = true := hr.2 ⟨rfl, fun _ _ => rfl⟩
  subst hrt
  have HB8 : Hid (Below w.heap.size w w8) := hM.below HB7.out
  clear hM hr
  go_wp2
  go_ret
  exact ⟨rfl, HB8.out⟩

end Go.Proofs.Qxb6604036a
