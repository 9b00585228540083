/- The tree that came in (KeyTree): what it is, how it lies; b1Valid (27). -/
import Derived.Test.Qxb6604036aOrder
namespace Go.Proofs.Qxb6604036a
open Go.RowKit Plain
set_option linter.unusedVariables false
set_option linter.unusedSimpArgs false

/-- A KeyTree read to depth f: nil, or its keys and its children. -/
def IT : Nat → Type
  | 0 => Unit
  | f + 1 => Option (List ByteArray × List (IT f))

/-- How many keys it holds, repeats counted. -/
def cnt : (f : Nat) → IT f → Nat
  | 0, _ => 0
  | f + 1, t => match t with
    | none => 0
    | some (ks, cs) => ks.length + (cs.map (cnt f)).sum

def ordI : (f : Nat) → IT f → List ByteArray
  | 0, _ => []
  | f + 1, t => match t with
    | none => []
    | some (ks, cs) => if cs.length = 0 then ks else weave (cs.map (ordI f)) ks

/-- The shape that b1Valid asks, of height h + 1. -/
def okI : (f : Nat) → IT f → Nat → Nat → Prop
  | 0, _, _, _ => False
  | f + 1, t, mn, h => match t with
    | none => False
    | some (ks, cs) => mn ≤ ks.length ∧ ks.length ≤ 64 ∧ ((cs.length = 0 ∧ h = 0) ∨ ∃ h', h = h' + 1 ∧ cs.length = ks.length + 1 ∧ ∀ c ∈ cs, okI f c 32 h')

def fullI : (f : Nat) → IT f → ByteArray → Prop
  | 0, _, _ => False
  | f + 1, t, x => match t with
    | none => False
    | some (ks, cs) => ks.length = 64 ∧ ∀ c, cs[lb x ks]? = some c → fullI f c x

/-- How it lies: 'v' leads to it. -/
def In (w : World) : (f : Nat) → IT f → Value → Prop
  | 0, _, _ => False
  | f + 1, t, v => match t with
    | none => v = .pointer none
    | some (ks, cs) => ∃ b off ka kc ca cc, v = .pointer (some ⟨b, off, none⟩) ∧ w.cell? ⟨b, off, none⟩ = some (.slice ka ks.length kc) ∧ w.cell? ⟨b, off + 1, none⟩ = some (.slice ca cs.length cc) ∧
        Rd w ka ks.length kc (fun k => ks.getD k ByteArray.empty) ∧ (∀ s ∈ ks, s.size ≤ maxLen) ∧ cs.length ≤ cc ∧ cc ≤ maxLen ∧
        (0 < cs.length → ∃ b' off', ca = some ⟨b', off', none⟩ ∧ ∀ k c, cs[k]? = some c → ∃ u, w.cell? ⟨b', off' + k, none⟩ = some u ∧ In w f c u)

theorem In.mono {w w' : World} (hc : ∀ a u, w.cell? a = some u → w'.cell? a = some u) : ∀ (f : Nat) (t : IT f) (v : Value), In w f t v → In w' f t v
  | f + 1, none, v, h => h
  | f + 1, some (ks, cs), v, h => by
    obtain ⟨b, off, ka, kc, ca, cc, h1, h2, h3, h4, h5, h6, h7, h8⟩ := h
    refine ⟨b, off, ka, kc, ca, cc, h1, hc _ _ h2, hc _ _ h3, ⟨h4.1, h4.2.1, fun h0 => ?_⟩, h5, h6, h7, fun h0 => ?_⟩
    · obtain ⟨b', o', e, hh⟩ := h4.2.2 h0
      exact ⟨b', o', e, fun k hk => hc _ _ (hh k hk)⟩
    · obtain ⟨b', o', e, hh⟩ := h8 h0
      refine ⟨b', o', e, fun k c hk => ?_⟩
      obtain ⟨u, hu, hi⟩ := hh k c hk
      exact ⟨u, hc _ _ hu, In.mono hc f c u hi⟩

theorem Below.keeps {w w' : World} (h : Below w.heap.size w w') : ∀ a u, w.cell? a = some u → w'.cell? a = some u := fun a u hu => by
  rw [← hu]; exact h.cell (World.block_lt_of_cell? w a hu)

theorem In.below {w w' : World} {f : Nat} {t : IT f} {v : Value} (h : In w f t v) (hb : Below w.heap.size w w') : In w' f t v := In.mono (Below.keeps hb) f t v h

/-- The children's pointers of a node that came in. -/
theorem In.child {w : World} {f : Nat} {cs : List (IT f)} {ca : Option Addr} (h : 0 < cs.length → ∃ b' off', ca = some ⟨b', off', none⟩ ∧ ∀ k c, cs[k]? = some c → ∃ u, w.cell? ⟨b', off' + k, none⟩ = some u ∧ In w f c u) {k : Nat} (hk : k < cs.length) :
    ∃ b' off' u, ca = some ⟨b', off', none⟩ ∧ w.cell? ⟨b', off' + k, none⟩ = some u ∧ In w f cs[k] u := by
  obtain ⟨b', off', e, hh⟩ := h (by omega)
  obtain ⟨u, hu, hi⟩ := hh k cs[k] (List.getElem?_eq_getElem hk)
  exact ⟨b', off', u, e, hu, hi⟩

theorem In.ptr {w : World} : ∀ {f : Nat} {t : IT f} {v : Value}, In w f t v → ∃ a, v = .pointer a
  | f + 1, none, v, h => ⟨none, h⟩
  | f + 1, some (ks, cs), v, h => by obtain ⟨b, off, _, _, _, _, h1, _⟩ := h; exact ⟨_, h1⟩

/-- What b1Valid answers. -/
def ValidPost (f : Nat) (t : IT f) (mn d : Nat) (w : World) (e : Ending) (w' : World) : Prop :=
  w = w' ∧ ∃ (x : Int) (ok : Bool), e = .returned (.tuple #[.int .i64 x, .bool ok]) ∧ (ok = true → ∃ h : Nat, x = (h : Int) + 1 ∧ okI f t mn h ∧ h + d ≤ 64)

/-- The loop over the children. -/
def VRel (f : Nat) (cs : List (IT f)) (d k : Nat) (hv : Int) : Prop :=
  (k = 0 ∧ hv = 0) ∨ (0 < k ∧ ∃ h : Nat, hv = (h : Int) + 1 ∧ h + d + 1 ≤ 64 ∧ ∀ i c, i < k → cs[i]? = some c → okI f c 32 h)

set_option maxHeartbeats 2000000 in
theorem valid27_nil (mn d : Nat) (f : Nat) (w : World) : Calls Try.prog 27 #[.pointer none, .int .i64 mn, .int .i64 d] w (ValidPost (f + 1) none mn d w) := by
  go_enter Try.func27, Try.ntmps27
  go_wp2
  go_ret2
  exact ⟨rfl, 0, false, rfl, by simp⟩

set_option maxHeartbeats 4000000 in
set_option maxRecDepth 100000 in
theorem valid27_node (f mn d : Nat) (ks : List ByteArray) (cs : List (IT f)) (v : Value) (w : World) (hin : In w (f + 1) (some (ks, cs)) v) (hmn : mn ≤ 64) (hd : d ≤ 65)
    (ih : d ≤ 64 → ∀ c ∈ cs, ∀ u, In w f c u → Calls Try.prog 27 #[u, .int .i64 32, .int .i64 ((d : Int) + 1)] w (ValidPost f c 32 (d + 1) w)) :
    Calls Try.prog 27 #[v, .int .i64 mn, .int .i64 d] w (ValidPost (f + 1) (some (ks, cs)) mn d w) := by
  obtain ⟨b, off, ka, kc, ca, cc, rfl, h1, h2, h3, h4, h5, h6, h7⟩ := hin
  have hkc := h3.1
  have hkm := h3.2.1
  unfold maxLen at hkm h6
  have IH : Hid (d ≤ 64 → ∀ c ∈ cs, ∀ u, In w f c u → Calls Try.prog 27 #[u, .int .i64 32, .int .i64 ((d : Int) + 1)] w (ValidPost f c 32 (d + 1) w)) := ih
  have H7 : Hid (0 < cs.length → ∃ b' off', ca = some ⟨b', off', none⟩ ∧ ∀ k c, cs[k]? = some c → ∃ u, w.cell? ⟨b', off' + k, none⟩ = some u ∧ In w f c u) := h7
  clear ih h3 h4 h7
  obtain ⟨n, hn⟩ : ∃ n, n = ks.length := ⟨_, rfl⟩
  obtain ⟨m, hm⟩ : ∃ m, m = cs.length := ⟨_, rfl⟩
  have HNM : Hid (n = ks.length ∧ m = cs.length) := ⟨hn, hm⟩
  rw [← hn] at h1 hkc
  rw [← hm] at h2 h5
  clear hn hm
  rcases Nat.lt_or_ge 64 d with hd1 | hd1
  · have hb : decide ((64 : Int) < (d : Int)) = true := by simp; omega
    go_enter Try.func27, Try.ntmps27
    go_wp2
    go_ret2
    exact ⟨rfl, 0, false, rfl, by simp⟩
  have hb : decide ((64 : Int) < (d : Int)) = false := by simp; omega
  rcases Nat.lt_or_ge 64 n with hn1 | hn1
  · have hb1 : decide ((64 : Int) < (n : Int)) = true := by simp; omega
    go_enter Try.func27, Try.ntmps27
    go_wp2
    go_ret2
    exact ⟨rfl, 0, false, rfl, by simp⟩
  have hb1 : decide ((64 : Int) < (n : Int)) = false := by simp; omega
  rcases Nat.lt_or_ge n mn with hn2 | hn2
  · have hb2 : decide (n < mn) = true := by simp; omega
    go_enter Try.func27, Try.ntmps27
    go_wp2
    go_ret2
    exact ⟨rfl, 0, false, rfl, by simp⟩
  have hb2 : decide (n < mn) = false := by simp; omega
  by_cases hm0 : m = 0
  · subst hm0
    go_enter Try.func27, Try.ntmps27
    go_wp2
    go_ret2
    refine ⟨rfl, 1, true, rfl, fun _ => ⟨0, by simp, ?_, by omega⟩⟩
    have := HNM.out
    exact ⟨by omega, by omega, .inl ⟨by omega, rfl⟩⟩
  have hm1 : ((m : Int) == 0) = false := by rw [beq_eq_false_iff_ne]; omega
  by_cases hmn1 : m = n + 1
  · subst hmn1
    have hne : (((n : Int) + 1) != ((n : Int) + 1)) = false := by simp
    have hz : ((n : Int) + 1 == 0) = false := by rw [beq_eq_false_iff_ne]; omega
    clear hm0 hm1
    go_enter Try.func27, Try.ntmps27
    go_wp2
    go_loop [9, 10] (fun u9 u10 => ∃ (k : Nat) (hv : Int), k ≤ n + 1 ∧ u10 = .int .i64 k ∧ u9 = .int .i64 hv ∧ VRel f cs d k hv) (fun _ u => n + 1 - (intOf u).toNat)
    case atStart => exact ⟨0, 0, by omega, rfl, rfl, .inl ⟨rfl, rfl⟩⟩
    case round =>
      obtain ⟨k, hv, hk, rfl, rfl, hV⟩ := hrel
      have HV : Hid (VRel f cs d k hv) := hV
      by_cases hlt : k < n + 1
      · have hkk : k < cs.length := by rw [← HNM.out.2]; exact hlt
        obtain ⟨b', off', u, rfl, hu, hi⟩ := In.child H7.out hkk
        obtain ⟨pa, rfl⟩ := In.ptr hi
        have hcall : Hid (Calls Try.prog 27 #[.pointer pa, .int .i64 32, .int .i64 ((d : Int) + 1)] w (ValidPost f cs[k] 32 (d + 1) w)) := IH.out hd1 _ (List.getElem_mem hkk) _ hi
        have hkI : (k : Int) < (n : Int) + 1 := by omega
        clear hi hV
        go_wp2_with fail
        refine hcall.out.mono ?_
        clear hcall
        rintro e w' ⟨rfl, x, ok, rfl, hok⟩
        have HOK : Hid (ok = true → ∃ h : Nat, x = (h : Int) + 1 ∧ okI f cs[k] 32 h ∧ h + (d + 1) ≤ 64) := hok
        clear hok
        cases ok
        · go_wp2
          go_ret2
          exact ⟨rfl, 0, false, rfl, by simp⟩
        · obtain ⟨h', hx, hokc, hhd⟩ := HOK.out rfl
          have HX : Hid (x = (h' : Int) + 1 ∧ okI f cs[k] 32 h') := ⟨hx, hokc⟩
          clear hx hokc HOK
          rcases HV.out with ⟨hk0, hv0⟩ | ⟨hk0, h2', hv', hh2, hall⟩
          · subst hk0
            have h0 : ((0 : Nat) : Int) < (n : Int) + 1 := by omega
            go_wp2
            go_round
            case rel =>
              refine ⟨1, x, by omega, rfl, rfl, .inr ⟨by omega, h', HX.out.1, by omega, fun i c hi hc => ?_⟩⟩
              obtain rfl : i = 0 := by omega
              rw [List.getElem?_eq_getElem hkk] at hc
              simp at hc; rw [← hc]; exact HX.out.2
            case measure => simp [intOf]
          · have hk0I : (0 : Int) < (k : Int) := by omega
            by_cases hxe : x = hv
            · subst hxe
              have hne2 : (x != x) = false := by simp
              have HALL : Hid (x = (h2' : Int) + 1 ∧ ∀ i c, i < k → cs[i]? = some c → okI f c 32 h2') := ⟨hv', hall⟩
              clear hv' hall HV
              go_wp2
              go_round
              case rel =>
                refine ⟨k + 1, x, by omega, by go_num, rfl, .inr ⟨by omega, h2', HALL.out.1, by omega, fun i c hi hc => ?_⟩⟩
                rcases Nat.lt_or_eq_of_le (Nat.le_of_lt_succ hi) with h | h
                · exact HALL.out.2 i c h hc
                · subst h
                  rw [List.getElem?_eq_getElem hkk] at hc
                  simp at hc; rw [← hc]
                  have e : h' = h2' := by have := HX.out.1; have := HALL.out.1; omega
                  rw [← e]; exact HX.out.2
              case measure => simp [intOf]; omega
            · have hne2 : (x != hv) = true := by rw [bne_iff_ne]; exact hxe
              clear hxe hv' hall HV
              go_wp2
              go_ret2
              exact ⟨rfl, 0, false, rfl, by simp⟩
      · obtain rfl : k = n + 1 := by omega
        rcases hV with ⟨h0, _⟩ | ⟨_, h', hv', hh, hall⟩
        · omega
        · have HALL : Hid (∀ i c, i < n + 1 → cs[i]? = some c → okI f c 32 h') := hall
          subst hv'
          have hkI : ¬ (((n + 1 : Nat) : Int)) < (n : Int) + 1 := by omega
          clear hall HV
          go_wp2
          go_ret2
          refine ⟨rfl, (h' : Int) + 1 + 1, true, rfl, fun _ => ⟨h' + 1, by omega, ?_, by omega⟩⟩
          have hNM := HNM.out
          refine ⟨by omega, by omega, .inr ⟨h', rfl, by omega, fun c hc => ?_⟩⟩
          obtain ⟨i, hi, rfl⟩ := List.mem_iff_getElem.1 hc
          exact HALL.out i _ (by omega) (List.getElem?_eq_getElem hi)
  · have hne : ((m : Int) != ((n : Int) + 1)) = true := by rw [bne_iff_ne]; omega
    clear hm0 hmn1
    go_enter Try.func27, Try.ntmps27
    go_wp2
    go_ret2
    exact ⟨rfl, 0, false, rfl, by simp⟩

/-- b1Valid of whatever tree came in. -/
theorem valid27 (w : World) : ∀ (f : Nat) (t : IT f) (v : Value) (mn d : Nat), In w f t v → mn ≤ 64 → d ≤ 65 → Calls Try.prog 27 #[v, .int .i64 mn, .int .i64 d] w (ValidPost f t mn d w)
  | f + 1, none, v, mn, d, h, _, _ => by
    have hv : v = .pointer none := h
    subst hv
    exact valid27_nil mn d f w
  | f + 1, some (ks, cs), v, mn, d, h, hmn, hd => valid27_node f mn d ks cs v w h hmn hd fun hd' c hc u hu => by
    have := valid27 w f c u 32 (d + 1) hu (by omega) (by omega)
    simpa using this

end Go.Proofs.Qxb6604036a
