/-
  THE WALK of roughFactors.
-/
import Derived.Test.Qxb6605538aRoughA
namespace Go.Proofs.Qxb6605538a.WR
open Go.RowKit Num
theorem hide {p : Prop} (h : p) : Hid p := h
theorem unhide {p : Prop} (h : Hid p) : p := h

/-- n parts into twos, threes, fives and the rest -/
def Part (n r : Nat) : Prop := 1 ≤ r ∧ r ≤ n ∧ ∃ q, Small q ∧ n = prod q * r
theorem Part.whole {n : Nat} (h : 1 ≤ n) : Part n n := ⟨h, Nat.le_refl _, [], fun x hx => by simp at hx, by simp [prod]⟩
theorem Part.pos {n r : Nat} (h : Part n r) : 1 ≤ r := h.1
theorem Part.le {n r : Nat} (h : Part n r) : r ≤ n := h.2.1
theorem Part.div {n r p : Nat} (h : Part n r) (hp : p = 2 ∨ p = 3 ∨ p = 5) (hd : p ∣ r) : Part n (r / p) := by
  obtain ⟨h1, h2, q, hq, e⟩ := h
  obtain ⟨c, rfl⟩ := hd
  have hp0 : 0 < p := by omega
  rw [Nat.mul_div_cancel_left _ hp0]
  have hc : 1 ≤ c := by
    rcases Nat.eq_zero_or_pos c with h | h
    · subst h; omega
    · exact h
  refine ⟨hc, Nat.le_trans (Nat.le_mul_of_pos_left _ hp0) h2, p :: q, ?_, ?_⟩
  · intro x hx
    rcases List.mem_cons.1 hx with rfl | hx
    · exact hp
    · exact hq x hx
  · rw [e]; simp only [prod, Nat.mul_assoc, Nat.mul_left_comm]

/-- what the second loop keeps: the primes found, what is left, no divisor of it below p -/
def Tr (m r s p : Nat) : Prop := 1 ≤ r ∧ r ≤ m ∧ r % 2 = 1 ∧ 7 ≤ p ∧ p % 2 = 1 ∧ (∀ d, 2 ≤ d → d ∣ r → p ≤ d) ∧ s ≤ m ∧ ∃ L, Big L ∧ m = prod L * r ∧ s = sum L
theorem Tr.start {m : Nat} (h : 1 ≤ m) (h2 : ¬ 2 ∣ m) (h3 : ¬ 3 ∣ m) (h5 : ¬ 5 ∣ m) : Tr m m 0 7 := by
  refine ⟨h, Nat.le_refl _, by omega, Nat.le_refl _, rfl, ?_, Nat.zero_le _, [], fun x hx => by simp at hx, by simp [prod], rfl⟩
  intro d hd hdm
  rcases Nat.lt_or_ge d 7 with hl | hl
  · exfalso
    have : d = 2 ∨ d = 3 ∨ d = 4 ∨ d = 5 ∨ d = 6 := by omega
    rcases this with rfl | rfl | rfl | rfl | rfl
    · exact h2 hdm
    · exact h3 hdm
    · exact h2 (Nat.dvd_trans (by decide) hdm)
    · exact h5 hdm
    · exact h2 (Nat.dvd_trans (by decide) hdm)
  · exact hl
theorem Tr.pos {m r s p : Nat} (h : Tr m r s p) : 1 ≤ r := h.1
theorem Tr.le {m r s p : Nat} (h : Tr m r s p) : r ≤ m := h.2.1
theorem Tr.sum {m r s p : Nat} (h : Tr m r s p) : s ≤ m := h.2.2.2.2.2.2.1
theorem Tr.seven {m r s p : Nat} (h : Tr m r s p) : 7 ≤ p := h.2.2.2.1
theorem Tr.div {m r s p : Nat} (h : Tr m r s p) (hd : p ∣ r) : Tr m (r / p) (s + p) p := by
  obtain ⟨h1, h2, ho, h7, hpo, hmin, hs, L, hL, e, es⟩ := h
  have hpr : Prime p := by
    refine ⟨by omega, fun d hdp => ?_⟩
    have hle := Nat.le_of_dvd (by omega) hdp
    have hd0 : 0 < d := Nat.pos_of_dvd_of_pos hdp (by omega)
    by_cases hd1 : d = 1
    · exact Or.inl hd1
    · have := hmin d (by omega) (Nat.dvd_trans hdp hd)
      exact Or.inr (by omega)
  obtain ⟨c, rfl⟩ := hd
  have hp0 : 0 < p := by omega
  rw [Nat.mul_div_cancel_left _ hp0]
  have hc : 1 ≤ c := by
    rcases Nat.eq_zero_or_pos c with h | h
    · subst h; omega
    · exact h
  have hB : Big (p :: L) := by
    intro x hx
    rcases List.mem_cons.1 hx with rfl | hx
    · exact ⟨hpr, h7⟩
    · exact hL x hx
  have e' : m = prod (p :: L) * c := by rw [e]; simp only [prod, Nat.mul_assoc, Nat.mul_left_comm]
  refine ⟨hc, Nat.le_trans (Nat.le_mul_of_pos_left _ hp0) h2, ?_, h7, hpo, fun d h2d hdc => hmin d h2d (Nat.dvd_trans hdc (Nat.dvd_mul_left _ _)), ?_, p :: L, hB, e', by simp only [Num.sum, es]; omega⟩
  · rcases Nat.mod_two_eq_zero_or_one c with hz | hz
    · rw [Nat.mul_mod, hz] at ho; simp at ho
    · exact hz
  · have h3 := (sum_le_prod (big_two hB)).1
    have h4 : prod (p :: L) ≤ m := by rw [e']; exact Nat.le_mul_of_pos_right _ hc
    simp only [Num.sum] at h3
    omega
theorem Tr.next {m r s p : Nat} (h : Tr m r s p) (hd : ¬ p ∣ r) : Tr m r s (p + 2) := by
  obtain ⟨h1, h2, ho, h7, hpo, hmin, hs, hL⟩ := h
  refine ⟨h1, h2, ho, by omega, by omega, fun d h2d hdr => ?_, hs, hL⟩
  have h3 := hmin d h2d hdr
  have h4 : d ≠ p := fun e => hd (e ▸ hdr)
  have h5 : d ≠ p + 1 := fun e => by
    obtain ⟨c, rfl⟩ := hdr
    rw [Nat.mul_mod, e, show (p + 1) % 2 = 0 from by omega] at ho
    simp at ho
  omega
/-- what roughFactors answers -/
def Rough (n P S : Nat) : Prop := 1 ≤ P ∧ P ≤ n ∧ S ≤ n ∧ ∃ Q L, Small Q ∧ Big L ∧ n = prod Q * prod L ∧ P = prod L ∧ S = sum L
theorem rough_mk {n P S : Nat} {Q L : List Nat} (hQ : Small Q) (hL : Big L) (e : n = prod Q * prod L) (hP : P = prod L) (hS : S = sum L) : Rough n P S := by
  have h1 := prod_pos (big_prime hL)
  have h2 := small_pos hQ
  have h3 : prod L ≤ n := by rw [e]; exact Nat.le_mul_of_pos_left _ h2
  have h4 := (sum_le_prod (big_two hL)).1
  exact ⟨by omega, by omega, by omega, Q, L, hQ, hL, e, hP, hS⟩
theorem Tr.one {n m s p : Nat} (hP : Part n m) (h : Tr m 1 s p) : Rough n m s := by
  obtain ⟨_, _, Q, hQ, eQ⟩ := hP
  obtain ⟨_, _, _, _, _, _, _, L, hL, e, es⟩ := h
  rw [Nat.mul_one] at e
  exact rough_mk hQ hL (by rw [eQ, e]) e es
theorem Tr.last {n m r s p : Nat} (hP : Part n m) (h : Tr m r s p) (h1 : 1 < r) (hr : r < p * p) : Rough n m (s + r) := by
  obtain ⟨_, _, Q, hQ, eQ⟩ := hP
  obtain ⟨_, _, _, h7, _, hmin, _, L, hL, e, es⟩ := h
  have hpr : Prime r := prime_of (by omega) hr (fun d hd hdp hdr => by have := hmin d hd hdr; omega)
  have h7r := hmin r (by omega) (Nat.dvd_refl _)
  have hB : Big (r :: L) := by
    intro x hx
    rcases List.mem_cons.1 hx with rfl | hx
    · exact ⟨hpr, by omega⟩
    · exact hL x hx
  have e' : m = prod (r :: L) := by rw [e, Nat.mul_comm]; rfl
  exact rough_mk hQ hB (by rw [eQ, e']) e' (by simp only [Num.sum, es]; omega)

set_option maxHeartbeats 2000000 in
theorem roughFactors_any (w : World) (n : Nat) (h1 : 1 ≤ n) (h2 : n ≤ 4294967296) :
    Calls Try.prog 24 #[.int .i64 n] w fun e w' => (∃ P S : Nat, e = .returned (.tuple #[.int .i64 P, .int .i64 S]) ∧ Rough n P S) ∧ Grown w w' := by
  go_enter Try.func24, Try.ntmps24
  go_wp2
  have HB : Hid (Grown w (w.alloc (Obj.cells #[Value.int IntKind.i64 2, Value.int IntKind.i64 3, Value.int IntKind.i64 5] 3))) := (Grown.refl _).alloc _ _
  have c0 : (w.alloc (Obj.cells #[Value.int IntKind.i64 2, Value.int IntKind.i64 3, Value.int IntKind.i64 5] 3)).cell? ⟨w.heap.size, 0, none⟩ = some (.int .i64 2) := by simp [go_sem]
  have c1 : (w.alloc (Obj.cells #[Value.int IntKind.i64 2, Value.int IntKind.i64 3, Value.int IntKind.i64 5] 3)).cell? ⟨w.heap.size, 1, none⟩ = some (.int .i64 3) := by simp [go_sem]
  have c2 : (w.alloc (Obj.cells #[Value.int IntKind.i64 2, Value.int IntKind.i64 3, Value.int IntKind.i64 5] 3)).cell? ⟨w.heap.size, 2, none⟩ = some (.int .i64 5) := by simp [go_sem]
  generalize w.alloc (Obj.cells #[Value.int IntKind.i64 2, Value.int IntKind.i64 3, Value.int IntKind.i64 5] 3) = w1 at *
  go_loop [4, 13] (fun r i => ∃ q k : Nat, r = .int .i64 q ∧ i = .int .i64 k ∧ k ≤ 3 ∧ Part n q ∧ (1 ≤ k → ¬ 2 ∣ q) ∧ (2 ≤ k → ¬ 3 ∣ q) ∧ (3 ≤ k → ¬ 5 ∣ q)) (fun _ i => 3 - (intOf i).toNat)
  case atStart => exact ⟨n, 0, rfl, rfl, by omega, Part.whole h1, by omega, by omega, by omega⟩
  case round =>
    obtain ⟨q, k, rfl, rfl, hk, hq, d2, d3, d5⟩ := hrel
    by_cases hk3 : k = 3
    · subst hk3
      have d2 := d2 (by omega)
      have d3 := d3 (by omega)
      have d5 := d5 (by omega)
      have hq1 := hq.pos
      have hq2 := hq.le
      go_wp2
      clear c0 c1 c2
      go_loop [4, 8, 9] (fun r s p => ∃ r' s' p' : Nat, r = .int .i64 r' ∧ s = .int .i64 s' ∧ p = .int .i64 p' ∧ Tr q r' s' p' ∧ p' ≤ 65540) (fun _ _ p => 65550 - (intOf p).toNat)
      case atStart => exact ⟨q, 0, 7, rfl, rfl, rfl, Tr.start hq1 d2 d3 d5, by omega⟩
      case round =>
        obtain ⟨r, s, p, rfl, rfl, rfl, ht, hp⟩ := hrel
        have hmul : p * p ≤ 65540 * 65540 := Nat.mul_le_mul hp hp
        have t1 := ht.pos
        have t2 := ht.le
        have t3 := ht.sum
        have t7 := ht.seven
        by_cases hle : (p : Int) * p ≤ r
        · have hle' : p * p ≤ r := by exact_mod_cast hle
          have hp6 : p ≤ 65536 := by
            rcases Nat.lt_or_ge p 65537 with h | h
            · omega
            · exfalso
              have := Nat.mul_le_mul h h
              omega
          go_wp2
          go_loop [4, 8] (fun r s => ∃ r' s' : Nat, r = .int .i64 r' ∧ s = .int .i64 s' ∧ Tr q r' s' p) (fun r _ => (intOf r).toNat)
          case atStart => exact ⟨r, s, rfl, rfl, ht⟩
          case round =>
            obtain ⟨r2, s2, rfl, rfl, ht2⟩ := hrel
            have t1 := ht2.pos
            have t2 := ht2.le
            have t3 := ht2.sum
            by_cases hz : (r2 : Int) % p = 0
            · have hd := ht2.div ((mod_dvd p r2).1 hz)
              have hlt : r2 / p < r2 := Nat.div_lt_self (by omega) (by omega)
              have hwr : (r2 : Int) / p = ((r2 / p : Nat) : Int) := (Int.natCast_ediv r2 p).symm
              obtain ⟨c, hc⟩ : ∃ c, c = r2 / p := ⟨_, rfl⟩
              have HW : Hid ((r2 : Int) / p = ((c : Nat) : Int)) := by rw [hc]; exact hwr
              rw [← hc] at hd hlt
              clear hwr hc
              have wa : 0 ≤ (r2 : Int) / p := by rw [unhide HW]; omega
              have wb : (r2 : Int) / p ≤ 4294967296 := by rw [unhide HW]; omega
              go_wp2
              go_round
              case rel => exact ⟨c, s2 + p, congrArg _ (unhide HW), by go_num, hd⟩
              case measure => simp only [intOf, unhide HW, Int.toNat_natCast]; exact hlt
            · have hd := ht2.next (fun h => hz ((mod_dvd p r2).2 h))
              go_wp2
              go_round
              case rel => exact ⟨r2, s2, p + 2, rfl, rfl, by go_num, hd, by omega⟩
              case measure => simp [intOf]; omega
        · have hlt : r < p * p := by
            have : (r : Int) < (p : Int) * p := by omega
            exact_mod_cast this
          by_cases hr1 : (1 : Int) < r
          · go_wp2
            go_ret2
            exact ⟨⟨q, s + r, by go_num, ht.last hq (by omega) hlt⟩, unhide HB⟩
          · have e : r = 1 := by omega
            subst e
            go_wp2
            go_ret2
            exact ⟨⟨q, s, rfl, ht.one hq⟩, unhide HB⟩
    · have hc : (k = 0 ∨ k = 1) ∨ k = 2 := by omega
      rcases hc with (rfl | rfl) | rfl
      · go_wp2
        go_loop [4] (fun r => ∃ q : Nat, r = .int .i64 q ∧ Part n q) (fun r => (intOf r).toNat)
        case atStart => exact ⟨q, rfl, hq⟩
        case round =>
          obtain ⟨q2, rfl, hq2⟩ := hrel
          have hp2 := hq2.pos
          have hl2 := hq2.le
          by_cases hz : (q2 : Int) % 2 = 0
          · have hs := hq2.div (Or.inl rfl) (by omega)
            go_wp2
            go_round
            case rel => exact ⟨q2 / 2, by go_num, hs⟩
            case measure => simp [intOf]; omega
          · go_wp2
            go_round
            case rel => exact ⟨q2, 1, rfl, by go_num, by omega, hq2, by omega, by omega, by omega⟩
            case measure => simp [intOf]
      · have d2 := d2 (by omega)
        go_wp2
        go_loop [4] (fun r => ∃ q : Nat, r = .int .i64 q ∧ Part n q ∧ ¬ 2 ∣ q) (fun r => (intOf r).toNat)
        case atStart => exact ⟨q, rfl, hq, d2⟩
        case round =>
          obtain ⟨q2, rfl, hq2, h22⟩ := hrel
          have hp2 := hq2.pos
          have hl2 := hq2.le
          by_cases hz : (q2 : Int) % 3 = 0
          · have hs := hq2.div (Or.inr (Or.inl rfl)) (by omega)
            go_wp2
            go_round
            case rel => exact ⟨q2 / 3, by go_num, hs, by omega⟩
            case measure => simp [intOf]; omega
          · go_wp2
            go_round
            case rel => exact ⟨q2, 2, rfl, by go_num, by omega, hq2, by omega, by omega, by omega⟩
            case measure => simp [intOf]
      · have d2 := d2 (by omega)
        have d3 := d3 (by omega)
        go_wp2
        go_loop [4] (fun r => ∃ q : Nat, r = .int .i64 q ∧ Part n q ∧ ¬ 2 ∣ q ∧ ¬ 3 ∣ q) (fun r => (intOf r).toNat)
        case atStart => exact ⟨q, rfl, hq, d2, d3⟩
        case round =>
          obtain ⟨q2, rfl, hq2, h22, h23⟩ := hrel
          have hp2 := hq2.pos
          have hl2 := hq2.le
          by_cases hz : (q2 : Int) % 5 = 0
          · have hs := hq2.div (Or.inr (Or.inr rfl)) (by omega)
            go_wp2
            go_round
            case rel => exact ⟨q2 / 5, by go_num, hs, by omega, by omega⟩
            case measure => simp [intOf]; omega
          · go_wp2
            go_round
            case rel => exact ⟨q2, 3, rfl, by go_num, by omega, hq2, by omega, by omega, by omega⟩
            case measure => simp [intOf]

set_option maxHeartbeats 400000 in
theorem ZZRoughFactors_any (w : World) (n : Nat) (h1 : 1 ≤ n) (h2 : n ≤ 4294967296) :
    Calls Try.prog 19 #[.int .i64 n] w fun e w' => (∃ P S : Nat, e = .returned (.tuple #[.int .i64 P, .int .i64 S]) ∧ Rough n P S) ∧ Grown w w' := by
  go_enter Try.func19, Try.ntmps19
  go_wp2_with (fail)
  refine (roughFactors_any w n h1 h2).mono ?_
  rintro e w' ⟨⟨P, S, rfl, hR⟩, hB⟩
  have HR := hide hR
  have HB := hide hB
  clear hR hB
  go_wp2
  go_ret2
  exact ⟨⟨P, S, rfl, unhide HR⟩, unhide HB⟩
end Go.Proofs.Qxb6605538a.WR
