/-
  THE WALKS of isPrime and smooth235.
-/
import Derived.Test.Qxb6605538aRows
import Derived.Test.Qxb6605538aNum
import Derived.WalkKit
import Derived.WalkSpells
import Derived.WalkLawsBesides
namespace Go.Proofs.Qxb6605538a.WR
open Go.RowKit Num

theorem mod_dvd (d m : Nat) : ((m : Int) % d = 0) ↔ d ∣ m := by
  constructor
  · intro h; exact Nat.dvd_of_mod_eq_zero (by omega)
  · intro h; have := Nat.mod_eq_zero_of_dvd h; omega
theorem not_prime_of {m d : Nat} (h : d ∣ m) (h2 : 2 ≤ d) (h3 : d < m) : ¬ Prime m := fun hp => by
  rcases hp.2 d h with e | e <;> omega
theorem prime_of {m d : Nat} (h2 : 2 ≤ m) (hd : m < d * d) (hnd : ∀ e, 2 ≤ e → e < d → ¬ e ∣ m) : Prime m := by
  refine ⟨h2, fun e he => ?_⟩
  obtain ⟨c, hc⟩ := he
  have hc0 : 0 < c := by
    rcases Nat.eq_zero_or_pos c with h | h
    · subst h; omega
    · exact h
  have he0 : 0 < e := by
    rcases Nat.eq_zero_or_pos e with h | h
    · subst h; omega
    · exact h
  by_cases h1 : e = 1
  · exact Or.inl h1
  · right
    have hed : d ≤ e := by
      rcases Nat.lt_or_ge e d with h | h
      · exact absurd ⟨c, hc⟩ (hnd e (by omega) h)
      · exact h
    by_cases hc1 : c = 1
    · subst hc1; omega
    · exfalso
      have hcd : d ≤ c := by
        rcases Nat.lt_or_ge c d with h | h
        · exact absurd ⟨e, by rw [hc, Nat.mul_comm]⟩ (hnd c (by omega) h)
        · exact h
      have := Nat.mul_le_mul hed hcd
      omega

set_option maxHeartbeats 400000 in
theorem isPrime_any (w : World) (m : Nat) (h1 : m ≤ 4294967296) :
    Calls Try.prog 26 #[.int .i64 m] w fun e w' => e = .returned (.bool (@decide (Prime m) (Classical.propDecidable _))) ∧ w' = w := by
  by_cases h2 : (m : Int) < 2
  · go_enter Try.func26, Try.ntmps26
    go_wp2
    go_ret
    refine ⟨?_, rfl⟩
    have : ¬ Prime m := fun h => by have := h.1; omega
    simp [this]
  · go_enter Try.func26, Try.ntmps26
    go_wp2
    go_loop [3] (fun i => ∃ d : Nat, i = .int .i64 d ∧ 2 ≤ d ∧ d ≤ 65537 ∧ ∀ e, 2 ≤ e → e < d → ¬ e ∣ m) (fun i => 65538 - (intOf i).toNat)
    case atStart => exact ⟨2, rfl, by omega, by omega, fun e _ _ => by omega⟩
    case round =>
      obtain ⟨d, rfl, hd2, hd, hnd⟩ := hrel
      have hmul : d * d ≤ 65537 * 65537 := Nat.mul_le_mul hd hd
      by_cases hle : (d : Int) * d ≤ m
      · by_cases hz : (m : Int) % d = 0
        · go_wp2
          go_ret
          refine ⟨?_, rfl⟩
          have : ¬ Prime m := not_prime_of ((mod_dvd d m).1 hz) hd2 (by
            have h3 : d * d ≤ m := by exact_mod_cast hle
            have h4 : 2 * d ≤ d * d := Nat.mul_le_mul_right d hd2
            omega)
          simp [this]
        · go_wp2
          go_round
          case rel =>
            refine ⟨d + 1, by go_num, by omega, ?_, ?_⟩
            · have h3 : d * d ≤ m := by exact_mod_cast hle
              rcases Nat.lt_or_ge d 65537 with h | h
              · omega
              · exfalso
                have := Nat.mul_le_mul h h
                omega
            · intro e he1 he2 hem
              rcases Nat.lt_or_ge e d with h | h
              · exact hnd e he1 h hem
              · have e1 : e = d := by omega
                subst e1
                exact hz ((mod_dvd _ m).2 hem)
          case measure => simp [intOf]; omega
      · go_wp2
        go_ret
        refine ⟨?_, rfl⟩
        have : Prime m := prime_of (by omega) (d := d) (by
          exact_mod_cast hle) hnd
        simp [this]

/-! ### smooth235 -/
theorem pull {p : Nat} (hp : Prime p) {l : List Nat} (hl : Small l) (h : p ∣ prod l) : ∃ l', Small l' ∧ prod l = p * prod l' := by
  have hm := mem_of_dvd hp (small_prime hl) h
  have hp' := List.perm_cons_erase hm
  exact ⟨l.erase p, fun x hx => hl x (List.mem_of_mem_erase hx), by rw [prod_perm hp']; rfl⟩
theorem small_pos {l : List Nat} (h : Small l) : 1 ≤ prod l := prod_pos (small_prime h)
/-- a number of twos, threes and fives that none of them divides is 1 -/
theorem small_one {l : List Nat} (hl : Small l) (h2 : ¬ 2 ∣ prod l) (h3 : ¬ 3 ∣ prod l) (h5 : ¬ 5 ∣ prod l) : prod l = 1 := by
  cases l with
  | nil => rfl
  | cons x l =>
    exfalso
    have hd : x ∣ prod (x :: l) := Nat.dvd_mul_right _ _
    rcases hl x (by simp) with rfl | rfl | rfl
    · exact h2 hd
    · exact h3 hd
    · exact h5 hd

/-- a product of twos, threes and fives -/
def Sm (q : Nat) : Prop := ∃ l, Small l ∧ q = prod l
theorem Sm.pos {q : Nat} (h : Sm q) : 1 ≤ q := by
  obtain ⟨l, hl, rfl⟩ := h
  exact small_pos hl
theorem Sm.div {q p : Nat} (h : Sm q) (hp : Prime p) (hd : p ∣ q) : Sm (q / p) := by
  obtain ⟨l, hl, rfl⟩ := h
  obtain ⟨l2, hl2, e⟩ := pull hp hl hd
  refine ⟨l2, hl2, ?_⟩
  rw [e]
  exact Nat.mul_div_cancel_left _ (by have := hp.1; omega)
theorem Sm.one {q : Nat} (h : Sm q) (h2 : ¬ 2 ∣ q) (h3 : ¬ 3 ∣ q) (h5 : ¬ 5 ∣ q) : q = 1 := by
  obtain ⟨l, hl, rfl⟩ := h
  exact small_one hl h2 h3 h5

set_option maxHeartbeats 1000000 in
theorem smooth_any (w : World) (m : Nat) (hm : Sm m) (h1 : m ≤ 4294967296) :
    Calls Try.prog 25 #[.int .i64 m] w fun e w' => e = .returned (.bool true) ∧ w' = w := by
  have hp := hm.pos
  have hp' : ¬ ((m : Int) < 1) := by omega
  go_enter Try.func25, Try.ntmps25
  go_wp2
  go_loop [0] (fun i => ∃ q : Nat, i = .int .i64 q ∧ Sm q ∧ q ≤ m) (fun i => (intOf i).toNat)
  case atStart => exact ⟨m, rfl, hm, Nat.le_refl _⟩
  case round =>
    obtain ⟨q, rfl, hq, hqm⟩ := hrel
    have hq1 := hq.pos
    by_cases hz : (q : Int) % 2 = 0
    · have hs := hq.div prime2 (by omega)
      go_wp2
      go_round
      case rel => exact ⟨q / 2, by go_num, hs, by omega⟩
      case measure => simp [intOf]; omega
    · go_wp2
      go_loop [0] (fun i => ∃ q : Nat, i = .int .i64 q ∧ Sm q ∧ q ≤ m ∧ ¬ 2 ∣ q) (fun i => (intOf i).toNat)
      case atStart => exact ⟨q, rfl, hq, hqm, by omega⟩
      case round =>
        obtain ⟨q2, rfl, hq', hqm', hn2⟩ := hrel
        have hq1' := hq'.pos
        by_cases hz' : (q2 : Int) % 3 = 0
        · have hs := hq'.div prime3 (by omega)
          go_wp2
          go_round
          case rel => exact ⟨q2 / 3, by go_num, hs, by omega, by omega⟩
          case measure => simp [intOf]; omega
        · go_wp2
          go_loop [0] (fun i => ∃ q : Nat, i = .int .i64 q ∧ Sm q ∧ q ≤ m ∧ ¬ 2 ∣ q ∧ ¬ 3 ∣ q) (fun i => (intOf i).toNat)
          case atStart => exact ⟨q2, rfl, hq', hqm', hn2, by omega⟩
          case round =>
            obtain ⟨q3, rfl, hq'', hqm'', hn2', hn3⟩ := hrel
            have hq1'' := hq''.pos
            by_cases hz'' : (q3 : Int) % 5 = 0
            · have hs := hq''.div prime5 (by omega)
              go_wp2
              go_round
              case rel => exact ⟨q3 / 5, by go_num, hs, by omega, by omega, by omega⟩
              case measure => simp [intOf]; omega
            · have e1 : q3 = 1 := hq''.one hn2' hn3 (by omega)
              subst e1
              go_wp2
              go_ret
              exact ⟨rfl, rfl⟩
end Go.Proofs.Qxb6605538a.WR
