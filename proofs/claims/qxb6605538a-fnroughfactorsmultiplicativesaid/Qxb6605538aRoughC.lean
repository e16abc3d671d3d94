/-
  THE WALKS of roughCheck and of the two laws over roughFactors.
-/
import Derived.Test.Qxb6605538aRoughB
namespace Go.Proofs.Qxb6605538a.WR
open Go.RowKit Num

theorem Rough.facts {n P S : Nat} (h : Rough n P S) : P ∣ n ∧ Sm (n / P) ∧ ¬ 2 ∣ P ∧ ¬ 3 ∣ P ∧ ¬ 5 ∣ P := by
  obtain ⟨h1, _, _, Q, L, hQ, hL, e, eP, _⟩ := h
  have e' : n / P = prod Q := by rw [e, eP, Nat.mul_div_cancel _ (by omega)]
  have no : ∀ p, Prime p → p < 7 → ¬ p ∣ P := fun p hp h7 hd => by
    rw [eP] at hd
    have := (hL p (mem_of_dvd hp (big_prime hL) hd)).2
    omega
  refine ⟨⟨prod Q, by rw [e, eP, Nat.mul_comm]⟩, ?_, no 2 prime2 (by omega), no 3 prime3 (by omega), no 5 prime5 (by omega)⟩
  rw [e']
  exact ⟨Q, hQ, rfl⟩
theorem Rough.check {n P S : Nat} (h : Rough n P S) : (P = 1 → S = 0) ∧ (Prime P → S = P) ∧ (1 < P → ¬ Prime P → 14 ≤ S ∧ S < P) := by
  obtain ⟨_, _, _, Q, L, _, hL, _, rfl, rfl⟩ := h
  exact check_sum hL
theorem Rough.times {a b Pa Sa Pb Sb P S : Nat} (ha : Rough a Pa Sa) (hb : Rough b Pb Sb) (h : Rough (a * b) P S) : P = Pa * Pb ∧ S = Sa + Sb := by
  obtain ⟨_, _, _, Q, L, hQ, hL, e, rfl, rfl⟩ := h
  obtain ⟨_, _, _, Qa, La, hQa, hLa, ea, rfl, rfl⟩ := ha
  obtain ⟨_, _, _, Qb, Lb, hQb, hLb, eb, rfl, rfl⟩ := hb
  have hs : Small (Qa ++ Qb) := fun x hx => (List.mem_append.1 hx).elim (hQa x) (hQb x)
  have hbg : Big (La ++ Lb) := fun x hx => (List.mem_append.1 hx).elim (hLa x) (hLb x)
  have e2 : prod Q * prod L = prod (Qa ++ Qb) * prod (La ++ Lb) := by
    rw [← e, ea, eb, prod_append, prod_append, Nat.mul_mul_mul_comm]
  have := parted hQ hL hs hbg e2
  rw [prod_append, sum_append] at this
  exact this

set_option maxHeartbeats 1000000 in
theorem roughCheck_any (w : World) (n P S : Nat) (h2 : n ≤ 4294967296) (h : Rough n P S) :
    Calls Try.prog 20 #[.int .i64 n, .int .i64 P, .int .i64 S] w fun e w' => e = .returned (.bool true) ∧ w' = w := by
  obtain ⟨f1, f2, n2, n3, n5⟩ := h.facts
  obtain ⟨g1, g2, g3⟩ := h.check
  have hP1 : 1 ≤ P := h.1
  have hPn : P ≤ n := h.2.1
  have hSn : S ≤ n := h.2.2.1
  clear h
  have m0 : (n : Int) % P = 0 := (mod_dvd P n).2 f1
  have m2 : ((P : Int) % 2 == 0) = false := beq_eq_false_iff_ne.2 (by omega)
  have m3 : ((P : Int) % 3 == 0) = false := beq_eq_false_iff_ne.2 (by omega)
  have m5 : ((P : Int) % 5 == 0) = false := beq_eq_false_iff_ne.2 (by omega)
  obtain ⟨c, hc⟩ : ∃ c, c = n / P := ⟨_, rfl⟩
  have HW : Hid ((n : Int) / P = ((c : Nat) : Int)) := by rw [hc]; exact (Int.natCast_ediv n P).symm
  have hcn : c ≤ n := by rw [hc]; exact Nat.div_le_self _ _
  rw [← hc] at f2
  clear hc
  have wa : 0 ≤ (n : Int) / P := by rw [unhide HW]; omega
  have wb : (n : Int) / P ≤ 4294967296 := by rw [unhide HW]; omega
  have hp1 : ¬ ((P : Int) < 1) := by omega
  have F1 := hide g1
  have F2 := hide g2
  have F3 := hide g3
  clear g1 g2 g3 f1 n2 n3 n5
  go_enter Try.func20, Try.ntmps20
  go_wp2_with (fail)
  rw [unhide HW]
  refine (smooth_any _ c f2 (by omega)).mono ?_
  rintro e w' ⟨rfl, rfl⟩
  by_cases e1 : P = 1
  · have e0 := unhide F1 e1
    subst e1
    subst e0
    go_wp2_with (fail)
    go_ret
    exact ⟨rfl, rfl⟩
  · have e1' : ¬ (P : Int) = 1 := by omega
    go_wp2_with (fail)
    refine (isPrime_any _ P (by omega)).mono ?_
    rintro e w1 ⟨rfl, rfl⟩
    by_cases hpr : Prime P
    · have e := unhide F2 hpr
      rw [@decide_eq_true _ (Classical.propDecidable _) hpr]
      subst e
      go_wp2_with (fail)
      go_ret
      exact ⟨rfl, rfl⟩
    · have e := unhide F3 (by omega) hpr
      rw [@decide_eq_false _ (Classical.propDecidable _) hpr]
      obtain ⟨ea, eb⟩ := e
      go_wp2_with (fail)
      go_ret
      exact ⟨rfl, rfl⟩

set_option maxHeartbeats 400000 in
theorem limit_any (w : World) : Calls Try.prog 18 #[] w fun e w' => e = .returned (.int .i64 4294967296) ∧ w' = w := by
  go_enter Try.func18, Try.ntmps18
  go_wp2
  go_ret
  exact ⟨rfl, rfl⟩

theorem grown_trans {a b c : World} (h1 : Grown a b) (h2 : Grown b c) : Grown a c :=
  ⟨World.keptBut_trans h1.1 h2.1, fun x => (h2.2.1 x).trans (h1.2.1 x), Nat.le_trans h1.2.2 h2.2.2⟩

set_option maxHeartbeats 400000 in
theorem walk1 (a : Int) (w0 : (Lit.int .i64 a).wf = true) (w : World) :
    Calls Try.prog 6 #[.int .i64 a] w fun e w' => e = .returned (.bool true) ∧ Grown w w' := by
  by_cases h1 : a < 1
  · go_enter Try.func6, Try.ntmps6
    go_wp2_with (fail)
    go_ret
    exact ⟨rfl, Grown.refl _⟩
  · by_cases h2 : a ≤ 4294967296
    · obtain ⟨n, rfl⟩ : ∃ n : Nat, a = n := ⟨a.toNat, by omega⟩
      go_enter Try.func6, Try.ntmps6
      go_wp2_with (fail)
      refine (limit_any _).mono ?_
      rintro e w' ⟨rfl, rfl⟩
      go_wp2_with (fail)
      refine (ZZRoughFactors_any _ n (by omega) (by omega)).mono ?_
      rintro e w1 ⟨⟨P, S, rfl, hR⟩, hB⟩
      have HR := hide hR
      have HB := hide hB
      clear hR hB
      go_wp2_with (fail)
      refine (roughCheck_any _ n P S (by omega) (unhide HR)).mono ?_
      rintro e w2 ⟨rfl, rfl⟩
      go_wp2_with (fail)
      go_ret
      exact ⟨rfl, unhide HB⟩
    · go_enter Try.func6, Try.ntmps6
      go_wp2_with (fail)
      refine (limit_any _).mono ?_
      rintro e w' ⟨rfl, rfl⟩
      go_wp2_with (fail)
      go_ret
      exact ⟨rfl, Grown.refl _⟩

theorem quot_le (m n : Nat) (hn : 1 ≤ n) : (m : Int) ≤ 4294967296 / (n : Int) ↔ m * n ≤ 4294967296 := by
  rw [show (4294967296 : Int) / (n : Int) = ((4294967296 / n : Nat) : Int) from rfl, Int.ofNat_le, Nat.le_div_iff_mul_le (by omega)]

set_option maxHeartbeats 1000000 in
theorem walk2 (a b : Int) (w0 : (Lit.int .i64 a).wf = true) (w1 : (Lit.int .i64 b).wf = true) (w : World) :
    Calls Try.prog 7 #[.int .i64 a, .int .i64 b] w fun e w' => e = .returned (.bool true) ∧ Grown w w' := by
  by_cases h1 : a < 1
  · go_enter Try.func7, Try.ntmps7
    go_wp2_with (fail)
    refine (limit_any _).mono ?_
    rintro e w' ⟨rfl, rfl⟩
    go_wp2_with (fail)
    go_ret
    exact ⟨rfl, Grown.refl _⟩
  by_cases h2 : b < 1
  · go_enter Try.func7, Try.ntmps7
    go_wp2_with (fail)
    refine (limit_any _).mono ?_
    rintro e w' ⟨rfl, rfl⟩
    go_wp2_with (fail)
    go_ret
    exact ⟨rfl, Grown.refl _⟩
  by_cases h3 : 4294967296 < a
  · go_enter Try.func7, Try.ntmps7
    go_wp2_with (fail)
    refine (limit_any _).mono ?_
    rintro e w' ⟨rfl, rfl⟩
    go_wp2_with (fail)
    go_ret
    exact ⟨rfl, Grown.refl _⟩
  by_cases h4 : 4294967296 < b
  · go_enter Try.func7, Try.ntmps7
    go_wp2_with (fail)
    refine (limit_any _).mono ?_
    rintro e w' ⟨rfl, rfl⟩
    go_wp2_with (fail)
    go_ret
    exact ⟨rfl, Grown.refl _⟩
  obtain ⟨m, rfl⟩ : ∃ n : Nat, a = n := ⟨a.toNat, by omega⟩
  obtain ⟨n, rfl⟩ : ∃ n : Nat, b = n := ⟨b.toNat, by omega⟩
  have hn : n ≠ 0 := by omega
  by_cases h5 : (m : Int) ≤ 4294967296 / (n : Int)
  · have h6 := (quot_le m n (by omega)).1 h5
    have h7 : (m : Int) * n ≤ 4294967296 := by rw [← Int.natCast_mul]; exact Int.ofNat_le.2 h6
    have h8 : 0 ≤ (m : Int) * n := Int.mul_nonneg (by omega) (by omega)
    have h9 : 1 ≤ m * n := Nat.mul_pos (by omega) (by omega)
    go_enter Try.func7, Try.ntmps7
    go_wp2_with (fail)
    refine (limit_any _).mono ?_
    rintro e w' ⟨rfl, rfl⟩
    go_wp2_with (fail)
    rw [show (m : Int) * n = ((m * n : Nat) : Int) from (Int.natCast_mul m n).symm]
    refine (ZZRoughFactors_any _ (m * n) h9 h6).mono ?_
    rintro e wx ⟨⟨P, S, rfl, hR⟩, hB⟩
    have HR := hide hR
    have HB := hide hB
    clear hR hB
    go_wp2_with (fail)
    refine (ZZRoughFactors_any _ m (by omega) (by omega)).mono ?_
    rintro e wy ⟨⟨Pa, Sa, rfl, hRa⟩, hBa⟩
    have HRa := hide hRa
    have HBa := hide hBa
    clear hRa hBa
    go_wp2_with (fail)
    refine (ZZRoughFactors_any _ n (by omega) (by omega)).mono ?_
    rintro e wz ⟨⟨Pb, Sb, rfl, hRb⟩, hBb⟩
    have HRb := hide hRb
    have HBb := hide hBb
    clear hRb hBb
    go_wp2_with (fail)
    refine (roughCheck_any _ (m * n) P S h6 (unhide HR)).mono ?_
    rintro e w2 ⟨rfl, rfl⟩
    have HG : Hid (Grown w' w2) := grown_trans (unhide HB) (grown_trans (unhide HBa) (unhide HBb))
    obtain ⟨e1, e2⟩ := (unhide HRa).times (unhide HRb) (unhide HR)
    have b1 : P ≤ 4294967296 := Nat.le_trans (unhide HR).2.1 h6
    have b2 : S ≤ 4294967296 := Nat.le_trans (unhide HR).2.2.1 h6
    have b3 : (Pa : Int) * Pb ≤ 4294967296 := by rw [e1] at b1; rw [← Int.natCast_mul]; exact Int.ofNat_le.2 b1
    have b4 : 0 ≤ (Pa : Int) * Pb := Int.mul_nonneg (by omega) (by omega)
    have t1 : ((P : Int) == (Pa : Int) * Pb) = true := by rw [e1]; simp
    have t2 : ((S : Int) == (Sa : Int) + Sb) = true := by rw [e2]; simp
    clear e1
    go_wp2_with (fail)
    go_ret
    exact ⟨rfl, unhide HG⟩
  · go_enter Try.func7, Try.ntmps7
    go_wp2_with (fail)
    refine (limit_any _).mono ?_
    rintro e w' ⟨rfl, rfl⟩
    go_wp2_with (fail)
    go_ret
    exact ⟨rfl, Grown.refl _⟩
end Go.Proofs.Qxb6605538a.WR
