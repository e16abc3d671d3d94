/-
  THE WALK of FnWeightedMeanExact.
-/
import Derived.Test.Qxb6605538aGrid
namespace Go.Proofs.Qxb6605538a.WF
open Go.RowKit Ieee Flt
attribute [local go_sem] run_store_float

/-- what the first loop has seen -/
def Seen (h : Nat → Nat) (b : Bool) (i : Nat) : Prop :=
  (∀ j, j < i → (FloatKind.f64.format.order (h j) 0 == some .gt || FloatKind.f64.format.order (h j) 0 == some .eq) = true) ∧
  (b = false → ∀ j, j < i → (FloatKind.f64.format.order (h j) 0 == some .gt) = false) ∧ (b = true → ∃ j, j < i ∧ (FloatKind.f64.format.order (h j) 0 == some .gt) = true)
theorem seen0 (h : Nat → Nat) : Seen h false 0 := ⟨fun _ h => absurd h (Nat.not_lt_zero _), fun _ _ h => absurd h (Nat.not_lt_zero _), fun h => by cases h⟩
theorem Seen.yes {h : Nat → Nat} {b : Bool} {i : Nat} (S : Seen h b i) (t1 : (FloatKind.f64.format.order (h i) 0 == some .gt || FloatKind.f64.format.order (h i) 0 == some .eq) = true) (t2 : (FloatKind.f64.format.order (h i) 0 == some .gt) = true) : Seen h true (i + 1) := by
  refine ⟨fun j hj => ?_, (fun hb => by cases hb), fun _ => ⟨i, by omega, t2⟩⟩
  rcases Nat.lt_or_ge j i with hl | hl
  · exact S.1 j hl
  · have : j = i := by omega
    subst this; exact t1
theorem Seen.no {h : Nat → Nat} {b : Bool} {i : Nat} (S : Seen h b i) (t1 : (FloatKind.f64.format.order (h i) 0 == some .gt || FloatKind.f64.format.order (h i) 0 == some .eq) = true) (t2 : (FloatKind.f64.format.order (h i) 0 == some .gt) = false) : Seen h b (i + 1) := by
  refine ⟨fun j hj => ?_, fun hb j hj => ?_, fun hb => ?_⟩
  · rcases Nat.lt_or_ge j i with hl | hl
    · exact S.1 j hl
    · have : j = i := by omega
      subst this; exact t1
  · rcases Nat.lt_or_ge j i with hl | hl
    · exact S.2.1 hb j hl
    · have : j = i := by omega
      subst this; exact t2
  · obtain ⟨j, hj, ht⟩ := S.2.2 hb
    exact ⟨j, by omega, ht⟩
theorem ge_of {x : Nat} (h : (!FloatKind.f64.format.order x 0 == some .gt) = false ∨ (!FloatKind.f64.format.order x 0 == some .eq) = false) : (FloatKind.f64.format.order x 0 == some .gt || FloatKind.f64.format.order x 0 == some .eq) = true := by simpa using h
/-- what the second loop has seen -/
def Laid (f g h : Nat → Nat) (i : Nat) : Prop := ∀ j, j < i → OnGrid (f j) (-2 ^ 20) (2 ^ 20) ∧ OnGrid (g j) (-2 ^ 20) (2 ^ 20) ∧ OnGrid (h j) 0 (2 ^ 20)
theorem Laid.next {f g h : Nat → Nat} {i : Nat} (L : Laid f g h i) (h1 : OnGrid (f i) (-2 ^ 20) (2 ^ 20)) (h2 : OnGrid (g i) (-2 ^ 20) (2 ^ 20)) (h3 : OnGrid (h i) 0 (2 ^ 20)) : Laid f g h (i + 1) := by
  intro j hj
  rcases Nat.lt_or_ge j i with hl | hl
  · exact L j hl
  · have : j = i := by omega
    subst this; exact ⟨h1, h2, h3⟩

/-- the whole numbers of the points -/
theorem grid_of {n : Nat} {f g h : Nat → Nat} (h0 : n ≤ 4096) (L : Laid f g h n) : ∃ X Y W : Nat → Int, Grid n f g h X Y W ∧ ∀ i, i < n → floatToIntVal .f64 (f i) .i64 = some (X i) ∧ floatToIntVal .f64 (g i) .i64 = some (Y i) ∧ floatToIntVal .f64 (h i) .i64 = some (W i) := by
  have key : ∀ {x : Nat} {α β : Int}, OnGrid x α β → floatToIntVal .f64 x .i64 = some ((floatToIntVal .f64 x .i64).getD 0) ∧ V x ((floatToIntVal .f64 x .i64).getD 0) ∧ α ≤ (floatToIntVal .f64 x .i64).getD 0 ∧ (floatToIntVal .f64 x .i64).getD 0 ≤ β := by
    intro x α β ⟨n, e, h1, h2, h3⟩
    rw [e]
    exact ⟨rfl, h1, h2, h3⟩
  refine ⟨fun i => (floatToIntVal .f64 (f i) .i64).getD 0, fun i => (floatToIntVal .f64 (g i) .i64).getD 0, fun i => (floatToIntVal .f64 (h i) .i64).getD 0, ⟨h0, fun i hi => ?_, fun i hi => ?_, fun i hi => ?_⟩, fun i hi => ?_⟩
  · obtain ⟨_, b, c, d⟩ := key (L i hi).1
    exact ⟨b, by omega⟩
  · obtain ⟨_, b, c, d⟩ := key (L i hi).2.1
    exact ⟨b, by omega⟩
  · obtain ⟨_, b, c, d⟩ := key (L i hi).2.2
    exact ⟨b, by omega, c⟩
  · exact ⟨(key (L i hi).1).1, (key (L i hi).2.1).1, (key (L i hi).2.2).1⟩
theorem Grid.heavy {n : Nat} {f g h : Nat → Nat} {X Y W : Nat → Int} (G : Grid n f g h X Y W) (hp : ∃ j, j < n ∧ (FloatKind.f64.format.order (h j) 0 == some .gt) = true) : 0 < sm W n := by
  obtain ⟨j, hj, ht⟩ := hp
  refine sm_pos W n (fun i hi => (G.w i hi).2.2) j hj ?_
  have ho : FloatKind.f64.format.order (h j) 0 = some (compare (W j) 0) := V_order (G.w j hj).1 V_nought
  rw [ho] at ht
  have hc : compare (W j) 0 = .gt := by
    generalize compare (W j) 0 = c at *
    cases c <;> first | rfl | cases ht
  exact cmp_gt.1 hc
/-- the running sums, and that none of them is great -/
structure Sums (n : Nat) (X Y W SW SX SY : Nat → Int) : Prop where
  zero : SW 0 = 0 ∧ SX 0 = 0 ∧ SY 0 = 0
  next : ∀ k, k < n → SW (k + 1) = SW k + W k ∧ SX (k + 1) = SX k + W k * X k ∧ SY (k + 1) = SY k + W k * Y k
  small : ∀ k, k ≤ n → (SW k).natAbs ≤ 2 ^ 53 ∧ (SX k).natAbs ≤ 2 ^ 53 ∧ (SY k).natAbs ≤ 2 ^ 53
  parts : ∀ k, k < n → (W k * X k).natAbs ≤ 2 ^ 40 ∧ (W k * Y k).natAbs ≤ 2 ^ 40 ∧ (W k).natAbs ≤ 2 ^ 20
theorem sums_of {n : Nat} {f g h : Nat → Nat} {X Y W : Nat → Int} (G : Grid n f g h X Y W) : Sums n X Y W (sm W) (sm (fun i => W i * X i)) (sm (fun i => W i * Y i)) := by
  have hn := G.le
  have hW : ∀ i, i < n → (W i).natAbs ≤ 2 ^ 20 := fun i hi => (G.w i hi).2.1
  have hX : ∀ i, i < n → (W i * X i).natAbs ≤ 2 ^ 40 := fun i hi => Nat.le_trans (prod_abs (hW i hi) (G.x i hi).2) (by omega)
  have hY : ∀ i, i < n → (W i * Y i).natAbs ≤ 2 ^ 40 := fun i hi => Nat.le_trans (prod_abs (hW i hi) (G.y i hi).2) (by omega)
  refine ⟨⟨rfl, rfl, rfl⟩, fun k _ => ⟨rfl, rfl, rfl⟩, fun k hk => ?_, fun k hk => ⟨hX k hk, hY k hk, hW k hk⟩⟩
  have b1 := sm_abs W _ n hW k hk
  have b2 := sm_abs _ _ n hX k hk
  have b3 := sm_abs _ _ n hY k hk
  have m1 : k * 2 ^ 20 ≤ 4096 * 2 ^ 20 := Nat.mul_le_mul_right _ (by omega)
  have m3 : k * 2 ^ 40 ≤ 4096 * 2 ^ 40 := Nat.mul_le_mul_right _ (by omega)
  omega
/-- what the answer's tests come to -/
structure Right (sw sx sy : Int) (x y z : Nat) : Prop where
  pos : 0 < sw
  z : (FloatKind.f64.format.order z (floatOfInt .f64 sw) != some .eq) = false
  y : ∃ yb, floatBits .quo .f64 (floatOfInt .f64 sy) (floatOfInt .f64 sw) = some yb ∧ (FloatKind.f64.format.order y yb != some .eq) = false
  whole : ∀ t, sx = t * sw → (FloatKind.f64.format.order x (floatOfInt .f64 t) == some .eq) = true
  near : (∀ t, sx ≠ t * sw) → ∀ r d, Gives (floatBits .quo .f64 (floatOfInt .f64 sx) (floatOfInt .f64 sw)) r → Gives (floatBits .sub .f64 x r) d →
      (FloatKind.f64.format.order d 4476578029606273024 == some .lt || FloatKind.f64.format.order d 4476578029606273024 == some .eq) = true ∧ (FloatKind.f64.format.order d 13699950066461048832 == some .gt || FloatKind.f64.format.order d 13699950066461048832 == some .eq) = true
theorem right_of {n : Nat} {f g h : Nat → Nat} {X Y W : Nat → Int} (G : Grid n f g h X Y W) (h1 : 1 ≤ n) (hw : 0 < sm W n) {a p v : Nat} {e : Ending} (hJ : GJ X Y W (X (hv h n)) n a p v) (hA : Answer (f (hv h n)) (g (hv h n)) a p v e) {x y z : Nat} (he : e = .returned (.tuple #[.float .f64 x, .float .f64 y, .float .f64 z])) :
    Right (sm W n) (sm (fun i => W i * X i) n) (sm (fun i => W i * Y i) n) x y z := by
  obtain ⟨a1, a2, a3, a4⟩ := grid_answer G h1 hw hJ hA he
  have S := sums_of G
  have hs := S.small n (Nat.le_refl _)
  have wb0 := sm_abs W _ n (fun i hi => (G.w i hi).2.1) n (Nat.le_refl _)
  have m1 : n * 2 ^ 20 ≤ 4096 * 2 ^ 20 := Nat.mul_le_mul_right _ G.le
  refine ⟨hw, a1, ?_, a3, a4⟩
  have Vw : V (floatOfInt .f64 (sm W n)) (sm W n) := V_of _ hs.1
  have Vy : V (floatOfInt .f64 (sm (fun i => W i * Y i) n)) (sm (fun i => W i * Y i) n) := V_of _ hs.2.2
  have key : ∃ yb, floatBits .quo .f64 (floatOfInt .f64 (sm (fun i => W i * Y i) n)) (floatOfInt .f64 (sm W n)) = some yb := by
    by_cases hz : sm (fun i => W i * Y i) n = 0
    · rw [hz] at Vy ⊢
      obtain ⟨r, e, _⟩ := quo_zero (V_zero.1 Vy) (pos_V Vw hw)
      exact ⟨r, e⟩
    · obtain ⟨r, _, _, e, _⟩ := R_div Vy Vw hz hs.2.2 (by omega) (by omega)
      exact ⟨r, e⟩
  obtain ⟨yb, hyb⟩ := key
  exact ⟨yb, hyb, a2 yb (Or.inl hyb)⟩

set_option maxHeartbeats 1600000 in
set_option maxRecDepth 100000 in
theorem exact_same (w : World) (xa ya wa : Option Addr) (n xc yc wc : Nat) (f g h : Nat → Nat) (h0 : n ≤ 4096) (nx : xa = none → n = 0 ∧ xc = 0) (ny : ya = none → n = 0 ∧ yc = 0) (nw : wa = none → n = 0 ∧ wc = 0)
    (hx : Flts w xa n f) (hy : Flts w ya n g) (hw : Flts w wa n h) :
    Calls Try.prog 3 #[.slice xa n xc, .slice ya n yc, .slice wa n wc] w fun e w' => e = .returned (.bool true) ∧ Below w.heap.size w w' := by
  have HX := hide hx
  have HY := hide hy
  have HW := hide hw
  have NX := hide nx
  have NY := hide ny
  have NW := hide nw
  clear hx hy hw nx ny nw
  go_enter Try.func3, Try.ntmps3
  go_wp2_with (fail)
  refine (zz8_any w xa ya wa n n n xc yc wc (by unfold maxLen; omega) (by unfold maxLen; omega) (by unfold maxLen; omega)).mono ?_
  rintro e w' ⟨⟨z, rfl⟩, rfl⟩
  cases z with
  | false =>
    go_wp2_with (fail)
    go_ret
    exact ⟨rfl, Below.refl _ _⟩
  | true =>
    go_wp2_with (fail)
    go_loop [7, 8] (fun bb i => ∃ (b : Bool) (j : Nat), bb = .bool b ∧ i = .int .i64 j ∧ j ≤ n ∧ Seen h b j) (fun _ i => n - (intOf i).toNat)
    case atStart => exact ⟨false, 0, rfl, rfl, by omega, seen0 h⟩
    case round =>
      obtain ⟨b, i, rfl, rfl, hi, hS⟩ := hrel
      have HS := hide hS
      clear hS
      by_cases hlt : i < n
      · obtain ⟨bw, ow, rfl, cw⟩ := unhide HW i hlt
        have hlt' : (i : Int) < n := by omega
        go_wp2_with (fail)
        all_goals first
          | (go_ret; exact ⟨rfl, Below.refl _ _⟩)
          | (have t1 := ge_of (x := h i) ‹_›
             first
              | (have t2 : (FloatKind.f64.format.order (h i) 0 == some .gt) = true := ‹_›
                 refine ⟨⟨true, i + 1, rfl, by go_num, by omega, (unhide HS).yes t1 t2⟩, ?_⟩
                 simp [intOf]; omega)
              | (have t2 : (FloatKind.f64.format.order (h i) 0 == some .gt) = false := ‹_›
                 refine ⟨⟨b, i + 1, rfl, by go_num, by omega, (unhide HS).no t1 t2⟩, ?_⟩
                 simp [intOf]; omega))
      · have e : i = n := by omega
        subst e
        cases b with
        | false =>
          have HR : Hid (∀ j, j < i → R (h j) 0) := fun j hj => nought_of ((unhide HS).1 j hj) ((unhide HS).2.1 rfl j hj)
          clear HS
          go_wp2_with (fail)
          refine (clone_any _ _ i xc f h0 (unhide NX) (unhide HX)).mono ?_
          rintro e w1 ⟨ob, cb, rfl, hf1, hb1⟩
          have HF1 := hide hf1
          have HB1 := hide hb1
          clear hf1 hb1
          have HY1 : Hid (Flts w1 ya i g) := (unhide HY).later (unhide HB1)
          have HW1 : Hid (Flts w1 wa i h) := (unhide HW).later (unhide HB1)
          go_wp2_with (fail)
          refine (clone_any _ _ i yc g h0 (unhide NY) (unhide HY1)).mono ?_
          rintro e w2 ⟨oc, cc, rfl, hf2, hb2⟩
          have HG2 := hide hf2
          have HF2 : Hid (Flts w2 ob i f) := (unhide HF1).later hb2
          have HW2 : Hid (Flts w2 wa i h) := (unhide HW1).later hb2
          have HB2 : Hid (Below w'.heap.size w' w2) := below_then (unhide HB1) hb2
          clear hf2 hb2 HF1 HY1 HW1
          go_wp2_with (fail)
          refine (clone_any _ _ i wc h h0 (unhide NW) (unhide HW2)).mono ?_
          rintro e w3 ⟨od, cd, rfl, hf3, hb3⟩
          have HH3 := hide hf3
          have HF3 : Hid (Flts w3 ob i f) := (unhide HF2).later hb3
          have HG3 : Hid (Flts w3 oc i g) := (unhide HG2).later hb3
          have HB3 : Hid (Below w'.heap.size w' w3) := below_then (unhide HB2) hb3
          clear hf3 hb3 HF2 HG2 HW2 HB2
          have z0 : (FloatKind.f64.format.order 0 0 == some .eq) = true := eq_same R_nought R_nought
          by_cases hn0 : i = 0
          · subst hn0
            go_wp2_with (fail)
            refine (zzmean_none w3 ob oc od cb cc cd).mono ?_
            rintro e w4 ⟨rfl, hb4⟩
            have HB4 : Hid (Below w'.heap.size w' w4) := below_then (unhide HB3) hb4
            clear hb4
            go_wp2_with (fail)
            go_ret
            exact ⟨rfl, unhide HB4⟩
          · have hn0' : ((i : Int) == 0) = false := beq_eq_false_iff_ne.2 (by omega)
            go_wp2_with (fail)
            refine (zzmean_any w3 ob oc od i cb cc cd f g h h0 (by omega) (unhide HF3) (unhide HG3) (unhide HH3) ZJ R_nought (fun j' a p v a' p' v' => zjs (unhide HR) _ j' a p v a' p' v')).mono ?_
            rintro e w4 ⟨⟨x, y, z, he, a, p, v, hJ, hA⟩, hb4⟩
            have he' := nought_answer (unhide HR) (by omega) hJ hA
            subst he'
            have HB4 : Hid (Below w'.heap.size w' w4) := below_then (unhide HB3) hb4
            have HF4 : Hid (Flts w4 ob i f) := (unhide HF3).later hb4
            have HG4 : Hid (Flts w4 oc i g) := (unhide HG3).later hb4
            clear hJ hA hb4 HF3 HG3 HH3 HB3 he
            obtain ⟨b4, o4, rfl, c4⟩ := unhide HF4 0 (by omega)
            obtain ⟨b5, o5, rfl, c5⟩ := unhide HG4 0 (by omega)
            rw [Nat.add_zero] at c4 c5
            have hi0 : (0 : Int) < i := by omega
            go_wp2_with (fail)
            refine (same_any _ _).mono ?_
            rintro e w5 ⟨rfl, rfl⟩
            go_wp2_with (fail)
            refine (same_any _ _).mono ?_
            rintro e w6 ⟨rfl, rfl⟩
            go_wp2_with (fail)
            go_ret
            exact ⟨rfl, unhide HB4⟩
        | true =>
          have HP : Hid (∃ j, j < i ∧ (FloatKind.f64.format.order (h j) 0 == some .gt) = true) := (unhide HS).2.2 rfl
          clear HS
          go_wp2_with (fail)
          go_loop [9] (fun ii => ∃ j : Nat, ii = .int .i64 j ∧ j ≤ i ∧ Laid f g h j) (fun ii => i - (intOf ii).toNat)
          case atStart => exact ⟨0, rfl, by omega, fun _ hj => absurd hj (Nat.not_lt_zero _)⟩
          case round =>
            obtain ⟨j, rfl, hj, hL⟩ := hrel
            have HL := hide hL
            clear hL
            by_cases hlt : j < i
            · obtain ⟨bx, ox, rfl, cx⟩ := unhide HX j hlt
              obtain ⟨bY, oY, rfl, cY⟩ := unhide HY j hlt
              obtain ⟨bw, ow, rfl, cw⟩ := unhide HW j hlt
              have hlt' : (j : Int) < i := by omega
              go_wp2_with (fail)
              refine (onGrid_any _ (f j) _ _ _ _ V_minus V_twenty (by decide) (by decide)).mono ?_
              rintro e w1 ⟨⟨b1, rfl, g1⟩, rfl⟩
              cases b1 with
              | false =>
                go_wp2_with (fail)
                go_ret
                exact ⟨rfl, Below.refl _ _⟩
              | true =>
                have G1 := hide (g1 rfl)
                clear g1
                go_wp2_with (fail)
                refine (onGrid_any _ (g j) _ _ _ _ V_minus V_twenty (by decide) (by decide)).mono ?_
                rintro e w1 ⟨⟨b1, rfl, g2⟩, rfl⟩
                cases b1 with
                | false =>
                  go_wp2_with (fail)
                  go_ret
                  exact ⟨rfl, Below.refl _ _⟩
                | true =>
                  have G2 := hide (g2 rfl)
                  clear g2
                  go_wp2_with (fail)
                  refine (onGrid_any _ (h j) _ _ _ _ V_nought V_twenty (by decide) (by decide)).mono ?_
                  rintro e w1 ⟨⟨b1, rfl, g3⟩, rfl⟩
                  cases b1 with
                  | false =>
                    go_wp2_with (fail)
                    go_ret
                    exact ⟨rfl, Below.refl _ _⟩
                  | true =>
                    have G3 := hide (g3 rfl)
                    clear g3
                    go_wp2_with (fail)
                    go_round
                    case rel => exact ⟨j + 1, by go_num, by omega, (unhide HL).next (unhide G1) (unhide G2) (unhide G3)⟩
                    case measure => simp [intOf]; omega
            · have e : j = i := by omega
              subst e
              obtain ⟨X, Y, W, hG, hcv⟩ := grid_of h0 (unhide HL)
              have HG := hide hG
              have HC := hide hcv
              have HPos := hide (hG.heavy (unhide HP))
              have hj1 : 1 ≤ j := by obtain ⟨j', h1, _⟩ := unhide HP; omega
              have HSums := hide (sums_of hG)
              clear hG hcv HP HL
              have hn0' : ((j : Int) == 0) = false := beq_eq_false_iff_ne.2 (by omega)
              go_wp2_with (fail)
              refine (clone_any _ _ j xc f h0 (unhide NX) (unhide HX)).mono ?_
              rintro e w1 ⟨ob, cb, rfl, hf1, hb1⟩
              have HF1 := hide hf1
              have HB1 := hide hb1
              clear hf1 hb1
              have HY1 : Hid (Flts w1 ya j g) := (unhide HY).later (unhide HB1)
              have HW1 : Hid (Flts w1 wa j h) := (unhide HW).later (unhide HB1)
              go_wp2_with (fail)
              refine (clone_any _ _ j yc g h0 (unhide NY) (unhide HY1)).mono ?_
              rintro e w2 ⟨oc, cc, rfl, hf2, hb2⟩
              have HG2 := hide hf2
              have HF2 : Hid (Flts w2 ob j f) := (unhide HF1).later hb2
              have HW2 : Hid (Flts w2 wa j h) := (unhide HW1).later hb2
              have HB2 : Hid (Below w'.heap.size w' w2) := below_then (unhide HB1) hb2
              clear hf2 hb2 HF1 HY1 HW1
              go_wp2_with (fail)
              refine (clone_any _ _ j wc h h0 (unhide NW) (unhide HW2)).mono ?_
              rintro e w3 ⟨od, cd, rfl, hf3, hb3⟩
              have HH3 := hide hf3
              have HF3 : Hid (Flts w3 ob j f) := (unhide HF2).later hb3
              have HG3 : Hid (Flts w3 oc j g) := (unhide HG2).later hb3
              have HB3 : Hid (Below w'.heap.size w' w3) := below_then (unhide HB2) hb3
              clear hf3 hb3 HF2 HG2 HW2 HB2
              go_wp2_with (fail)
              refine (zzmean_any w3 ob oc od j cb cc cd f g h h0 hj1 (unhide HF3) (unhide HG3) (unhide HH3) (GJ X Y W (X (hv h j))) (gj0 _ _ _ _) (fun j' a p v a' p' v' => gjs (unhide HG) hj1 j' a p v a' p' v')).mono ?_
              rintro e w4 ⟨⟨x, y, z, rfl, a, p, v, hJ, hA⟩, hb4⟩
              have HRight := hide (right_of (unhide HG) hj1 (unhide HPos) hJ hA rfl)
              have HB4 : Hid (Below w'.heap.size w' w4) := below_then (unhide HB3) hb4
              have HF4 : Hid (Flts w4 ob j f) := (unhide HF3).later hb4
              have HG4 : Hid (Flts w4 oc j g) := (unhide HG3).later hb4
              have HH4 : Hid (Flts w4 od j h) := (unhide HH3).later hb4
              clear hJ hA hb4 HF3 HG3 HH3 HB3 HPos HG HB1 HX HY HW
              obtain ⟨SW, hSW⟩ : ∃ S : Nat → Int, S = sm W := ⟨_, rfl⟩
              obtain ⟨SX, hSX⟩ : ∃ S : Nat → Int, S = sm (fun i => W i * X i) := ⟨_, rfl⟩
              obtain ⟨SY, hSY⟩ : ∃ S : Nat → Int, S = sm (fun i => W i * Y i) := ⟨_, rfl⟩
              rw [← hSW, ← hSX, ← hSY] at HSums
              rw [← hSW, ← hSX, ← hSY] at HRight
              clear hSW hSX hSY
              go_wp2_with (fail)
              go_loop [13, 14, 15, 16] (fun a b c ii => ∃ k : Nat, a = .int .i64 (SW k) ∧ b = .int .i64 (SX k) ∧ c = .int .i64 (SY k) ∧ ii = .int .i64 k ∧ k ≤ j) (fun _ _ _ ii => j - (intOf ii).toNat)
              case atStart =>
                obtain ⟨z1, z2, z3⟩ := (unhide HSums).zero
                exact ⟨0, by rw [z1], by rw [z2], by rw [z3], rfl, by omega⟩
              case round =>
                obtain ⟨k, rfl, rfl, rfl, rfl, hk⟩ := hrel
                by_cases hlt : k < j
                · obtain ⟨b4, o4, rfl, c4⟩ := unhide HF4 k hlt
                  obtain ⟨b5, o5, rfl, c5⟩ := unhide HG4 k hlt
                  obtain ⟨b6, o6, rfl, c6⟩ := unhide HH4 k hlt
                  have hlt' : (k : Int) < j := by omega
                  obtain ⟨v1, v2, v3⟩ := unhide HC k hlt
                  have cv1 := fun w => run_convert_float_int (P := Try.prog) w 24 2 .f64 .i64 (f k) (X k) Try.isfloat24 Try.underlying2 v1
                  have cv2 := fun w => run_convert_float_int (P := Try.prog) w 24 2 .f64 .i64 (g k) (Y k) Try.isfloat24 Try.underlying2 v2
                  have cv3 := fun w => run_convert_float_int (P := Try.prog) w 24 2 .f64 .i64 (h k) (W k) Try.isfloat24 Try.underlying2 v3
                  clear v1 v2 v3
                  obtain ⟨s1, s2, s3⟩ := (unhide HSums).small k hk
                  obtain ⟨p1, p2, p3⟩ := (unhide HSums).parts k hlt
                  have HN := hide ((unhide HSums).next k hlt)
                  go_wp2_with (fail)
                  go_round
                  case rel =>
                    obtain ⟨n1, n2, n3⟩ := unhide HN
                    exact ⟨k + 1, by rw [n1], by rw [n2], by rw [n3], by go_num, by omega⟩
                  case measure => simp [intOf]; omega
                · have e : k = j := by omega
                  subst e
                  have hpos := (unhide HRight).pos
                  have tz := (unhide HRight).z
                  obtain ⟨yb, hyb, ty⟩ := (unhide HRight).y
                  have hq := fun w => run_float_arith (P := Try.prog) w .quo 24 .f64 _ _ _ hyb
                  have hpos' : ¬ SW k = 0 := by omega
                  clear hyb
                  by_cases ht : ∃ t, SX k = t * SW k
                  · obtain ⟨t, ht⟩ := ht
                    have tx := (unhide HRight).whole t ht
                    have m1 : (SX k).tmod (SW k) = 0 := by rw [ht]; exact Int.mul_tmod_left _ _
                    have m2 : (SX k).tdiv (SW k) = t := by rw [ht]; exact Int.mul_tdiv_cancel _ (by omega)
                    have tb : t.natAbs ≤ 2 ^ 53 := by
                      have h3 := ((unhide HSums).small k (Nat.le_refl _)).2.1
                      rw [ht, Int.natAbs_mul] at h3
                      exact Nat.le_trans (Nat.le_mul_of_pos_right _ (by omega)) h3
                    have HT := hide ht
                    clear ht
                    go_wp2_with (fail)
                    go_ret
                    exact ⟨rfl, unhide HB4⟩
                  · have hno : ∀ t, SX k ≠ t * SW k := fun t e => ht ⟨t, e⟩
                    have m1 : ((SX k).tmod (SW k) == 0) = false := beq_eq_false_iff_ne.2 (fun e => by
                      refine hno ((SX k).tdiv (SW k)) ?_
                      have := Int.tdiv_mul_add_tmod (SX k) (SW k)
                      omega)
                    have HNo := hide hno
                    clear hno ht
                    go_wp2_with (first | (refine wpList_float _ rfl .quo (by simp) (.tmp 197) (.tmp 199) 24 24 rfl _ _ rfl rfl ?_; intro r1 d1 hr1) | (refine wpList_float _ rfl .sub (by simp) (.tmp 195) (.tmp 200) 24 24 rfl _ _ rfl rfl ?_; intro r2 d2 hr2; obtain ⟨n1, n2⟩ := (unhide HRight).near (unhide HNo) _ _ hr1 hr2))
                    go_ret
                    exact ⟨rfl, below_drewN (unhide HB4) _⟩

set_option maxHeartbeats 1600000 in
set_option maxRecDepth 100000 in
theorem walk3_far (w : World) (xa ya wa : Option Addr) (xn yn wn xc yc wc : Nat) (l1 : xn ≤ maxLen) (l2 : yn ≤ maxLen) (l3 : wn ≤ maxLen) (hf : ¬ (xn ≤ 4096 ∧ yn = xn ∧ wn = xn)) :
    Calls Try.prog 3 #[.slice xa xn xc, .slice ya yn yc, .slice wa wn wc] w fun e w' => e = .returned (.bool true) ∧ Below w.heap.size w w' := by
  have Z := hide (zz8_any w xa ya wa xn yn wn xc yc wc l1 l2 l3)
  unfold maxLen at l1 l2 l3
  go_enter Try.func3, Try.ntmps3
  go_wp2_with (fail)
  refine (unhide Z).mono ?_
  rintro e w' ⟨⟨z, rfl⟩, rfl⟩
  clear Z
  cases z with
  | false =>
    go_wp2_with (fail)
    go_ret
    exact ⟨rfl, Below.refl _ _⟩
  | true =>
    by_cases h1 : (4096 : Int) < xn
    · go_wp2_with (fail)
      go_ret
      exact ⟨rfl, Below.refl _ _⟩
    by_cases h2 : (4096 : Int) < yn
    · go_wp2_with (fail)
      go_ret
      exact ⟨rfl, Below.refl _ _⟩
    by_cases h3 : (4096 : Int) < wn
    · go_wp2_with (fail)
      go_ret
      exact ⟨rfl, Below.refl _ _⟩
    by_cases h4 : yn = xn
    · subst h4
      have h5 : ((wn : Int) != yn) = true := by simp only [bne_iff_ne, ne_eq]; omega
      go_wp2_with (fail)
      go_ret
      exact ⟨rfl, Below.refl _ _⟩
    · have h5 : ((yn : Int) != xn) = true := by simp only [bne_iff_ne, ne_eq]; omega
      go_wp2_with (fail)
      go_ret
      exact ⟨rfl, Below.refl _ _⟩

theorem walk3 (w : World) (xa ya wa : Option Addr) (xn yn wn xc yc wc : Nat) (f g h : Nat → Nat) (l1 : xn ≤ maxLen) (l2 : yn ≤ maxLen) (l3 : wn ≤ maxLen) (nx : xa = none → xn = 0 ∧ xc = 0) (ny : ya = none → yn = 0 ∧ yc = 0) (nw : wa = none → wn = 0 ∧ wc = 0)
    (hx : Flts w xa xn f) (hy : Flts w ya yn g) (hw : Flts w wa wn h) :
    Calls Try.prog 3 #[.slice xa xn xc, .slice ya yn yc, .slice wa wn wc] w fun e w' => e = .returned (.bool true) ∧ Below w.heap.size w w' := by
  by_cases hf : xn ≤ 4096 ∧ yn = xn ∧ wn = xn
  · obtain ⟨h0, rfl, rfl⟩ := hf
    exact exact_same w xa ya wa _ xc yc wc f g h h0 nx ny nw hx hy hw
  · exact walk3_far w xa ya wa xn yn wn xc yc wc l1 l2 l3 hf
end Go.Proofs.Qxb6605538a.WF
