/-
  THE WALK of FnWeightedMeanSharedPlace.
-/
import Derived.Test.Qxb6605538aShared
namespace Go.Proofs.Qxb6605538a.WF
open Go.RowKit Ieee Flt
attribute [local go_sem] run_store_float

theorem absv_pow (e : Nat) (h : 1 ≤ e) : absv (e * 2 ^ 52) = two (e + 51) := by
  have h1 : ¬ e * 2 ^ 52 < 2 ^ 52 := by omega
  unfold absv
  rw [if_neg h1, Nat.mul_mod_left, Nat.mul_div_cancel _ (by omega), Nat.add_zero, ← Nat.pow_add]
  unfold two
  congr 1
  omega
theorem R_far : R 9110782046170513408 (far : Nat) := by
  have h := R_word false (2023 * 2 ^ 52) (by rw [inf_eq]; omega)
  rw [absv_pow 2023 (by omega)] at h
  have e : double.word false (2023 * 2 ^ 52) = 9110782046170513408 := by decide
  rw [e] at h
  unfold far
  exact h
theorem R_near : R 18334154083025289216 (-(far : Nat)) := by
  have h := R_word true (2023 * 2 ^ 52) (by rw [inf_eq]; omega)
  rw [absv_pow 2023 (by omega)] at h
  have e : double.word true (2023 * 2 ^ 52) = 18334154083025289216 := by decide
  rw [e] at h
  unfold far
  exact h
theorem R_max : ∃ v, R 9218868437227405311 v := by
  have h := R_word false 9218868437227405311 (by rw [inf_eq]; omega)
  have e : double.word false 9218868437227405311 = 9218868437227405311 := by decide
  rw [e] at h
  exact ⟨_, h⟩
theorem okw {x : Nat} (h1 : (FloatKind.f64.format.order x 0 == some .gt || FloatKind.f64.format.order x 0 == some .eq) = true) (h2 : (FloatKind.f64.format.order x 9218868437227405311 == some .lt || FloatKind.f64.format.order x 9218868437227405311 == some .eq) = true) : R x (val x) ∧ 0 ≤ val x := by
  obtain ⟨m, hm⟩ := R_max
  obtain ⟨v, hv, h0, _⟩ := between R_nought hm h1 h2
  rw [val_of hv]
  exact ⟨hv, h0⟩
theorem okx {x : Nat} (h1 : (FloatKind.f64.format.order x 18334154083025289216 == some .gt || FloatKind.f64.format.order x 18334154083025289216 == some .eq) = true) (h2 : (FloatKind.f64.format.order x 9110782046170513408 == some .lt || FloatKind.f64.format.order x 9110782046170513408 == some .eq) = true) : R x (val x) ∧ (val x).natAbs ≤ far := by
  obtain ⟨v, hv, h0, h1⟩ := between R_near R_far h1 h2
  rw [val_of hv]
  exact ⟨hv, by omega⟩
def Heavy (x : Nat) : Prop := (FloatKind.f64.format.order x 0 == some .gt) = true
theorem heavy_pos {x : Nat} (hr : R x (val x)) : Heavy x ↔ 0 < val x := by
  have ho : FloatKind.f64.format.order x 0 = some (compare (val x) 0) := R_order hr R_nought
  unfold Heavy
  rw [ho]
  constructor
  · intro h; exact cmp_gt.1 (by simpa using h)
  · intro h; rw [cmp_gt.2 h]; rfl
/-- the points up to i are as the law asks -/
def Fine (f h : Nat → Nat) (i : Nat) : Prop := ∀ j, j < i → (R (h j) (val (h j)) ∧ 0 ≤ val (h j)) ∧ (R (f j) (val (f j)) ∧ (val (f j)).natAbs ≤ far)

theorem okw' {x : Nat} (_ : FloatKind.f64.format.order x 0 = some .gt ∨ FloatKind.f64.format.order x 0 = some .eq)
    (h2 : ((!FloatKind.f64.format.order x 0 == some .gt) = false ∨ (!FloatKind.f64.format.order x 0 == some .eq) = false) ∧ ((!FloatKind.f64.format.order x 9218868437227405311 == some .lt) = false ∨ (!FloatKind.f64.format.order x 9218868437227405311 == some .eq) = false)) :
    R x (val x) ∧ 0 ≤ val x := okw (by simpa using h2.1) (by simpa using h2.2)
theorem okx' {x : Nat} (_ : FloatKind.f64.format.order x 18334154083025289216 = some .gt ∨ FloatKind.f64.format.order x 18334154083025289216 = some .eq)
    (h2 : ((!FloatKind.f64.format.order x 18334154083025289216 == some .gt) = false ∨ (!FloatKind.f64.format.order x 18334154083025289216 == some .eq) = false) ∧ ((!FloatKind.f64.format.order x 9110782046170513408 == some .lt) = false ∨ (!FloatKind.f64.format.order x 9110782046170513408 == some .eq) = false)) :
    R x (val x) ∧ (val x).natAbs ≤ far := okx (by simpa using h2.1) (by simpa using h2.2)
theorem Fine.next {f h : Nat → Nat} {i : Nat} (hF : Fine f h i) (h1 : R (h i) (val (h i)) ∧ 0 ≤ val (h i)) (h2 : R (f i) (val (f i)) ∧ (val (f i)).natAbs ≤ far) : Fine f h (i + 1) := by
  intro j hj
  rcases Nat.lt_or_ge j i with hl | hl
  · exact hF j hl
  · have e : j = i := by omega
    subst e
    exact ⟨h1, h2⟩
theorem heavy_of {x : Nat} (h : FloatKind.f64.format.order x 0 = some .gt) : Heavy x := by unfold Heavy; rw [h]; rfl
theorem seen_next {h : Nat → Nat} {q : Int} {i : Nat} (hq : q < 0 ∨ ∃ k : Nat, q = k ∧ k < i ∧ Heavy (h k)) : q < 0 ∨ ∃ k : Nat, q = k ∧ k < i + 1 ∧ Heavy (h k) := by
  rcases hq with hq | ⟨k, e, hk, hh⟩
  · exact Or.inl hq
  · exact Or.inr ⟨k, e, by omega, hh⟩
/-- the points of positive weight up to j stand at the k-th's place -/
def At (f h : Nat → Nat) (k j : Nat) : Prop := ∀ i, i < j → Heavy (h i) → (FloatKind.f64.format.order (f i) (f k) == some .eq) = true
theorem At.next {f h : Nat → Nat} {k j : Nat} (hA : At f h k j) (hn : Heavy (h j) → (FloatKind.f64.format.order (f j) (f k) == some .eq) = true) : At f h k (j + 1) := by
  intro i hi
  rcases Nat.lt_or_ge i j with hl | hl
  · exact hA i hl
  · have e : i = j := by omega
    subst e
    exact hn
theorem found_of {n k : Nat} {f h : Nat → Nat} (hF : Fine f h n) (hk : k < n) (hh : Heavy (h k)) (hA : At f h k n) : Found n k f h := by
  refine ⟨hk, fun i hi => (hF i hi).1, fun i hi => (hF i hi).2, (heavy_pos (hF k hk).1.1).1 hh, fun i hi hp => ?_⟩
  have h1 := hA i hi ((heavy_pos (hF i hi).1.1).2 hp)
  have ho : FloatKind.f64.format.order (f i) (f k) = some (compare (val (f i)) (val (f k))) := R_order (hF i hi).2.1 (hF k hk).2.1
  rw [ho] at h1
  exact cmp_eq.1 (by simpa using h1)

set_option maxHeartbeats 1600000 in
set_option maxRecDepth 100000 in
theorem walk_same (w : World) (xa ya wa : Option Addr) (n xc yc wc : Nat) (f g h : Nat → Nat) (h0 : n ≤ 4096) (nx : xa = none → n = 0 ∧ xc = 0) (ny : ya = none → n = 0 ∧ yc = 0) (nw : wa = none → n = 0 ∧ wc = 0)
    (hx : Flts w xa n f) (hy : Flts w ya n g) (hw : Flts w wa n h) :
    Calls Try.prog 4 #[.slice xa n xc, .slice ya n yc, .slice wa n wc] w fun e w' => e = .returned (.bool true) ∧ Below w.heap.size w w' := by
  have HX := hide hx
  have HY := hide hy
  have HW := hide hw
  have NX := hide nx
  have NY := hide ny
  have NW := hide nw
  clear hx hy hw nx ny nw
  go_enter Try.func4, Try.ntmps4
  go_wp2_with (fail)
  refine (zz13_any w xa ya wa n n n xc yc wc (by unfold maxLen; omega) (by unfold maxLen; omega) (by unfold maxLen; omega)).mono ?_
  rintro e w' ⟨⟨z, rfl⟩, rfl⟩
  cases z with
  | false =>
    go_wp2_with (fail)
    go_ret
    exact ⟨rfl, Below.refl _ _⟩
  | true =>
    go_wp2_with (fail)
    go_loop [7, 8] (fun kk i => ∃ (q : Int) (j : Nat), kk = .int .i64 q ∧ i = .int .i64 j ∧ j ≤ n ∧ Fine f h j ∧ (q < 0 ∨ ∃ k : Nat, q = k ∧ k < j ∧ Heavy (h k))) (fun _ i => n - (intOf i).toNat)
    case atStart => exact ⟨-1, 0, rfl, rfl, by omega, fun _ hj => absurd hj (Nat.not_lt_zero _), Or.inl (by omega)⟩
    case round =>
      obtain ⟨q, i, rfl, rfl, hi, hF, hq⟩ := hrel
      have HF := hide hF
      have HQ := hide hq
      clear hF hq
      by_cases hlt : i < n
      · obtain ⟨bx, ox, rfl, cx⟩ := unhide HX i hlt
        obtain ⟨bw, ow, rfl, cw⟩ := unhide HW i hlt
        have hlt' : (i : Int) < n := by omega
        go_wp2_with (fail)
        all_goals first
          | (go_ret; exact ⟨rfl, Below.refl _ _⟩)
          | (have hF1 := (unhide HF).next (okw' (x := h i) ‹_› ‹_›) (okx' (x := f i) ‹_› ‹_›)
             first
              | (have hh := heavy_of (x := h i) ‹_›
                 have hneg : q < 0 := ‹_›
                 refine ⟨⟨i, i + 1, rfl, by go_num, by omega, hF1, Or.inr ⟨i, rfl, by omega, hh⟩⟩, ?_⟩
                 simp [intOf]; omega)
              | (refine ⟨⟨q, i + 1, rfl, by go_num, by omega, hF1, seen_next (unhide HQ)⟩, ?_⟩
                 simp [intOf]; omega))
      · have e : i = n := by omega
        subst e
        rcases unhide HQ with hneg | ⟨k, rfl, hk, hh⟩
        · go_wp2_with (fail)
          go_ret
          exact ⟨rfl, Below.refl _ _⟩
        · have hk0 : ¬ (k : Int) < 0 := by omega
          have HH := hide hh
          obtain ⟨bx, ox, rfl, cx⟩ := unhide HX k hk
          clear hh
          go_wp2_with (fail)
          go_loopw [9] (fun ii wr => ∃ j : Nat, ii = .int .i64 j ∧ j ≤ i ∧ At f h k j ∧ ∃ d, wr = w'.drewN d) (fun ii _ => i - (intOf ii).toNat)
          case atStart => exact ⟨0, rfl, by omega, fun _ hj => absurd hj (Nat.not_lt_zero _), 0, rfl⟩
          case round =>
            obtain ⟨j, rfl, hj, hAt, d, rfl⟩ := hrel
            have HA := hide hAt
            clear hAt
            by_cases hlt : j < i
            · obtain ⟨bx', ox', ex, cx'⟩ := unhide HX j hlt
              cases ex
              obtain ⟨bw, ow, rfl, cw⟩ := unhide HW j hlt
              have hlt' : (j : Int) < i := by omega
              have hk' : (k : Int) < i := by omega
              by_cases hp : (FloatKind.f64.format.order (h j) 0 == some .gt) = true
              · by_cases he : (FloatKind.f64.format.order (f j) (f k) == some .eq) = true
                · have he2 : (FloatKind.f64.format.order (f j) (f k) != some .eq) = false := by simp only [bne, he, Bool.not_true]
                  go_wp2_with (fail)
                  go_quiet (fail)
                  go_wp2_with (fail)
                  go_roundw
                  case rel =>
                    refine ⟨j + 1, by go_num, by omega, At.next (unhide HA) (fun _ => he), ?_⟩
                    exact ⟨_, rfl⟩
                  case measure => simp [intOf]; omega
                · have he2 : (FloatKind.f64.format.order (f j) (f k) != some .eq) = true := by simp only [bne, Bool.eq_false_iff.2 he, Bool.not_false]
                  clear he
                  go_wp2_with (fail)
                  go_quiet (fail)
                  go_wp2_with (fail)
                  go_ret
                  exact ⟨rfl, below_drewN (below_drewN (Below.refl _ _) _) _⟩
              · have hp' := Bool.eq_false_iff.2 hp
                go_wp2_with (fail)
                go_quiet (fail)
                go_wp2_with (fail)
                go_roundw
                case rel =>
                  refine ⟨j + 1, by go_num, by omega, At.next (unhide HA) (fun hh => absurd hh hp), ?_⟩
                  exact ⟨_, rfl⟩
                case measure => simp [intOf]; omega
            · have e : j = i := by omega
              subst e
              have HFound := hide (found_of (unhide HF) hk (unhide HH) (unhide HA))
              clear HQ HF HA
              go_wp2_with (fail)
              refine (clone_any (w'.drewN d) _ j xc f h0 (unhide NX) (unhide HX)).mono ?_
              rintro e w1 ⟨ob, cb, rfl, hf1, hb1⟩
              have HF1 := hide hf1
              have HB1 := hide hb1
              clear hf1 hb1
              have HY1 : Hid (Flts w1 ya j g) := Flts.later (w := w'.drewN d) (unhide HY) (unhide HB1)
              have HW1 : Hid (Flts w1 wa j h) := Flts.later (w := w'.drewN d) (unhide HW) (unhide HB1)
              go_wp2_with (fail)
              refine (clone_any _ _ j yc g h0 (unhide NY) (unhide HY1)).mono ?_
              rintro e w2 ⟨oc, cc, rfl, hf2, hb2⟩
              have HG2 := hide hf2
              have HF2 : Hid (Flts w2 ob j f) := (unhide HF1).later hb2
              have HW2 : Hid (Flts w2 wa j h) := (unhide HW1).later hb2
              have HB2 : Hid (Below w'.heap.size w' w2) := below_then (below_then (below_drewN (Below.refl _ _) d) (unhide HB1)) hb2
              clear hf2 hb2 HF1 HY1 HW1
              go_wp2_with (fail)
              refine (clone_any _ _ j wc h h0 (unhide NW) (unhide HW2)).mono ?_
              rintro e w3 ⟨od, cd, rfl, hf3, hb3⟩
              have HH3 := hide hf3
              have HF3 : Hid (Flts w3 ob j f) := (unhide HF2).later hb3
              have HG3 : Hid (Flts w3 oc j g) := (unhide HG2).later hb3
              have HB3 : Hid (Below w'.heap.size w' w3) := below_then (unhide HB2) hb3
              clear hf3 hb3 HF2 HG2 HW2 HB2
              go_wp2_with (fail)
              refine (zzmean_any w3 ob oc od j cb cc cd f g h h0 (by omega) (unhide HF3) (unhide HG3) (unhide HH3) (SJ k) (sj0 k) (fun j' a p v a' p' v' => sjs (unhide HFound) j' a p v a' p' v')).mono ?_
              rintro e w4 ⟨⟨x, y, z, rfl, a, p, v, hJ, hA⟩, hb4⟩
              obtain ⟨t1, t2⟩ := shared_answer (unhide HFound) hJ hA rfl
              have HB4 : Hid (Below w'.heap.size w' w4) := below_then (unhide HB3) hb4
              have HF4 : Hid (Flts w4 ob j f) := (unhide HF3).later hb4
              clear hJ hA hb4 HF3 HG3 HH3 HB3
              obtain ⟨b4, o4, rfl, c4⟩ := unhide HF4 k hk
              have hk' : (k : Int) < j := by omega
              go_wp2_with (fail)
              go_ret
              exact ⟨rfl, unhide HB4⟩

set_option maxHeartbeats 1600000 in
theorem walk4_far (w : World) (xa ya wa : Option Addr) (xn yn wn xc yc wc : Nat) (l1 : xn ≤ maxLen) (l2 : yn ≤ maxLen) (l3 : wn ≤ maxLen) (hf : ¬ (xn ≤ 4096 ∧ yn = xn ∧ wn = xn)) :
    Calls Try.prog 4 #[.slice xa xn xc, .slice ya yn yc, .slice wa wn wc] w fun e w' => e = .returned (.bool true) ∧ Below w.heap.size w w' := by
  have Z := hide (zz13_any w xa ya wa xn yn wn xc yc wc l1 l2 l3)
  unfold maxLen at l1 l2 l3
  go_enter Try.func4, Try.ntmps4
  go_wp2_with (fail)
  refine (unhide Z).mono ?_
  rintro e w' ⟨⟨z, rfl⟩, rfl⟩
  clear Z
  cases z with
  | false =>
    go_wp2_with (fail)
    go_ret
    exact ⟨rfl, Below.refl _ _⟩
  | true =>
    by_cases h1 : (4096 : Int) < xn
    · go_wp2_with (fail)
      go_ret
      exact ⟨rfl, Below.refl _ _⟩
    by_cases h2 : (4096 : Int) < yn
    · go_wp2_with (fail)
      go_ret
      exact ⟨rfl, Below.refl _ _⟩
    by_cases h3 : (4096 : Int) < wn
    · go_wp2_with (fail)
      go_ret
      exact ⟨rfl, Below.refl _ _⟩
    by_cases h4 : yn = xn
    · subst h4
      have h5 : ((wn : Int) != yn) = true := by simp only [bne_iff_ne, ne_eq]; omega
      go_wp2_with (fail)
      go_ret
      exact ⟨rfl, Below.refl _ _⟩
    · have h5 : ((yn : Int) != xn) = true := by simp only [bne_iff_ne, ne_eq]; omega
      go_wp2_with (fail)
      go_ret
      exact ⟨rfl, Below.refl _ _⟩

theorem walk4 (w : World) (xa ya wa : Option Addr) (xn yn wn xc yc wc : Nat) (f g h : Nat → Nat) (l1 : xn ≤ maxLen) (l2 : yn ≤ maxLen) (l3 : wn ≤ maxLen) (nx : xa = none → xn = 0 ∧ xc = 0) (ny : ya = none → yn = 0 ∧ yc = 0) (nw : wa = none → wn = 0 ∧ wc = 0)
    (hx : Flts w xa xn f) (hy : Flts w ya yn g) (hw : Flts w wa wn h) :
    Calls Try.prog 4 #[.slice xa xn xc, .slice ya yn yc, .slice wa wn wc] w fun e w' => e = .returned (.bool true) ∧ Below w.heap.size w w' := by
  by_cases hf : xn ≤ 4096 ∧ yn = xn ∧ wn = xn
  · obtain ⟨h0, rfl, rfl⟩ := hf
    exact walk_same w xa ya wa _ xc yc wc f g h h0 nx ny nw hx hy hw
  · exact walk4_far w xa ya wa xn yn wn xc yc wc l1 l2 l3 hf
end Go.Proofs.Qxb6605538a.WF
