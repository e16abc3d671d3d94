/-
  THE WALK of weightedMean.
-/
import Derived.Test.Qxb6605538aWalkG
import Derived.WalkSmall
import Derived.OwnWalk
namespace Go.Proofs.Qxb6605538a.WF
open Go.RowKit
attribute [local go_sem] run_store_float

theorem size_alloc (w : World) (o : Obj) : (w.alloc o).heap.size = w.heap.size + 1 := by show (w.heap.push o).size = _; simp
/-- a block of three floats, written freely -/
def Box (w : World) (B x y z : Nat) : Prop := B < w.heap.size ∧ (w.cell? ⟨B, 0, none⟩ = some (.float .f64 x) ∧ w.cell? ⟨B, 1, none⟩ = some (.float .f64 y) ∧ w.cell? ⟨B, 2, none⟩ = some (.float .f64 z)) ∧ w.frozen? ⟨B, 0, none⟩ = false ∧ w.frozen? ⟨B, 1, none⟩ = false ∧ w.frozen? ⟨B, 2, none⟩ = false
theorem box_new (w : World) (x y z : Nat) : Box (w.alloc (.cells #[.float .f64 x, .float .f64 y, .float .f64 z] 48)) w.heap.size x y z := by
  refine ⟨by rw [size_alloc]; omega, ⟨?_, ?_, ?_⟩, ?_, ?_, ?_⟩ <;> simp [go_sem]
theorem Box.alloc {w : World} {B x y z : Nat} (h : Box w B x y z) (o : Obj) : Box (w.alloc o) B x y z := by
  obtain ⟨hB, ⟨a, b, c⟩, d, e, f⟩ := h
  have hne : B ≠ w.heap.size := by omega
  refine ⟨by rw [size_alloc]; omega, ⟨?_, ?_, ?_⟩, ?_, ?_, ?_⟩
  · rw [World.cell?_alloc_old _ _ _ hne]; exact a
  · rw [World.cell?_alloc_old _ _ _ hne]; exact b
  · rw [World.cell?_alloc_old _ _ _ hne]; exact c
  · rw [World.frozen?_alloc_old _ _ _ hne]; exact d
  · rw [World.frozen?_alloc_old _ _ _ hne]; exact e
  · rw [World.frozen?_alloc_old _ _ _ hne]; exact f

theorem Box.set {w : World} {B x y z : Nat} (h : Box w B x y z) (x' y' z' : Nat) : Box (((w.setCell ⟨B, 0, none⟩ (.float .f64 x')).setCell ⟨B, 1, none⟩ (.float .f64 y')).setCell ⟨B, 2, none⟩ (.float .f64 z')) B x' y' z' := by
  obtain ⟨hB, ⟨a, b, c⟩, d, e, f⟩ := h
  refine ⟨by simpa [World.setCell] using hB, ⟨?_, ?_, ?_⟩, ?_, ?_, ?_⟩ <;> simp [go_sem, a, b, c, d, e, f]
theorem Box.drewN {w : World} {B x y z : Nat} (h : Box w B x y z) (d : Nat) : Box (w.drewN d) B x y z := h

/-- the index of the heaviest of the first k points: the first that none outweighs -/
def hv (h : Nat → Nat) : Nat → Nat
  | 0 => 0
  | k + 1 => if (FloatKind.f64.format.order (h k) (h (hv h k)) == some .gt) = true then k else hv h k
theorem hv_lt (h : Nat → Nat) (n : Nat) (h1 : 1 ≤ n) : ∀ k, k ≤ n → hv h k < n
  | 0, _ => by simp only [hv]; omega
  | k + 1, hk => by
    have := hv_lt h n h1 k (by omega)
    simp only [hv]
    split
    · omega
    · exact this
theorem hv_yes (h : Nat → Nat) (k : Nat) (e : (FloatKind.f64.format.order (h k) (h (hv h k)) == some .gt) = true) : hv h (k + 1) = k := by simp only [hv]; rw [if_pos e]
theorem hv_no (h : Nat → Nat) (k : Nat) (e : (FloatKind.f64.format.order (h k) (h (hv h k)) == some .gt) = false) : hv h (k + 1) = hv h k := by simp only [hv]; rw [if_neg (by rw [e]; simp)]

/-- a round of the sums -/
def Step (fH : Nat) (x y z a p v a' p' v' : Nat) : Prop := ∃ d m u, Gives (floatBits .add .f64 a z) a' ∧ Gives (floatBits .sub .f64 x fH) d ∧ Gives (floatBits .mul .f64 z d) m ∧ Gives (floatBits .add .f64 p m) p' ∧ Gives (floatBits .mul .f64 z y) u ∧ Gives (floatBits .add .f64 v u) v'
/-- the answer, from the sums -/
def Answer (fH gH a p v : Nat) (e : Ending) : Prop :=
  ((FloatKind.f64.format.order a 0 == some .eq) = true ∧ e = .returned (.tuple #[.float .f64 fH, .float .f64 gH, .float .f64 0])) ∨
  ((FloatKind.f64.format.order a 0 == some .eq) = false ∧ ∃ q x y, Gives (floatBits .quo .f64 p a) q ∧ Gives (floatBits .add .f64 fH q) x ∧ Gives (floatBits .quo .f64 v a) y ∧ e = .returned (.tuple #[.float .f64 x, .float .f64 y, .float .f64 a]))

theorem below_then {a b c : World} (h1 : Below a.heap.size a b) (h2 : Below b.heap.size b c) : Below a.heap.size a c :=
  h1.trans (h2.mono h1.size)

set_option maxHeartbeats 1600000 in
set_option maxRecDepth 100000 in
theorem mean_any (w : World) (b n cap : Nat) (f g h : Nat → Nat) (h0 : n ≤ 4096) (h1 : 1 ≤ n) (hp : Pts w b n f g h)
    (J : Nat → Nat → Nat → Nat → Prop) (j0 : J 0 0 0 0) (js : ∀ k a p v a' p' v', k < n → J k a p v → Step (f (hv h n)) (f k) (g k) (h k) a p v a' p' v' → J (k + 1) a' p' v') :
    Calls Try.prog 21 #[.slice (some ⟨b, 0, none⟩) n cap] w fun e w' => (∃ a p v, J n a p v ∧ Answer (f (hv h n)) (g (hv h n)) a p v e) ∧ Below w.heap.size w w' := by
  have HP := hide hp
  have HJ := hide js
  clear js
  obtain ⟨c0, c1, c2⟩ := hp 0 (by omega)
  rw [Nat.zero_mul] at c0 c1 c2
  clear hp
  have hn : ((n : Int) == 0) = false := beq_eq_false_iff_ne.2 (by omega)
  go_enter Try.func21, Try.ntmps21
  go_wp2_with (fail)
  clear c0 c1 c2 hn
  go_loopw [20] (fun i wr => ∃ k : Nat, k ≤ n ∧ i = .int .i64 k ∧ Below w.heap.size w wr ∧ Box wr w.heap.size (f (hv h k)) (g (hv h k)) (h (hv h k))) (fun i _ => n - (intOf i).toNat)
  case atStart => exact ⟨0, by omega, rfl, (Below.refl _ _).alloc (Nat.le_refl _) _, box_new _ _ _ _⟩
  case round =>
    obtain ⟨k, hk, rfl, hB, hbox⟩ := hrel
    have HB := hide hB
    have HX := hide hbox
    clear hB hbox
    by_cases hlt : k < n
    · obtain ⟨p0, p1, p2⟩ := (unhide HP).later (unhide HB) k hlt
      have hlt' : (k : Int) < n := by omega
      have HA := hide ((unhide HX).alloc (.cells #[.float .f64 (f k), .float .f64 (g k), .float .f64 (h k)] 48))
      obtain ⟨q1, ⟨q2, q3, q4⟩, q5, q6, q7⟩ := unhide HA
      by_cases ht : (FloatKind.f64.format.order (h k) (h (hv h k)) == some .gt) = true
      · go_wp2_with (fail)
        go_roundw
        case rel =>
          refine ⟨k + 1, by omega, by go_num, ?_, ?_⟩
          · exact ((((unhide HB).alloc (Nat.le_of_lt (unhide HX).1) _).setCell (p := ⟨w.heap.size, 0, none⟩) (Nat.le_refl _) _).setCell (p := ⟨w.heap.size, 1, none⟩) (Nat.le_refl _) _).setCell (p := ⟨w.heap.size, 2, none⟩) (Nat.le_refl _) _
          · rw [hv_yes h k ht]
            exact (unhide HA).set _ _ _
        case measure => simp [intOf]; omega
      · have ht' := Bool.eq_false_iff.2 ht
        clear ht
        go_wp2_with (fail)
        go_roundw
        case rel =>
          refine ⟨k + 1, by omega, by go_num, (unhide HB).alloc (Nat.le_of_lt (unhide HX).1) _, ?_⟩
          rw [hv_no h k ht']
          exact unhide HA
        case measure => simp [intOf]; omega
    · have e : k = n := by omega
      subst e
      go_wp2_with (fail)
      obtain ⟨wa, hwa⟩ : ∃ wa, wa = wr := ⟨_, rfl⟩
      subst hwa
      go_loopw [4, 8, 9, 33] (fun a p v i wr => ∃ (j a' p' v' : Nat), j ≤ k ∧ a = .float .f64 a' ∧ p = .float .f64 p' ∧ v = .float .f64 v' ∧ i = .int .i64 j ∧ J j a' p' v' ∧ Below w.heap.size w wr ∧ Box wr w.heap.size (f (hv h k)) (g (hv h k)) (h (hv h k))) (fun _ _ _ i _ => k - (intOf i).toNat)
      case atStart => exact ⟨0, 0, 0, 0, by omega, rfl, rfl, rfl, rfl, j0, unhide HB, unhide HX⟩
      case round =>
        clear HB HX
        obtain ⟨j, a, p, v, hj, rfl, rfl, rfl, rfl, hJ, hB, hbox⟩ := hrel
        have HB := hide hB
        have HX := hide hbox
        have HJj := hide hJ
        clear hB hbox hJ
        by_cases hlt : j < k
        · obtain ⟨p0, p1, p2⟩ := (unhide HP).later (unhide HB) j hlt
          have hlt' : (j : Int) < k := by omega
          have HA := hide ((unhide HX).alloc (.cells #[.float .f64 (f j), .float .f64 (g j), .float .f64 (h j)] 48))
          obtain ⟨q1, ⟨q2, q3, q4⟩, q5, q6, q7⟩ := unhide HA
          go_wp2_with (first | (refine wpList_float _ rfl .add (by simp) (.tmp 37) (.tmp 39) 24 24 rfl _ _ rfl rfl ?_; intro r1 d1 hr1) | (refine wpList_float _ rfl .sub (by simp) (.tmp 45) (.tmp 47) 24 24 rfl _ _ rfl rfl ?_; intro r2 d2 hr2) | (refine wpList_float _ rfl .mul (by simp) (.tmp 43) (.tmp 48) 24 24 rfl _ _ rfl rfl ?_; intro r3 d3 hr3) | (refine wpList_float _ rfl .add (by simp) (.tmp 41) (.tmp 49) 24 24 rfl _ _ rfl rfl ?_; intro r4 d4 hr4) | (refine wpList_float _ rfl .mul (by simp) (.tmp 53) (.tmp 55) 24 24 rfl _ _ rfl rfl ?_; intro r5 d5 hr5) | (refine wpList_float _ rfl .add (by simp) (.tmp 51) (.tmp 56) 24 24 rfl _ _ rfl rfl ?_; intro r6 d6 hr6))
          go_roundw
          case rel => exact ⟨j + 1, r1, r4, r6, by omega, rfl, rfl, rfl, by go_num, unhide HJ j a p v r1 r4 r6 hlt (unhide HJj) ⟨r2, r3, r5, hr1, hr2, hr3, hr4, hr5, hr6⟩, below_drewN ((unhide HB).alloc (Nat.le_of_lt (unhide HX).1) _) _, (unhide HA).drewN _⟩
          case measure => simp [intOf]; omega
        · have e : j = k := by omega
          subst e
          obtain ⟨q1, ⟨q2, q3, q4⟩, q5, q6, q7⟩ := unhide HX
          by_cases hz : (FloatKind.f64.format.order a 0 == some .eq) = true
          · go_wp2_with (fail)
            go_quiet (fail)
            go_wp2_with (fail)
            go_ret3
            exact ⟨⟨a, p, v, unhide HJj, Or.inl ⟨hz, rfl⟩⟩, below_drewN (unhide HB) _⟩
          · have hz' := Bool.eq_false_iff.2 hz
            clear hz
            go_wp2_with (first | (refine wpList_float _ rfl .quo (by simp) (.tmp 67) (.tmp 68) 24 24 rfl _ _ rfl rfl ?_; intro r1 d1 hr1) | (refine wpList_float _ rfl .add (by simp) (.tmp 66) (.tmp 69) 24 24 rfl _ _ rfl rfl ?_; intro r2 d2 hr2) | (refine wpList_float _ rfl .quo (by simp) (.tmp 71) (.tmp 72) 24 24 rfl _ _ rfl rfl ?_; intro r3 d3 hr3))
            go_ret3
            exact ⟨⟨a, p, v, unhide HJj, Or.inr ⟨hz', r1, r2, r3, hr1, hr2, hr3, rfl⟩⟩, below_drewN (unhide HB) _⟩

set_option maxHeartbeats 400000 in
theorem mean_none (w : World) (a : Option Addr) (cap : Nat) :
    Calls Try.prog 21 #[.slice a 0 cap] w fun e w' => e = .returned (.tuple #[.float .f64 0, .float .f64 0, .float .f64 0]) ∧ w' = w := by
  go_enter Try.func21, Try.ntmps21
  go_wp2_with (fail)
  go_ret3
  exact ⟨rfl, rfl⟩

set_option maxHeartbeats 400000 in
theorem zzmean_any (w : World) (xa ya wa : Option Addr) (n xc yc wc : Nat) (f g h : Nat → Nat) (h0 : n ≤ 4096) (h1 : 1 ≤ n) (hx : Flts w xa n f) (hy : Flts w ya n g) (hw : Flts w wa n h)
    (J : Nat → Nat → Nat → Nat → Prop) (j0 : J 0 0 0 0) (js : ∀ k a p v a' p' v', k < n → J k a p v → Step (f (hv h n)) (f k) (g k) (h k) a p v a' p' v' → J (k + 1) a' p' v') :
    Calls Try.prog 11 #[.slice xa n xc, .slice ya n yc, .slice wa n wc] w fun e w' => (∃ x y z, e = .returned (.tuple #[.float .f64 x, .float .f64 y, .float .f64 z]) ∧ ∃ a p v, J n a p v ∧ Answer (f (hv h n)) (g (hv h n)) a p v e) ∧ Below w.heap.size w w' := by
  go_enter Try.func11, Try.ntmps11
  go_wp2_with (fail)
  refine (points_any w xa ya wa n xc yc wc f g h h0 hx hy hw).mono ?_
  rintro e w1 ⟨rfl, hp, hB⟩
  have HP := hide hp
  have HB := hide hB
  clear hp hB
  go_wp2_with (fail)
  refine (mean_any w1 w.heap.size n n f g h h0 h1 (unhide HP) J j0 js).mono ?_
  rintro e w2 ⟨⟨a, p, v, hJ, hA⟩, hB2⟩
  have HC : Hid (Below w.heap.size w w2) := below_then (unhide HB) hB2
  have HJ := hide hJ
  have HA := hide hA
  obtain ⟨x, y, z, rfl⟩ : ∃ x y z, e = .returned (.tuple #[.float .f64 x, .float .f64 y, .float .f64 z]) := by
    rcases hA with ⟨_, rfl⟩ | ⟨_, q, x, y, _, _, _, rfl⟩
    · exact ⟨_, _, _, rfl⟩
    · exact ⟨_, _, _, rfl⟩
  clear hA hJ hB2
  go_wp2_with (fail)
  go_ret3
  exact ⟨⟨x, y, z, rfl, a, p, v, unhide HJ, unhide HA⟩, unhide HC⟩

set_option maxHeartbeats 400000 in
theorem zzmean_none (w : World) (xa ya wa : Option Addr) (xc yc wc : Nat) :
    Calls Try.prog 11 #[.slice xa 0 xc, .slice ya 0 yc, .slice wa 0 wc] w fun e w' => e = .returned (.tuple #[.float .f64 0, .float .f64 0, .float .f64 0]) ∧ Below w.heap.size w w' := by
  go_enter Try.func11, Try.ntmps11
  go_wp2_with (fail)
  refine (points_any w xa ya wa 0 xc yc wc (fun _ => 0) (fun _ => 0) (fun _ => 0) (by omega) (fun _ h => absurd h (Nat.not_lt_zero _)) (fun _ h => absurd h (Nat.not_lt_zero _)) (fun _ h => absurd h (Nat.not_lt_zero _))).mono ?_
  rintro e w1 ⟨rfl, hp, hB⟩
  have HB := hide hB
  clear hp hB
  go_wp2_with (fail)
  refine (mean_none w1 _ _).mono ?_
  rintro e w2 ⟨rfl, rfl⟩
  go_wp2_with (fail)
  go_ret3
  exact ⟨rfl, unhide HB⟩
end Go.Proofs.Qxb6605538a.WF
