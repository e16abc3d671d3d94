/-
  THE WALK of zzPoints: the points in a row of the call's own.
-/
import Derived.Test.Qxb6605538aWalkF
import Derived.BigRegion
namespace Go.Proofs.Qxb6605538a.WF
open Go.RowKit
attribute [local go_sem] run_store_float

theorem Try.info48 : (Try.prog.info? 48).map (fun i => (i.zero, i.size, i.bytes)) = some (some (.agg #[.float .f64 0, .float .f64 0, .float .f64 0]), 3, 24) := by kernel_rfl

/-- cell i of the row of points, the first k of them laid -/
def pbits (f g h : Nat → Nat) (k i : Nat) : Nat := if i / 3 < k then (if i % 3 = 0 then f (i / 3) else if i % 3 = 1 then g (i / 3) else h (i / 3)) else 0
def pts (f g h : Nat → Nat) (n k : Nat) : List Value := (List.range (n * 3)).map fun i => .float .f64 (pbits f g h k i)
theorem pts_len (f g h : Nat → Nat) (n k : Nat) : (pts f g h n k).length = n * 3 := by simp [pts]
theorem pts_get (f g h : Nat → Nat) (n k j : Nat) (hj : j < n * 3) : (pts f g h n k)[j]? = some (.float .f64 (pbits f g h k j)) := by
  simp [pts, hj]
theorem pts_zero (f g h : Nat → Nat) (n : Nat) : (madeCells #[Value.float .f64 0, .float .f64 0, .float .f64 0] (n * 3)).toList = pts f g h n 0 := by
  apply List.ext_getElem?
  intro j
  by_cases hj : j < n * 3
  · rw [pts_get _ _ _ _ _ _ hj, Array.getElem?_toList]
    have hm : j % 3 < 3 := Nat.mod_lt _ (by omega)
    have e : pbits f g h 0 j = 0 := by simp [pbits]
    rw [e]
    simp only [madeCells, Array.getElem?_map, Array.getElem?_range, if_pos hj, Option.map_some, List.size_toArray, List.length_cons, List.length_nil]
    generalize j % 3 = t at *
    match t, hm with
    | 0, _ => rfl
    | 1, _ => rfl
    | 2, _ => rfl
  · rw [List.getElem?_eq_none (by simp [madeCells]; omega), List.getElem?_eq_none (by rw [pts_len]; omega)]
theorem pts_set (f g h : Nat → Nat) (n k : Nat) (hk : k < n) : (((pts f g h n k).set (k * 3) (.float .f64 (f k))).set (k * 3 + 1) (.float .f64 (g k))).set (k * 3 + 2) (.float .f64 (h k)) = pts f g h n (k + 1) := by
  apply List.ext_getElem?
  intro j
  by_cases hj : j < n * 3
  · rw [pts_get _ _ _ _ _ _ hj]
    simp only [List.getElem?_set, List.length_set, pts_len, pts_get _ _ _ _ _ _ hj]
    by_cases e2 : k * 3 + 2 = j
    · have h1 : j / 3 = k := by omega
      have h2 : j % 3 = 2 := by omega
      rw [if_pos e2, if_pos (by omega), pbits, h1, h2]
      simp
    · rw [if_neg e2]
      by_cases e1 : k * 3 + 1 = j
      · have h1 : j / 3 = k := by omega
        have h2 : j % 3 = 1 := by omega
        rw [if_pos e1, if_pos (by omega), pbits, h1, h2]
        simp
      · rw [if_neg e1]
        by_cases e0 : k * 3 = j
        · have h1 : j / 3 = k := by omega
          have h2 : j % 3 = 0 := by omega
          rw [if_pos e0, if_pos (by omega), pbits, h1, h2]
          simp
        · rw [if_neg e0]
          congr 2
          unfold pbits
          by_cases hl : j / 3 < k
          · have h2 : j / 3 < k + 1 := by omega
            simp only [hl, h2, if_true]
          · have h2 : ¬ j / 3 < k + 1 := by omega
            simp only [hl, h2, if_false]
  · rw [List.getElem?_eq_none (by simp [pts_len]; omega), List.getElem?_eq_none (by rw [pts_len]; omega)]

/-- the points as they lie -/
def Pts (w : World) (b n : Nat) (f g h : Nat → Nat) : Prop := ∀ k, k < n → w.cell? ⟨b, k * 3, none⟩ = some (.float .f64 (f k)) ∧ w.cell? ⟨b, k * 3 + 1, none⟩ = some (.float .f64 (g k)) ∧ w.cell? ⟨b, k * 3 + 2, none⟩ = some (.float .f64 (h k))
theorem Pts.later {w w' : World} {b n : Nat} {f g h : Nat → Nat} (hp : Pts w b n f g h) (hb : Below w.heap.size w w') : Pts w' b n f g h := by
  intro k hk
  obtain ⟨h0, h1, h2⟩ := hp k hk
  have hl := block_lt_of_cell h0
  have hc : ∀ j, w'.cell? ⟨b, j, none⟩ = w.cell? ⟨b, j, none⟩ := fun j => hb.cell (p := ⟨b, j, none⟩) hl
  exact ⟨(hc _).trans h0, (hc _).trans h1, (hc _).trans h2⟩
theorem pts_of_row {w : World} {base b n cap : Nat} {f g h : Nat → Nat} (ho : w.ownsRow base 48 3 (.slice (some ⟨b, 0, none⟩) n cap) n (pts f g h n n)) : Pts w b n f g h := by
  intro k hk
  have hc : ∀ j, j < n * 3 → w.cell? ⟨b, j, none⟩ = some (.float .f64 (pbits f g h n j)) := fun j hj => by rw [ho.cellAt j hj, pts_get _ _ _ _ _ _ hj]
  refine ⟨?_, ?_, ?_⟩
  · rw [hc _ (by omega), pbits, if_pos (by omega), if_pos (by omega), show k * 3 / 3 = k from by omega]
  · rw [hc _ (by omega), pbits, if_pos (by omega), if_neg (by omega), if_pos (by omega), show (k * 3 + 1) / 3 = k from by omega]
  · rw [hc _ (by omega), pbits, if_pos (by omega), if_neg (by omega), if_neg (by omega), show (k * 3 + 2) / 3 = k from by omega]

set_option maxHeartbeats 1600000 in
set_option maxRecDepth 100000 in
theorem points_any (w : World) (xa ya wa : Option Addr) (n xc yc wc : Nat) (f g h : Nat → Nat) (h0 : n ≤ 4096) (hx : Flts w xa n f) (hy : Flts w ya n g) (hw : Flts w wa n h) :
    Calls Try.prog 22 #[.slice xa n xc, .slice ya n yc, .slice wa n wc] w fun e w' => e = .returned (.slice (some ⟨w.heap.size, 0, none⟩) n n) ∧ Pts w' w.heap.size n f g h ∧ Below w.heap.size w w' := by
  obtain ⟨i48, hi, hz0, hz1, hz2⟩ := info_parts Try.info48
  have HX := hide hx
  have HY := hide hy
  have HWt := hide hw
  clear hx hy hw
  go_enter Try.func22, Try.ntmps22
  go_wp2_with (first | (at_make; refine wpList_make_full _ rfl _ _ 43 rfl w.heap.size 48 i48 (.agg #[.float .f64 0, .float .f64 0, .float .f64 0]) 3 Try.underlying43 hi hz0 hz1 .i64 .i64 n n n rfl rfl rfl rfl (by rw [hz2]; omega) (by unfold maxLen; omega) (Nat.le_refl _) ?_) | fail)
  intro w1 hown hgr
  rw [pts_zero f g h] at hown
  have HM : Hid (Below w.heap.size w w1) := (Below.refl _ _).grown hgr (Nat.le_refl _) (fun _ h => by cases h)
  have HO := hide hown
  clear hown hgr
  go_wp2_with (fail)
  go_loopw [8] (fun i wr => ∃ k : Nat, k ≤ n ∧ i = .int .i64 k ∧ wr.ownsRow w.heap.size 48 3 (.slice (some ⟨w.heap.size, 0, none⟩) n n) n (pts f g h n k) ∧ Below w.heap.size w wr) (fun i _ => n - (intOf i).toNat)
  case atStart => exact ⟨0, Nat.zero_le _, rfl, unhide HO, unhide HM⟩
  case round =>
    obtain ⟨k, hk, rfl, hown, hm⟩ := hrel
    have HM := hide hm
    have HO := hide hown
    clear hown hm
    by_cases hlt : k < n
    · obtain ⟨b, off, rfl, hc⟩ := unhide HX k hlt
      obtain ⟨b', off', rfl, hc'⟩ := unhide HY k hlt
      obtain ⟨b'', off'', rfl, hc''⟩ := unhide HWt k hlt
      have x1 : wr.cell? ⟨b, off + k, none⟩ = some (.float .f64 (f k)) := by rw [(unhide HM).cell (block_lt_of_cell hc)]; exact hc
      have x2 : wr.cell? ⟨b', off' + k, none⟩ = some (.float .f64 (g k)) := by rw [(unhide HM).cell (block_lt_of_cell hc')]; exact hc'
      have x3 : wr.cell? ⟨b'', off'' + k, none⟩ = some (.float .f64 (h k)) := by rw [(unhide HM).cell (block_lt_of_cell hc'')]; exact hc''
      have d0 := (unhide HO).cellAt (k * 3) (by omega)
      have d1 := (unhide HO).cellAt (k * 3 + 1) (by omega)
      have d2 := (unhide HO).cellAt (k * 3 + 2) (by omega)
      rw [pts_get _ _ _ _ _ _ (by omega)] at d0 d1 d2
      have f0 := (unhide HO).frozenAt (k * 3)
      have f1 := (unhide HO).frozenAt (k * 3 + 1)
      have f2 := (unhide HO).frozenAt (k * 3 + 2)
      have hlt' : (k : Int) < (n : Int) := by omega
      have HR : Hid ((((wr.setCell ⟨w.heap.size, k * 3, none⟩ (.float .f64 (f k))).setCell ⟨w.heap.size, k * 3 + 1, none⟩ (.float .f64 (g k))).setCell ⟨w.heap.size, k * 3 + 2, none⟩ (.float .f64 (h k))).ownsRow w.heap.size 48 3 (.slice (some ⟨w.heap.size, 0, none⟩) n n) n (pts f g h n (k + 1))) := by
        have a1 := ((unhide HO).stored (k * 3) (.float .f64 (f k))).1
        have a2 := (a1.stored (k * 3 + 1) (.float .f64 (g k))).1
        have a3 := (a2.stored (k * 3 + 2) (.float .f64 (h k))).1
        rw [pts_set _ _ _ _ _ hlt] at a3
        exact a3
      clear hc hc' hc''
      go_wp2_with (fail)
      go_region
      go_wp2
      go_roundw
      case rel => exact ⟨k + 1, by omega, by go_num, unhide HR, ((((unhide HM).setCell (p := ⟨w.heap.size, k * 3, none⟩) (Nat.le_refl _) _).setCell (p := ⟨w.heap.size, k * 3 + 1, none⟩) (Nat.le_refl _) _).setCell (p := ⟨w.heap.size, k * 3 + 2, none⟩) (Nat.le_refl _) _).drew⟩
      case measure => simp [intOf]; omega
    · have e : k = n := by omega
      subst e
      go_wp2
      go_ret
      exact ⟨rfl, pts_of_row (unhide HO), unhide HM⟩
end Go.Proofs.Qxb6605538a.WF
