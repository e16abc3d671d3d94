/-
  THE WALK of slices.Delete(s, i, i+1) over packages (six cells each) that the call itself owns.
-/
import Derived.Test.Qxb6605467aPutE
import Derived.Deep.RegionLaw
import Derived.Lib.SlicesDelete
import Derived.Lib.SliceRun
namespace Go.Proofs.Qxb6605467a.Put
open Go.RowKit
open Go.Proofs.Qxb6605467a.Node (hide unhide)

/-! ### setCells on a block that is owned -/
theorem heap_setCells (g : Nat) (t : TypeId) : ∀ (vs : List Value) (o : Nat) (cur : Array Value) (w : World), w.heap[g]? = some (.cells cur t (0, 0)) → (w.setCells g o vs).heap[g]? = some (.cells (Lib.lay cur o vs) t (0, 0))
  | [], _, _, _, h => h
  | v :: r, o, cur, w, h => by
    rw [World.setCells, Lib.lay]
    exact heap_setCells g t r (o + 1) _ _ (heap_setCell_same w g o cur t v h)
theorem grown_setCells (g : Nat) : ∀ (vs : List Value) (o : Nat) (w : World), w.grownBy (w.setCells g o vs) (some g)
  | [], _, w => World.grownBy.refl w _
  | v :: r, o, w => by
    rw [World.setCells]
    have h := grown_setCells g r (o + 1) (w.setCell ⟨g, o, none⟩ v)
    refine ⟨h.os, h.tape, h.output, ?_, fun k hk hne => ?_⟩
    · have := h.size; simpa using this
    · rw [h.block k (by simpa using hk) hne]
      exact heap_setCell_other w ⟨g, o, none⟩ k v (fun e => hne (by simp [e]))

def zero35 : List Value := [.string { data := #[] }, .string { data := #[] }, .string { data := #[] }, .string { data := #[] }, .string { data := #[] }, .slice none 0 0]
theorem zeroValue35 (w : World) : (zeroValue 35).run Try.prog w = .ok (.agg zero35.toArray) w := by kernel_rfl
theorem Try.info35 : (Try.prog.info? 35).map (fun i => (i.zero, i.size, i.bytes)) = some (some (.agg zero35.toArray), 6, 104) := by kernel_rfl

/-- 'clear(s)', s one package -/
theorem run_clear_one (w : World) (ty : TypeId) (b o c : Nat) (hc : ∀ j, j < 6 → (w.cell? ⟨b, o + j, none⟩).isSome = true) (hf : ∀ j, j < 6 → w.frozen? ⟨b, o + j, none⟩ = false) :
    (Builtin.clear_ #[31] ty #[.slice (some ⟨b, o, none⟩) 1 c]).run Try.prog w = .ok (.tuple #[]) (w.setCells b o zero35) := by
  have hst := run_storeCells_cells (P := Try.prog) b o zero35 0 w (by simpa [zero35] using hc) (by simpa [zero35] using hf) (by simp [zero35, Value.oneCell'])
  simp only [Nat.add_zero] at hst
  have hz : (Builtin.zeroCells (Value.agg #[.string { data := #[] }, .string { data := #[] }, .string { data := #[] }, .string { data := #[] }, .string { data := #[] }, .slice none 0 0]).cells 1).toList = zero35 := by kernel_rfl
  simp [Builtin.clear_, run_underlying Try.underlying31]
  rw [hz, hst]
  rfl

/-! ### the row behind the two writes -/
/-- what is left of xs (n elements of six cells) without the element at i -/
def without (i : Nat) (xs : List Value) : List Value := xs.take (i * 6) ++ xs.drop ((i + 1) * 6)
theorem without_len (i n : Nat) (xs : List Value) (h : xs.length = n * 6) (hi : i < n) : (without i xs).length = (n - 1) * 6 := by
  simp [without, h]; omega
/-- the cells that move -/
def moved (i n : Nat) (cur : List Value) : List Value := (cur.drop ((i + 1) * 6)).take ((n - (i + 1)) * 6)
theorem moved_len (i n : Nat) (cur : List Value) (h : n * 6 ≤ cur.length) (hi : i < n) : (moved i n cur).length = (n - (i + 1)) * 6 := by
  simp [moved]; omega
theorem moved_get (i n : Nat) (cur : List Value) (j : Nat) (hj : j < (n - (i + 1)) * 6) : (moved i n cur)[j]? = cur[(i + 1) * 6 + j]? := by
  simp [moved, hj]

theorem moved_mem {i n : Nat} {cur xs : List Value} (ht : cur.take (n * 6) = xs) {u : Value} (h : u ∈ moved i n cur) : u ∈ xs := by
  have e : moved i n cur = xs.drop ((i + 1) * 6) := by
    rw [← ht, moved, List.drop_take, Nat.sub_mul]
  rw [e] at h
  exact List.mem_of_mem_drop h

theorem delete_row (i n cap : Nat) (cur : Array Value) (xs : List Value) (hi : i < n) (hn : n ≤ cap) (hs : cur.size = cap * 6) (ht : cur.toList.take (n * 6) = xs) :
    (Lib.lay (Lib.lay cur (i * 6) (moved i n cur.toList)) ((n - 1) * 6) zero35).size = cap * 6 ∧
    (Lib.lay (Lib.lay cur (i * 6) (moved i n cur.toList)) ((n - 1) * 6) zero35).toList.take ((n - 1) * 6) = without i xs := by
  have hl := moved_len i n cur.toList (by simp [hs]; omega) hi
  have hx : xs.length = n * 6 := by rw [← ht]; simp [hs]; omega
  refine ⟨by rw [Lib.lay_size, Lib.lay_size, hs], ?_⟩
  apply List.ext_getElem?
  intro j
  by_cases hj : j < (n - 1) * 6
  · rw [List.getElem?_take, if_pos hj, Array.getElem?_toList, Lib.lay_get? _ _ _ _ (by rw [Lib.lay_size, hs]; simp [zero35]; omega), if_neg (by omega),
      Lib.lay_get? _ _ _ _ (by rw [hl, hs]; omega), hl]
    by_cases h1 : j < i * 6
    · rw [if_neg (by omega), without, List.getElem?_append_left (by simp; omega), List.getElem?_take, if_pos h1, ← ht, List.getElem?_take, if_pos (by omega), Array.getElem?_toList]
    · rw [if_pos (by omega), moved_get i n _ _ (by omega), without, List.getElem?_append_right (by simp; omega)]
      simp only [List.length_take, hx, List.getElem?_drop]
      rw [← ht, List.getElem?_take, if_pos (by omega)]
      congr 1
      omega
  · rw [List.getElem?_eq_none (by simp; omega), List.getElem?_eq_none (by rw [without_len i n xs hx hi]; omega)]

set_option maxHeartbeats 1600000 in
set_option maxRecDepth 1000000 in
theorem delete_walk (g n cap i : Nat) (cur : Array Value) (w : World) (hg : w.heap[g]? = some (.cells cur 35 (0, 0))) (hi : i < n) (hn : n ≤ cap) (_hm : n ≤ 1048576) (hc63 : cap ≤ maxLen) (hs : cur.size = cap * 6) (h1 : ∀ u ∈ moved i n cur.toList, u.oneCell' = true) :
    Calls Try.prog 25 #[.slice (some ⟨g, 0, none⟩) n cap, .int .i64 i, .int .i64 ((i : Int) + 1)] w
      fun e w' => e = .returned (.slice (some ⟨g, 0, none⟩) (i + (n - (i + 1))) cap) ∧ w' = (w.drew.setCells g (0 + i * 6) (moved i n cur.toList)).setCells g ((i + (n - (i + 1))) * 6) zero35 := by
  have hc64 := hc63
  clear hc63
  unfold maxLen at hc64
  obtain ⟨i35, hi35, hz0, hz1, hz2⟩ := info_parts Try.info35
  have hl := moved_len i n cur.toList (by simp [hs]; omega) hi
  have hcell : ∀ j, j < cap * 6 → w.cell? ⟨g, j, none⟩ = cur[j]? := fun j _ => cell_of_row w g j cur 35 (0, 0) hg
  have hfr : ∀ j, w.frozen? ⟨g, j, none⟩ = false := fun j => frozen_of_row w g j cur 35 hg
  obtain ⟨A, hA, hnews⟩ : ∃ A : Addr, (if cap = i + 1 then some (⟨g, 0, none⟩ : Addr) else some ⟨g, (i + 1) * 6, none⟩) = some A ∧ Hid (∀ j u, (moved i n cur.toList)[j]? = some u → w.drew.cell? (A.add j) = some u) := by
    by_cases h : cap = i + 1
    · refine ⟨⟨g, 0, none⟩, by simp [h], fun j u hu => ?_⟩
      have h0 : (moved i n cur.toList).length = 0 := by rw [hl]; omega
      rw [List.length_eq_zero_iff.1 h0] at hu
      simp at hu
    · refine ⟨⟨g, (i + 1) * 6, none⟩, by simp [h], fun j u hu => ?_⟩
      have hj : j < (n - (i + 1)) * 6 := by
        have := (List.getElem?_eq_some_iff.1 hu).1
        rwa [hl] at this
      rw [moved_get i n _ _ hj] at hu
      rw [Addr.add_lit]
      show w.cell? _ = _
      rw [hcell _ (by omega), ← hu, Array.getElem?_toList]
  have s1 : Hid ((moved i n cur.toList).length = (n - (i + 1)) * 6) := hl
  have s2 : Hid (∀ u ∈ moved i n cur.toList, u.oneCell' = true) := h1
  have s3 : Hid (∀ j, j < (moved i n cur.toList).length → (w.drew.cell? ⟨g, 0 + i * 6 + j, none⟩).isSome = true ∧ w.drew.frozen? ⟨g, 0 + i * 6 + j, none⟩ = false) := by
    intro j hj
    rw [hl] at hj
    refine ⟨?_, hfr _⟩
    show (w.cell? _).isSome = true
    rw [hcell _ (by omega), Array.getElem?_eq_getElem (by omega)]
    rfl
  obtain ⟨W1, hW1⟩ : ∃ W1, W1 = w.drew.setCells g (0 + i * 6) (moved i n cur.toList) := ⟨_, rfl⟩
  have hg1 : W1.heap[g]? = some (.cells (Lib.lay cur (i * 6) (moved i n cur.toList)) 35 (0, 0)) := by
    rw [hW1]
    have := heap_setCells g 35 (moved i n cur.toList) (0 + i * 6) cur w.drew hg
    rwa [Nat.zero_add] at this ⊢
  have hcl : ∀ ty c, (Builtin.clear_ #[31] ty #[.slice (some ⟨g, (i + (n - (i + 1))) * 6, none⟩) (n - (i + (n - (i + 1)))) c]).run Try.prog W1 = .ok (.tuple #[]) (W1.setCells g ((i + (n - (i + 1))) * 6) zero35) := by
    intro ty c
    rw [show n - (i + (n - (i + 1))) = 1 from by omega]
    refine run_clear_one W1 ty g _ c (fun j hj => ?_) (fun j hj => frozen_of_row W1 g _ _ 35 hg1)
    rw [cell_of_row W1 g _ _ 35 (0, 0) hg1, Array.getElem?_eq_getElem (by rw [Lib.lay_size, hs]; omega)]
    rfl
  have HW := hide hW1
  have hic : i ≤ cap := by omega
  have hjc : i + 1 ≤ cap := by omega
  clear hW1 hg1 hl hcell hfr hg h1
  go_enter Try.func25, Try.ntmps25
  go_wp2_with fail
  have hq : ((i : Int) + 1).toNat = i + 1 := by omega
  have hq1 : (0 : Int) ≤ (i : Int) + 1 := by omega
  have hq2 : (i : Int) + 1 ≤ (n : Int) := by omega
  go_region_law (refine step_append_room rfl (.tmp 22) (.tmp 25) 31 rfl 35 i35 6 Try.underlying31 hi35 hz1 g 0 i cap (by simp [Act.eval, Act.put]) A (n - (i + 1)) (cap - (i + 1)) (moved i n cur.toList) (by simp [Act.eval, Act.put]) s1.out hnews.out s2.out (by omega) s3.out ?_; rw [← HW.out])
  have hr1 : (i : Int) + ((n : Int) - ((i : Int) + 1)) ≤ (n : Int) := by omega
  go_wp2
  go_ret
  rw [HW.out]
  exact ⟨rfl, rfl⟩

/-- slices.Delete(s, i, i+1): s without its element at i; s's own block alone is written -/
theorem delete_any (base : Nat) (g n cap i : Nat) (xs : List Value) (w : World) (hown : w.ownsRow base 35 6 (.slice (some ⟨g, 0, none⟩) n cap) n xs) (hi : i < n) (hm : n ≤ 1048576) (h1 : ∀ u ∈ xs, u.oneCell' = true) :
    Calls Try.prog 25 #[.slice (some ⟨g, 0, none⟩) n cap, .int .i64 i, .int .i64 ((i : Int) + 1)] w
      fun e w' => e = .returned (.slice (some ⟨g, 0, none⟩) (n - 1) cap) ∧ w'.ownsRow base 35 6 (.slice (some ⟨g, 0, none⟩) (n - 1) cap) (n - 1) (without i xs) ∧ w.grownBy w' (some g) := by
  obtain ⟨hx, h⟩ := hown
  rcases h with ⟨h, _⟩ | ⟨g', cap', cur, h, hb, hg, hn, hc, hs, ht⟩
  · cases h
  cases h
  refine (delete_walk g n cap i cur w hg hi hn hm hc hs (fun u hu => h1 u (moved_mem ht hu))).mono ?_
  rintro e w' ⟨rfl, rfl⟩
  have e1 : i + (n - (i + 1)) = n - 1 := by omega
  have hg1 := heap_setCells g 35 (moved i n cur.toList) (0 + i * 6) cur w.drew hg
  have hg2 := heap_setCells g 35 zero35 ((n - 1) * 6) _ _ hg1
  have D := delete_row i n cap cur xs hi hn hs ht
  rw [Nat.zero_add] at hg1 hg2 ⊢
  rw [e1]
  refine ⟨rfl, ⟨without_len i n xs hx hi, .inr ⟨g, cap, _, rfl, hb, hg2, by omega, hc, D.1, D.2⟩⟩, ?_⟩
  have a1 := grown_setCells g (moved i n cur.toList) (i * 6) w.drew
  have a2 := grown_setCells g zero35 ((n - 1) * 6) (w.drew.setCells g (i * 6) (moved i n cur.toList))
  exact ⟨a2.os.trans a1.os, a2.tape.trans a1.tape, a2.output.trans a1.output, Nat.le_trans a1.size a2.size, fun k hk hne => (a2.block k (Nat.lt_of_lt_of_le hk a1.size) hne).trans (a1.block k hk hne)⟩
end Go.Proofs.Qxb6605467a.Put
