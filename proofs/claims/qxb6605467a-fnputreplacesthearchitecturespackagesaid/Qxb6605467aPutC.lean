/-
  THE WALK of b1ToPkg: a copy of the package, its slice of strings in new memory.
-/
import Derived.Test.Qxb6605467aPutA
namespace Go.Proofs.Qxb6605467a.Put
open Go.RowKit
open Go.Proofs.Qxb6605467a.Node (hide unhide)

theorem Try.info9 : (Try.prog.info? 9).map (fun i => (i.zero, i.size, i.bytes)) = some (some (.string ByteArray.empty), 1, 16) := by kernel_rfl

/-- n strings: the first k are f's, the others empty -/
def sofar (f : Nat → ByteArray) (n k : Nat) : List Value := (List.range n).map fun j => .string (if j < k then f j else ByteArray.empty)
theorem sofar_len (f : Nat → ByteArray) (n k : Nat) : (sofar f n k).length = n := by simp [sofar]
theorem sofar_get (f : Nat → ByteArray) (n k j : Nat) (h : j < n) : (sofar f n k)[j]? = some (.string (if j < k then f j else ByteArray.empty)) := by
  simp [sofar, h]
theorem sofar_zero (f : Nat → ByteArray) (n : Nat) : (madeCells #[Value.string ByteArray.empty] n).toList = sofar f n 0 := by
  rw [toList_madeCells_one]
  apply List.ext_getElem?
  intro j
  by_cases hj : j < n
  · rw [sofar_get _ _ _ _ hj]; simp [hj]
  · simp [sofar, hj]
theorem sofar_set (f : Nat → ByteArray) (n k : Nat) : (sofar f n k).set k (.string (f k)) = sofar f n (k + 1) := by
  apply List.ext_getElem?
  intro j
  by_cases hj : j < n
  · rw [List.getElem?_set, sofar_get _ _ _ _ hj, sofar_get _ _ _ _ hj, sofar_len]
    by_cases e : k = j
    · subst e; simp [hj]
    · rw [if_neg e]
      have : (j < k + 1) = (j < k) := by simp; omega
      simp [this]
  · have h1 : (sofar f n (k + 1))[j]? = none := by simp [sofar, hj]
    have h2 : ((sofar f n k).set k (.string (f k)))[j]? = none := by
      rw [List.getElem?_eq_none_iff, List.length_set, sofar_len]; omega
    rw [h1, h2]

theorem cell_far (w : World) (p a : Addr) (v : Value) (h : p.block ≠ a.block) : (w.setCell p v).cell? a = w.cell? a :=
  World.cell?_of_block (Below.heap_setCell w p v a.block (Ne.symm h))

/-- two blocks of the call's own, cells c1 and c2, and whatever came later -/
theorem mid_cell {w wr : World} {c1 c2 : Array Value} {t1 t2 : TypeId} (h : Below (w.heap.size + 2) ((w.alloc (.cells c1 t1)).alloc (.cells c2 t2)) wr) (j : Nat) :
    wr.cell? ⟨w.heap.size, j, none⟩ = c1[j]? ∧ wr.cell? ⟨w.heap.size + 1, j, none⟩ = c2[j]? ∧ wr.frozen? ⟨w.heap.size + 1, j, none⟩ = false := by
  refine ⟨?_, ?_, ?_⟩
  · rw [h.cell (by show w.heap.size < _; omega), World.cell?_alloc_past _ _ _ (by simp), World.cell?_alloc_at _ _ _ _ rfl]
  · rw [h.cell (by show w.heap.size + 1 < _; omega), World.cell?_alloc_at _ _ _ _ (by simp)]
  · rw [h.frozen (by show w.heap.size + 1 < _; omega), World.frozen?_alloc_at _ _ _ _ (by simp)]
theorem mid_below {w wr : World} {o1 o2 : Obj} (h : Below (w.heap.size + 2) ((w.alloc o1).alloc o2) wr) : Below w.heap.size w wr :=
  ((below_alloc w o1).alloc (by simp) o2).trans (h.mono (by omega))
theorem mid_size {w wr : World} {o1 o2 : Obj} (h : Below (w.heap.size + 2) ((w.alloc o1).alloc o2) wr) : w.heap.size + 1 < wr.heap.size := by
  have := h.size; simp at this; omega

/-- what a round does -/
theorem round_step {w wr W2 : World} {f : Nat → ByteArray} {n k : Nat} (hm : Below (w.heap.size + 2) W2 wr)
    (hown : wr.ownsRow (w.heap.size + 2) 9 1 (.slice (some ⟨w.heap.size + 1 + 1, 0, none⟩) n n) n (sofar f n k)) :
    Below (w.heap.size + 2) W2 (wr.setCell ⟨w.heap.size + 1 + 1, k, none⟩ (.string (f k))) ∧
    (wr.setCell ⟨w.heap.size + 1 + 1, k, none⟩ (.string (f k))).ownsRow (w.heap.size + 2) 9 1 (.slice (some ⟨w.heap.size + 1 + 1, 0, none⟩) n n) n (sofar f n (k + 1)) := by
  refine ⟨hm.setCell (by show w.heap.size + 2 ≤ w.heap.size + 1 + 1; omega) _, ?_⟩
  have := (hown.stored k (.string (f k))).1
  rwa [sofar_set] at this
theorem own_tag {wr : World} {base g n cap : Nat} {xs : List Value} (h : wr.ownsRow base 9 1 (.slice (some ⟨g, 0, none⟩) n cap) n xs) : ∃ cur, wr.heap[g]? = some (.cells cur 9 (0, 0)) := by
  rcases h.2 with ⟨e, _⟩ | ⟨g', cap', cur, e, _, hg, _⟩
  · cases e
  · cases e
    exact ⟨cur, hg⟩
theorem end_strs {w wr w' : World} {f : Nat → ByteArray} {n : Nat}
    (hown : wr.ownsRow (w.heap.size + 2) 9 1 (.slice (some ⟨w.heap.size + 1 + 1, 0, none⟩) n n) n (sofar f n n)) (hc : ∀ j, w'.cell? ⟨w.heap.size + 1 + 1, j, none⟩ = wr.cell? ⟨w.heap.size + 1 + 1, j, none⟩) : Strs w' (some ⟨w.heap.size + 2, 0, none⟩) n f := by
  intro k hk
  refine ⟨_, _, rfl, ?_⟩
  rw [Nat.zero_add]
  show w'.cell? ⟨w.heap.size + 1 + 1, k, none⟩ = _
  rw [hc, hown.cellAt k (by omega), sofar_get _ _ _ _ hk, if_pos hk]

set_option maxHeartbeats 800000 in
theorem pkg_some (s0 s1 s2 s3 s4 : ByteArray) (a : Addr) (n cap : Nat) (f : Nat → ByteArray) (w : World) (h0 : n ≤ 1048576) (h : Strs w (some a) n f) :
    Calls Try.prog 16 #[.agg #[.string s0, .string s1, .string s2, .string s3, .string s4, .slice (some a) n cap]] w
      fun e w' => e = .returned (.agg #[.string s0, .string s1, .string s2, .string s3, .string s4, .slice (some ⟨w.heap.size + 2, 0, none⟩) n n]) ∧ Strs w' (some ⟨w.heap.size + 2, 0, none⟩) n f ∧ Below w.heap.size w w' ∧ ∃ cur, w'.heap[w.heap.size + 2]? = some (.cells cur 9 (0, 0)) := by
  obtain ⟨i9, hi, hz0, hz1, hz2⟩ := info_parts Try.info9
  have H := hide h
  clear h
  have hne := fun (w : World) (a : Option Addr) (n c n' c' : Nat) => run_neq_slice_nil_any (P := Try.prog) w 26 9 a n c n' c' Try.underlying26
  go_enter Try.func16, Try.ntmps16
  go_wp2_with (first | (at_make; refine wpList_make_full _ rfl _ _ 26 rfl (w.heap.size + 2) 9 i9 (.string ByteArray.empty) 1 Try.underlying26 hi hz0 hz1 .i64 .i64 n n n rfl rfl rfl rfl (by rw [hz2]; omega) (by unfold maxLen; omega) (by simp) ?_) | fail)
  intro w1 hown hgr
  rw [sofar_zero f] at hown
  have HM : Hid (Below (w.heap.size + 2) _ w1) := (Below.refl _ _).grown hgr (by simp) (fun _ h => by cases h)
  have HO := hide hown
  clear hown hgr hne
  go_wp2_with (fail)
  go_loopw [4] (fun i wr => ∃ k : Nat, k ≤ n ∧ i = .int .i64 k ∧ wr.ownsRow (w.heap.size + 2) 9 1 (.slice (some ⟨w.heap.size + 1 + 1, 0, none⟩) n n) n (sofar f n k) ∧ 
     Below (w.heap.size + 2) ((w.alloc (Obj.cells #[.string s0, .string s1, .string s2, .string s3, .string s4, .slice (some a) n cap] 28)).alloc (Obj.cells #[.string { data := #[] }, .string { data := #[] }, .string { data := #[] }, .string { data := #[] }, .string { data := #[] }, .slice none 0 0] 35)) wr) (fun i _ => n - (intOf i).toNat)
  case atStart => exact ⟨0, Nat.zero_le _, rfl, unhide HO, unhide HM⟩
  case round =>
    obtain ⟨k, hk, rfl, hown, hm⟩ := hrel
    have q5 := (mid_cell hm 5).1
    have HM := hide hm
    have HO := hide hown
    have hsz := mid_size hm
    clear hown hm
    by_cases hlt : k < n
    · obtain ⟨b, off, e, hc⟩ := unhide H k hlt
      cases e
      have hc' : wr.cell? ⟨b, off + k, none⟩ = some (.string (f k)) := by rw [(mid_below (unhide HM)).cell (block_lt_of_cell hc)]; exact hc
      have hd := (unhide HO).cellAt k (by omega)
      rw [sofar_get _ _ _ _ hlt] at hd
      have hfz := (unhide HO).frozenAt k
      have R := round_step (unhide HM) (unhide HO)
      have HR := hide R
      clear R
      go_wp2_with (fail)
      go_roundw
      case rel => exact ⟨k + 1, by omega, by go_num, (unhide HR).2, (unhide HR).1⟩
      case measure => simp [intOf]; omega
    · have q0 := (mid_cell (unhide HM) 0).1
      have q1 := (mid_cell (unhide HM) 1).1
      have q2 := (mid_cell (unhide HM) 2).1
      have q3 := (mid_cell (unhide HM) 3).1
      have q4 := (mid_cell (unhide HM) 4).1
      have f0 := (mid_cell (unhide HM) 0).2
      have f1 := (mid_cell (unhide HM) 1).2
      have f2 := (mid_cell (unhide HM) 2).2
      have f3 := (mid_cell (unhide HM) 3).2
      have f4 := (mid_cell (unhide HM) 4).2
      have f5 := (mid_cell (unhide HM) 5).2
      go_wp2_with (fail)
      have hkn : k = n := by omega
      subst hkn
      refine bodyPost_ret (v := .agg #[.string s0, .string s1, .string s2, .string s3, .string s4, .slice (some ⟨w.heap.size + 1 + 1, 0, none⟩) k k]) ?_ rfl ⟨rfl, end_strs (unhide HO) (fun j => ?_), ?_, ?_⟩
      · simp [results, Try.results16, go_sem, f0, f1, f2, f3, f4, f5]
      · iterate 6 rw [cell_far _ _ _ _ (by simp)]
      · exact ((((((mid_below (unhide HM)).setCell (by simp) _).setCell (by simp) _).setCell (by simp) _).setCell (by simp) _).setCell (by simp) _).setCell (by simp) _
      · obtain ⟨cur, hcur⟩ := own_tag (unhide HO)
        refine ⟨cur, ?_⟩
        iterate 6 rw [Below.heap_setCell _ _ _ _ (by simp)]
        exact hcur

set_option maxHeartbeats 400000 in
theorem pkg_none (s0 s1 s2 s3 s4 : ByteArray) (w : World) :
    Calls Try.prog 16 #[.agg #[.string s0, .string s1, .string s2, .string s3, .string s4, .slice none 0 0]] w
      fun e w' => e = .returned (.agg #[.string s0, .string s1, .string s2, .string s3, .string s4, .slice none 0 0]) ∧ Below w.heap.size w w' := by
  have hne := fun (w : World) (a : Option Addr) (n c n' c' : Nat) => run_neq_slice_nil_any (P := Try.prog) w 26 9 a n c n' c' Try.underlying26
  go_enter Try.func16, Try.ntmps16
  go_wp2_with (fail)
  refine bodyPost_ret (v := .agg #[.string s0, .string s1, .string s2, .string s3, .string s4, .slice none 0 0]) ?_ rfl ⟨rfl, ?_⟩
  · simp [results, Try.results16, go_sem]
  · exact (below_alloc _ _).alloc (by simp) _

/-- a package that lies ready in w for a copy: its slice is nil, or not; it reads; it is not too long -/
def PV.ready (w : World) (p : PV) : Prop := (p.ca = none → p.cn = 0 ∧ p.cc = 0) ∧ p.cn ≤ 1048576 ∧ Strs w p.ca p.cn p.cf
/-- the six cells as one value -/
def PV.val (p : PV) : Value := .agg #[.string p.s0, .string p.s1, .string p.s2, .string p.s3, .string p.s4, .slice p.ca p.cn p.cc]
/-- two packages that read alike -/
def PV.like (p q : PV) : Prop := p.s0 = q.s0 ∧ p.s1 = q.s1 ∧ p.s2 = q.s2 ∧ p.s3 = q.s3 ∧ p.s4 = q.s4 ∧ (p.ca = none ↔ q.ca = none) ∧ p.cn = q.cn ∧ ∀ k, k < p.cn → p.cf k = q.cf k
/-- the package's slice lies, if anywhere, in a block of strings -/
def PV.tag (w : World) (p : PV) : Prop := ∀ a, p.ca = some a → ∃ cur, w.heap[a.block]? = some (.cells cur 9 (0, 0))

/-- b1ToPkg: a copy that reads alike, its slice in new memory -/
theorem pkg_any (p : PV) (w : World) (h : p.ready w) :
    Calls Try.prog 16 #[.agg #[.string p.s0, .string p.s1, .string p.s2, .string p.s3, .string p.s4, .slice p.ca p.cn p.cc]] w
      fun e w' => ∃ q : PV, e = .returned q.val ∧ q.like p ∧ q.ready w' ∧ q.tag w' ∧ Below w.heap.size w w' := by
  obtain ⟨s0, s1, s2, s3, s4, ca, cn, cc, cf⟩ := p
  obtain ⟨h1, h2, h3⟩ := h
  dsimp only at *
  cases ca with
  | none =>
    obtain ⟨rfl, rfl⟩ := h1 rfl
    refine (pkg_none s0 s1 s2 s3 s4 w).mono ?_
    rintro e w' ⟨rfl, hb⟩
    exact ⟨⟨s0, s1, s2, s3, s4, none, 0, 0, cf⟩, rfl, ⟨rfl, rfl, rfl, rfl, rfl, Iff.rfl, rfl, fun _ _ => rfl⟩, ⟨fun _ => ⟨rfl, rfl⟩, Nat.zero_le _, h3.later hb⟩, fun _ e => by (cases e), hb⟩
  | some a =>
    refine (pkg_some s0 s1 s2 s3 s4 a cn cc cf w h2 h3).mono ?_
    rintro e w' ⟨rfl, hs, hb, hz⟩
    refine ⟨⟨s0, s1, s2, s3, s4, some ⟨w.heap.size + 2, 0, none⟩, cn, cn, cf⟩, rfl, ⟨rfl, rfl, rfl, rfl, rfl, by simp, rfl, fun _ _ => rfl⟩, ⟨fun e => by (cases e), h2, hs⟩, fun b e => ?_, hb⟩
    cases e
    exact hz
end Go.Proofs.Qxb6605467a.Put
