/-
  THE WALK of b1ToPkgs: copies of all packages, in a row of the call's own.
-/
import Derived.Test.Qxb6605467aPutK
namespace Go.Proofs.Qxb6605467a.Put
open Go.RowKit
open Go.Proofs.Qxb6605467a.Node (hide unhide bytes_ext)

theorem flat_replicate : ∀ n : Nat, flat (List.replicate n PV.nil) = (madeCells zero35.toArray (n * 6)).toList := by
  intro n
  apply List.ext_getElem?
  intro j
  by_cases hj : j < n * 6
  · have hk : j / 6 < n := by omega
    have e : j = (j / 6) * 6 + j % 6 := by omega
    have h1 : (flat (List.replicate n PV.nil))[j]? = PV.nil.cells[j % 6]? := by
      rw [e, flat_get _ _ _ (by simpa using hk) (by omega)]
      rw [show ((j / 6) * 6 + j % 6) % 6 = j % 6 from by omega]
      congr 1
      rw [nth_eq (by simpa using hk)]
      simp
    have h2 : ∀ c : Array Value, c.size = 6 → (madeCells c (n * 6)).toList[j]? = some c[j % 6]! := fun c hc => by
      rw [Array.getElem?_toList]
      simp [madeCells, hj, hc]
    rw [h1, h2 _ rfl]
    have hm : j % 6 < 6 := by omega
    clear h1 h2 e
    generalize j % 6 = t at *
    match t, hm with
    | 0, _ => rfl
    | 1, _ => rfl
    | 2, _ => rfl
    | 3, _ => rfl
    | 4, _ => rfl
    | 5, _ => rfl
  · rw [List.getElem?_eq_none (by rw [flat_len]; simp; omega), List.getElem?_eq_none (by simp [madeCells]; omega)]

theorem flat_set : ∀ (qs : List PV) (k : Nat) (q : PV), k < qs.length → flat (qs.set k q) =
    ((((((flat qs).set (k * 6) (.string q.s0)).set (k * 6 + 1) (.string q.s1)).set (k * 6 + 2) (.string q.s2)).set (k * 6 + 3) (.string q.s3)).set (k * 6 + 4) (.string q.s4)).set (k * 6 + 5) (.slice q.ca q.cn q.cc)
  | [], k, q, h => absurd h (Nat.not_lt_zero _)
  | p :: r, 0, q, _ => by simp [flat, PV.cells]
  | p :: r, k + 1, q, h => by
    rw [List.set_cons_succ, flat, flat, flat_set r k q (by simpa using h)]
    have e : ∀ (l : List Value) (j : Nat) (v : Value), (p.cells ++ l).set ((k + 1) * 6 + j) v = p.cells ++ l.set (k * 6 + j) v := fun l j v => by
      rw [List.set_append_right _ _ (by rw [PV.cells_len]; omega), PV.cells_len, show (k + 1) * 6 + j - 6 = k * 6 + j from by omega]
    have e0 := e (flat r) 0 (.string q.s0)
    simp only [Nat.add_zero] at e0
    rw [e0, e, e, e, e, e]

/-- a package stored into an owned row -/
theorem Owns.stored {w : World} {base g cap k : Nat} {qs : List PV} (h : Owns w base (.slice (some ⟨g, 0, none⟩) qs.length cap) qs) (q : PV) (hk : k < qs.length) :
    Owns ((((((w.setCell ⟨g, k * 6, none⟩ (.string q.s0)).setCell ⟨g, k * 6 + 1, none⟩ (.string q.s1)).setCell ⟨g, k * 6 + 2, none⟩ (.string q.s2)).setCell ⟨g, k * 6 + 3, none⟩ (.string q.s3)).setCell ⟨g, k * 6 + 4, none⟩ (.string q.s4)).setCell ⟨g, k * 6 + 5, none⟩ (.slice q.ca q.cn q.cc))
      base (.slice (some ⟨g, 0, none⟩) qs.length cap) (qs.set k q) := by
  have h1 := (World.ownsRow.stored h (k * 6) (.string q.s0)).1
  have h2 := (World.ownsRow.stored h1 (k * 6 + 1) (.string q.s1)).1
  have h3 := (World.ownsRow.stored h2 (k * 6 + 2) (.string q.s2)).1
  have h4 := (World.ownsRow.stored h3 (k * 6 + 3) (.string q.s3)).1
  have h5 := (World.ownsRow.stored h4 (k * 6 + 4) (.string q.s4)).1
  have h6 := (World.ownsRow.stored h5 (k * 6 + 5) (.slice q.ca q.cn q.cc)).1
  show World.ownsRow _ base 35 6 _ (qs.set k q).length (flat (qs.set k q))
  rw [List.length_set, flat_set qs k q hk]
  exact h6

/-- the first k packages copied -/
def Part (w : World) (B : Nat) (g : Nat → PV) (v : Value) (m k : Nat) : Prop :=
  ∃ zs : List (PV × Nat), zs.map Prod.snd = List.range k ∧ Owns w B v (zs.map Prod.fst ++ List.replicate (m - k) PV.nil) ∧ ∀ z ∈ zs, z.1.like (g z.2) ∧ z.1.ready w ∧ z.1.tag w

theorem part_len {zs : List (PV × Nat)} {k m : Nat} (h : zs.map Prod.snd = List.range k) (hk : k ≤ m) : zs.length = k ∧ (zs.map Prod.fst ++ List.replicate (m - k) PV.nil).length = m := by
  have : zs.length = k := by have := congrArg List.length h; simpa using this
  refine ⟨this, ?_⟩
  simp [this]
  omega

theorem part_done {w : World} {B : Nat} {g : Nat → PV} {v : Value} {m : Nat} (h : Part w B g v m m) : Has w B g v (List.range m) := by
  obtain ⟨zs, h1, h2, h3⟩ := h
  refine ⟨zs, h1.symm, ?_, h3⟩
  simpa using h2

theorem six_kept {X : Nat → Prop} (w : World) (g o : Nat) (a0 a1 a2 a3 a4 a5 : Value) (hx : X g) :
    Kept X w ((((((w.setCell ⟨g, o, none⟩ a0).setCell ⟨g, o + 1, none⟩ a1).setCell ⟨g, o + 2, none⟩ a2).setCell ⟨g, o + 3, none⟩ a3).setCell ⟨g, o + 4, none⟩ a4).setCell ⟨g, o + 5, none⟩ a5) :=
  (((((Kept.of_setCell w _ a0 hx).trans (Kept.of_setCell _ _ a1 hx)).trans (Kept.of_setCell _ _ a2 hx)).trans (Kept.of_setCell _ _ a3 hx)).trans (Kept.of_setCell _ _ a4 hx)).trans (Kept.of_setCell _ _ a5 hx)

/-- a round -/
theorem part_step {w : World} {B gb m k : Nat} {g : Nat → PV} {zs : List (PV × Nat)} {q : PV} (hz : zs.map Prod.snd = List.range k) (hk : k < m) (ho : Owns w B (.slice (some ⟨gb, 0, none⟩) m m) (zs.map Prod.fst ++ List.replicate (m - k) PV.nil)) (h3 : ∀ z ∈ zs, z.1.like (g z.2) ∧ z.1.ready w ∧ z.1.tag w)
    (hq : q.like (g k)) (hr : q.ready w) (ht : q.tag w) :
    Part ((((((w.setCell ⟨gb, k * 6, none⟩ (.string q.s0)).setCell ⟨gb, k * 6 + 1, none⟩ (.string q.s1)).setCell ⟨gb, k * 6 + 2, none⟩ (.string q.s2)).setCell ⟨gb, k * 6 + 3, none⟩ (.string q.s3)).setCell ⟨gb, k * 6 + 4, none⟩ (.string q.s4)).setCell ⟨gb, k * 6 + 5, none⟩ (.slice q.ca q.cn q.cc)) B g (.slice (some ⟨gb, 0, none⟩) m m) m (k + 1) := by
  obtain ⟨hl, hl2⟩ := part_len hz (show k ≤ m by omega)
  have ho' : Owns w B (.slice (some ⟨gb, 0, none⟩) (zs.map Prod.fst ++ List.replicate (m - k) PV.nil).length m) (zs.map Prod.fst ++ List.replicate (m - k) PV.nil) := by rw [hl2]; exact ho
  have hs := ho'.stored q (k := k) (by omega)
  have hx := own_not_tag ho
  have hkp := six_kept (X := fun x => (Value.slice (some ⟨gb, 0, none⟩) m m).ownBlock = some x) w gb (k * 6) (.string q.s0) (.string q.s1) (.string q.s2) (.string q.s3) (.string q.s4) (.slice q.ca q.cn q.cc) rfl
  rw [hl2] at hs
  refine ⟨zs ++ [(q, k)], by rw [List.map_append, hz, List.range_succ]; rfl, ?_, fun z hzm => ?_⟩
  · have e : (zs.map Prod.fst ++ List.replicate (m - k) PV.nil).set k q = (zs ++ [(q, k)]).map Prod.fst ++ List.replicate (m - (k + 1)) PV.nil := by
      rw [List.set_append_right _ _ (by simp [hl]), List.length_map, hl, Nat.sub_self, List.map_append, List.append_assoc]
      congr 1
      rw [show m - k = (m - (k + 1)) + 1 from by omega, List.replicate_succ]
      rfl
    rw [← e]
    exact hs
  · rcases List.mem_append.1 hzm with h | h
    · exact ⟨(h3 z h).1, kept_ready (h3 z h).2.1 (h3 z h).2.2 hkp hx⟩
    · simp at h
      subst h
      exact ⟨hq, kept_ready hr ht hkp hx⟩

set_option maxHeartbeats 1600000 in
set_option maxRecDepth 100000 in
theorem pkgs_some (w : World) (a : Addr) (m pc : Nat) (g : Nat → PV) (hp : Pkgs w (some a) m g) (hnil : Nils g) (hc : ∀ k, k < m → (g k).cn ≤ 1048576) (hm : m ≤ 4096) :
    Calls Try.prog 14 #[.slice (some a) m pc] w fun e w' => ∃ v, e = .returned v ∧ Has w' w.heap.size g v (List.range m) ∧ Below w.heap.size w w' := by
  obtain ⟨i35, hi, hz0, hz1, hz2⟩ := info_parts Try.info35
  have HP := hide hp
  have HNil := hide hnil
  have HC := hide hc
  clear hp hnil hc
  have hne := fun (w : World) (a : Option Addr) (n c n' c' : Nat) => Lib.run_eql_slice_nil (P := Try.prog) w 25 28 a n c n' c' Try.underlying25
  go_enter Try.func14, Try.ntmps14
  go_wp2_with (first | (at_make; refine wpList_make_full _ rfl _ _ 31 rfl w.heap.size 35 i35 (.agg zero35.toArray) 6 Try.underlying31 hi hz0 hz1 .i64 .i64 m m m rfl rfl rfl rfl (by rw [hz2]; omega) (by unfold maxLen; omega) (by simp) ?_) | fail)
  intro w1 hown hgr
  rw [← flat_replicate] at hown
  have HM : Hid (Below w.heap.size w w1) := (Below.refl _ _).grown hgr (Nat.le_refl _) (fun _ h => by cases h)
  have HO : Hid (Part w1 w.heap.size g (.slice (some ⟨w.heap.size, 0, none⟩) m m) m 0) := by
    refine ⟨[], rfl, ?_, fun _ h => by cases h⟩
    show w1.ownsRow w.heap.size 35 6 _ (List.replicate m PV.nil).length (flat (List.replicate m PV.nil))
    rw [List.length_replicate]
    exact hown
  clear hown hgr hne
  go_wp2_with (fail)
  go_loopw [4] (fun i wr => ∃ k : Nat, k ≤ m ∧ i = .int .i64 k ∧ Part wr w.heap.size g (.slice (some ⟨w.heap.size, 0, none⟩) m m) m k ∧ Below w.heap.size w wr) (fun i _ => m - (intOf i).toNat)
  case atStart => exact ⟨0, Nat.zero_le _, rfl, unhide HO, unhide HM⟩
  case round =>
    obtain ⟨k, hk, rfl, hpart, hb⟩ := hrel
    by_cases hlt : k < m
    · have HB := hide hb
      obtain ⟨b, off, e, hcl, hr⟩ := ((unhide HP).later hb) k hlt
      cases e
      have HR : Hid ((g k).ready wr) := ⟨unhide HNil k, unhide HC k hlt, hr.2⟩
      obtain ⟨zs, hz, ho, h3⟩ := hpart
      have HZ := hide hz
      have HO1 := hide ho
      have H3 := hide h3
      obtain ⟨c0, c1, c2, c3, c4, c5⟩ := hcl
      clear hb hr hz ho h3
      go_wp2_with (fail)
      refine (pkg_any (g k) _ (unhide HR)).mono ?_
      rintro e w2 ⟨q, rfl, hq, hr2, ht2, hb2⟩
      have ho2 := (unhide HO1).later hb2
      have HStep := hide (part_step (unhide HZ) hlt ho2 (fun z hz => ⟨(unhide H3 z hz).1, later_ready (unhide H3 z hz).2.1 (unhide H3 z hz).2.2 hb2⟩) hq hr2 ht2)
      have HB2 : Hid (Below w.heap.size w w2) := (unhide HB).trans (hb2.mono (unhide HB).size)
      have hl2 := (part_len (unhide HZ) (show k ≤ m by omega)).2
      have cell : ∀ j, j < 6 → (w2.cell? ⟨w.heap.size, k * 6 + j, none⟩).isSome = true ∧ w2.frozen? ⟨w.heap.size, k * 6 + j, none⟩ = false := fun j hj => by
        have hown : w2.ownsRow w.heap.size 35 6 (.slice (some ⟨w.heap.size, 0, none⟩) m m) m (flat (zs.map Prod.fst ++ List.replicate (m - k) PV.nil)) := by
          have := ho2
          unfold Owns at this
          rw [hl2] at this
          exact this
        refine ⟨?_, hown.frozenAt _⟩
        rw [hown.cellAt _ (by omega), List.getElem?_eq_getElem (by rw [flat_len, hl2]; omega)]
        rfl
      have x0 := cell 0 (by omega)
      have x1 := cell 1 (by omega)
      have x2 := cell 2 (by omega)
      have x3 := cell 3 (by omega)
      have x4 := cell 4 (by omega)
      have x5 := cell 5 (by omega)
      rw [Nat.add_zero] at x0
      clear hq hr2 ht2 hb2 ho2 hl2 cell c0 c1 c2 c3 c4 c5 HO1 H3 HZ HR
      obtain ⟨x0, y0⟩ := x0
      obtain ⟨z0, x0⟩ := Option.isSome_iff_exists.1 x0
      obtain ⟨x1, y1⟩ := x1
      obtain ⟨z1, x1⟩ := Option.isSome_iff_exists.1 x1
      obtain ⟨x2, y2⟩ := x2
      obtain ⟨z2, x2⟩ := Option.isSome_iff_exists.1 x2
      obtain ⟨x3, y3⟩ := x3
      obtain ⟨z3, x3⟩ := Option.isSome_iff_exists.1 x3
      obtain ⟨x4, y4⟩ := x4
      obtain ⟨z4, x4⟩ := Option.isSome_iff_exists.1 x4
      obtain ⟨x5, y5⟩ := x5
      obtain ⟨z5, x5⟩ := Option.isSome_iff_exists.1 x5
      rw [show q.val = .agg #[.string q.s0, .string q.s1, .string q.s2, .string q.s3, .string q.s4, .slice q.ca q.cn q.cc] from rfl]
      go_wp2
      go_roundw
      case rel => exact ⟨k + 1, by omega, by go_num, unhide HStep, (unhide HB2).trans ((six_kept (X := fun x => x = w.heap.size) _ _ _ _ _ _ _ _ _ rfl).below (unhide HB2).size (fun _ e => by rw [e]; exact Nat.le_refl _))⟩
      case measure => simp [intOf]; omega
    · have e : k = m := by omega
      subst e
      go_wp2
      go_ret
      exact ⟨_, rfl, part_done hpart, hb⟩

set_option maxHeartbeats 400000 in
theorem pkgs_none (w : World) (g : Nat → PV) :
    Calls Try.prog 14 #[.slice none 0 0] w fun e w' => ∃ v, e = .returned v ∧ Has w' w.heap.size g v (List.range 0) ∧ Below w.heap.size w w' := by
  have hne := fun (w : World) (a : Option Addr) (n c n' c' : Nat) => Lib.run_eql_slice_nil (P := Try.prog) w 25 28 a n c n' c' Try.underlying25
  go_enter Try.func14, Try.ntmps14
  go_wp2
  go_ret
  exact ⟨_, rfl, has_nil _ _ _, Below.refl _ _⟩

/-- b1ToPkgs -/
theorem pkgs_any (w : World) (pa : Option Addr) (m pc : Nat) (g : Nat → PV) (hp : Pkgs w pa m g) (hn : pa = none → m = 0 ∧ pc = 0) (hnil : Nils g) (hc : ∀ k, k < m → (g k).cn ≤ 1048576) (hm : m ≤ 4096) :
    Calls Try.prog 14 #[.slice pa m pc] w fun e w' => ∃ v, e = .returned v ∧ Has w' w.heap.size g v (List.range m) ∧ Below w.heap.size w w' := by
  cases pa with
  | none =>
    obtain ⟨rfl, rfl⟩ := hn rfl
    exact pkgs_none w g
  | some a => exact pkgs_some w a m pc g hp hnil hc hm
end Go.Proofs.Qxb6605467a.Put
