/-
  PACKAGES IN MEMORY, and the walks of what only counts bytes (b1OneBytes, b1Bytes, zzBytes..): they return, and turn nothing that was there.
-/
import Derived.Test.Qxb6605467aNode
import Derived.Deep.LoopGhost
namespace Go.Proofs.Qxb6605467a.Put
open Go.RowKit
open Go.Proofs.Qxb6605467a.Node (hide unhide)

/-- the slice (of n elements, at oa) reads as strings -/
def Strs (w : World) (oa : Option Addr) (n : Nat) (f : Nat → ByteArray) : Prop :=
  ∀ k, k < n → ∃ b off, oa = some ⟨b, off, none⟩ ∧ w.cell? ⟨b, off + k, none⟩ = some (.string (f k))

def IsInt (e : Ending) : Prop := ∃ z : Int, e = .returned (.int .i64 z)
def IsBool (e : Ending) : Prop := ∃ z : Bool, e = .returned (.bool z)
/-- a bool, and where it is true, Q -/
def Says (Q : Prop) (e : Ending) : Prop := ∃ z : Bool, e = .returned (.bool z) ∧ (z = true → Q)
theorem says_no (Q : Prop) : Says Q (.returned (.bool false)) := ⟨false, rfl, fun h => by cases h⟩
theorem says_yes {Q : Prop} (h : Q) : Says Q (.returned (.bool true)) := ⟨true, rfl, fun _ => h⟩
theorem isInt (z : Int) : IsInt (.returned (.int .i64 z)) := ⟨z, rfl⟩
theorem isBool (z : Bool) : IsBool (.returned (.bool z)) := ⟨z, rfl⟩

/-- a package as six cells: five strings and a slice of strings -/
structure PV where
  s0 : ByteArray
  s1 : ByteArray
  s2 : ByteArray
  s3 : ByteArray
  s4 : ByteArray
  ca : Option Addr
  cn : Nat
  cc : Nat
  cf : Nat → ByteArray

/-- what the package's slice leads to -/
def PV.reads (w : World) (p : PV) : Prop := p.cn ≤ maxLen ∧ Strs w p.ca p.cn p.cf
/-- the six cells at a place -/
def PV.at (w : World) (b o : Nat) (p : PV) : Prop :=
  w.cell? ⟨b, o, none⟩ = some (.string p.s0) ∧ w.cell? ⟨b, o + 1, none⟩ = some (.string p.s1) ∧ w.cell? ⟨b, o + 2, none⟩ = some (.string p.s2) ∧
  w.cell? ⟨b, o + 3, none⟩ = some (.string p.s3) ∧ w.cell? ⟨b, o + 4, none⟩ = some (.string p.s4) ∧ w.cell? ⟨b, o + 5, none⟩ = some (.slice p.ca p.cn p.cc)
/-- a slice of packages -/
def Pkgs (w : World) (oa : Option Addr) (n : Nat) (f : Nat → PV) : Prop :=
  ∀ k, k < n → ∃ b off, oa = some ⟨b, off, none⟩ ∧ (f k).at w b (off + k * 6) ∧ (f k).reads w

theorem Strs.later {w w' : World} {oa : Option Addr} {n : Nat} {f : Nat → ByteArray} (h : Strs w oa n f) (hb : Below w.heap.size w w') : Strs w' oa n f := by
  intro k hk
  obtain ⟨b, off, e, hc⟩ := h k hk
  exact ⟨b, off, e, by rw [hb.cell (block_lt_of_cell hc)]; exact hc⟩
theorem PV.at.later {w w' : World} {b o : Nat} {p : PV} (h : p.at w b o) (hb : Below w.heap.size w w') : p.at w' b o := by
  obtain ⟨h0, h1, h2, h3, h4, h5⟩ := h
  have hl := block_lt_of_cell h0
  have hc : ∀ j, w'.cell? ⟨b, j, none⟩ = w.cell? ⟨b, j, none⟩ := fun j => hb.cell (p := ⟨b, j, none⟩) hl
  exact ⟨(hc _).trans h0, (hc _).trans h1, (hc _).trans h2, (hc _).trans h3, (hc _).trans h4, (hc _).trans h5⟩
theorem Pkgs.later {w w' : World} {oa : Option Addr} {n : Nat} {f : Nat → PV} (h : Pkgs w oa n f) (hb : Below w.heap.size w w') : Pkgs w' oa n f := by
  intro k hk
  obtain ⟨b, off, e, hc, hr⟩ := h k hk
  exact ⟨b, off, e, hc.later hb, hr.1, hr.2.later hb⟩
theorem below_alloc (w : World) (o : Obj) : Below w.heap.size w (w.alloc o) := (Below.refl _ _).alloc (Nat.le_refl _) _

set_option maxHeartbeats 400000 in
theorem one_any (s0 s1 s2 s3 s4 : ByteArray) (oa : Option Addr) (n cap : Nat) (f : Nat → ByteArray) (w : World) (h0 : n ≤ maxLen) (h : Strs w oa n f) :
    Calls Try.prog 20 #[.agg #[.string s0, .string s1, .string s2, .string s3, .string s4, .slice oa n cap]] w fun e w' => IsInt e ∧ Below w.heap.size w w' := by
  unfold maxLen at h0
  have H := hide h
  clear h
  go_enter Try.func20, Try.ntmps20
  go_wp2
  · go_ret
    exact ⟨isInt _, below_alloc _ _⟩
  · go_loop [3, 4] (fun z i => ∃ k : Nat, ∃ y : Int, k ≤ n ∧ i = .int .i64 k ∧ z = .int .i64 y) (fun _ i => n - (intOf i).toNat)
    case atStart => exact ⟨0, _, Nat.zero_le _, rfl, rfl⟩
    case round =>
      obtain ⟨k, y, hk, rfl, rfl⟩ := hrel
      by_cases hlt : k < n
      · obtain ⟨b, off, rfl, hc⟩ := unhide H k hlt
        have hbl := block_lt_of_cell hc
        go_wp2
        · go_ret
          exact ⟨isInt _, below_alloc _ _⟩
        · go_round
          case rel => exact ⟨k + 1, _, by omega, by go_num, rfl⟩
          case measure => simp [intOf]; omega
      · go_wp2
        go_ret
        exact ⟨isInt _, below_alloc _ _⟩

set_option maxHeartbeats 400000 in
theorem bytes_any (q : PV) (w : World) (hq : q.reads w)
    (pa : Option Addr) (m pc : Nat) (g : Nat → PV) (hp : Pkgs w pa m g) (hm : m ≤ 4096) :
    Calls Try.prog 13 #[.slice pa m pc, .agg #[.string q.s0, .string q.s1, .string q.s2, .string q.s3, .string q.s4, .slice q.ca q.cn q.cc]] w fun e w' => IsInt e ∧ Below w.heap.size w w' := by
  have HQ := hide hq
  have HP := hide hp
  clear hq hp
  go_enter Try.func13, Try.ntmps13
  go_wp2_with (fail)
  refine (one_any _ _ _ _ _ _ _ _ _ _ (unhide HQ).1 ((unhide HQ).2.later (below_alloc _ _))).mono ?_
  rintro e w1 ⟨⟨z, rfl⟩, hb⟩
  have HB : Hid (Below w.heap.size w w1) := (below_alloc _ _).trans (hb.mono (by simp))
  clear hb
  go_wp2_with (fail)
  go_loopw [5, 6] (fun z i wr => ∃ k : Nat, ∃ y : Int, k ≤ m ∧ i = .int .i64 k ∧ z = .int .i64 y ∧ Below w.heap.size w wr) (fun _ i _ => m - (intOf i).toNat)
  case atStart => exact ⟨0, _, Nat.zero_le _, rfl, rfl, unhide HB⟩
  case round =>
    obtain ⟨k, y, hk, rfl, rfl, hb⟩ := hrel
    by_cases hlt : k < m
    · obtain ⟨b, off, rfl, hc, hr⟩ := (unhide HP).later hb k hlt
      have HR := hide hr
      have HB := hide hb
      clear hr hb
      obtain ⟨c0, c1, c2, c3, c4, c5⟩ := hc
      go_wp2_with (fail)
      · go_ret
        exact ⟨isInt _, unhide HB⟩
      · refine (one_any _ _ _ _ _ _ _ _ _ _ (unhide HR).1 (unhide HR).2).mono ?_
        rintro e w2 ⟨⟨z2, rfl⟩, hb2⟩
        have HB2 : Hid (Below w.heap.size w w2) := (unhide HB).trans (hb2.mono (unhide HB).size)
        clear hb2
        go_wp2
        go_roundw
        case rel => exact ⟨k + 1, _, by omega, by go_num, rfl, unhide HB2⟩
        case measure => simp [intOf]; omega
    · go_wp2
      go_ret
      exact ⟨isInt _, hb⟩

theorem below_succ {P : Nat → Prop} {k : Nat} (h : ∀ j, j < k → P j) (hk : P k) : ∀ j, j < k + 1 → P j := by
  intro j hj
  by_cases e : j = k
  · rw [e]; exact hk
  · exact h j (by omega)

set_option maxHeartbeats 800000 in
set_option maxRecDepth 100000 in
theorem zz6_any (w : World) (pa : Option Addr) (m pc : Nat) (g : Nat → PV) (hp : Pkgs w pa m g) (hm : m ≤ maxLen) :
    Calls Try.prog 18 #[.slice pa m pc] w fun e w' => Says (∀ k, k < m → (g k).cn ≤ 1048576) e ∧ w' = w := by
  have HP := hide hp
  clear hp
  unfold maxLen at hm
  go_enter Try.func18, Try.ntmps18
  go_wp2_with (fail)
  · go_ret
    exact ⟨says_no _, rfl⟩
  go_loop [3, 4] (fun z i => ∃ k : Nat, ∃ y : Int, k ≤ m ∧ i = .int .i64 k ∧ z = .int .i64 y ∧ ∀ j, j < k → (g j).cn ≤ 1048576) (fun _ i => m - (intOf i).toNat)
  case atStart => exact ⟨0, _, Nat.zero_le _, rfl, rfl, fun _ h => absurd h (Nat.not_lt_zero _)⟩
  case round =>
    obtain ⟨k, y, hk, rfl, rfl, hj⟩ := hrel
    have HJ := hide hj
    clear hj
    by_cases hlt : k < m
    · obtain ⟨b, off, rfl, hc, hr⟩ := (unhide HP) k hlt
      have HR := hide hr.2
      have hn := hr.1
      clear hr
      obtain ⟨c0, c1, c2, c3, c4, c5⟩ := hc
      unfold maxLen at hn
      generalize hgk : g k = p at *
      have HG := hide hgk
      clear hgk
      obtain ⟨s0, s1, s2, s3, s4, ca, cn, cc, cf⟩ := p
      dsimp only at *
      go_wp2_with (fail)
      iterate 12 (· go_ret
                    exact ⟨says_no _, rfl⟩)
      go_loop [3, 5] (fun z i => ∃ k2 : Nat, ∃ y : Int, k2 ≤ cn ∧ i = .int .i64 k2 ∧ z = .int .i64 y) (fun _ i => cn - (intOf i).toNat)
      case atStart => exact ⟨0, _, Nat.zero_le _, rfl, rfl⟩
      case round =>
        obtain ⟨k2, y2, hk2, rfl, rfl⟩ := hrel
        by_cases hlt2 : k2 < cn
        · obtain ⟨b2, off2, rfl, hc2⟩ := (unhide HR) k2 hlt2
          go_wp2_with (fail)
          · go_ret
            exact ⟨says_no _, rfl⟩
          · go_ret
            exact ⟨says_no _, rfl⟩
          · go_round
            case rel => exact ⟨k2 + 1, _, by omega, by go_num, rfl⟩
            case measure => simp [intOf]; omega
        · go_wp2
          go_round
          case rel => exact ⟨k + 1, _, by omega, by go_num, rfl, below_succ (unhide HJ) (by rw [unhide HG]; show cn ≤ _; omega)⟩
          case measure => simp [intOf]; omega
    · go_wp2
      go_ret
      exact ⟨says_yes (fun j hj => unhide HJ j (by omega)), rfl⟩
end Go.Proofs.Qxb6605467a.Put
