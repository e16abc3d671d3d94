/-
  THE WALKS over floats: a law for '+', '-', '*', '/' whatever the operands; slices of floats that came in; cloneFloats; the lengths' bound.
-/
import Derived.Test.Qxb6605538aRows
import Derived.WalkKit
import Derived.WalkSpells
import Derived.WalkLawsBesides
import Derived.Laws.FloatArith
import Derived.Lib.SliceRun
import Derived.BigQuiet
import Derived.Deep.QuietTactic
namespace Go.Proofs.Qxb6605538a.WF
open Go.RowKit

theorem hide {p : Prop} (h : p) : Hid p := h
theorem unhide {p : Prop} (h : Hid p) : p := h
theorem below_alloc (w : World) (o : Obj) : Below w.heap.size w (w.alloc o) := (Below.refl _ _).alloc (Nat.le_refl _) _

/-- the operation's result: what the standard says, or, where it has none, some NaN -/
def Gives (o : Option Nat) (r : Nat) : Prop := o = some r ∨ o = none
theorem Gives.is {o : Option Nat} {r x : Nat} (h : Gives o r) (e : o = some x) : r = x := by
  rcases h with h | h <;> rw [h] at e <;> cases e
  rfl

theorem run_float {P : Program} (w : World) (op : BinOp) (hop : op = .add ∨ op = .sub ∨ op = .mul ∨ op = .quo) (t : TypeId) (p q : Nat) :
    ∃ r d, (binOp op t (.float .f64 p) (.float .f64 q)).run P w = .ok (.float .f64 r) (w.drewN d) ∧ Gives (floatBits op .f64 p q) r := by
  cases h : floatBits op .f64 p q with
  | some r => exact ⟨r, 0, run_float_arith w op t .f64 p q r h, Or.inl rfl⟩
  | none =>
    refine ⟨Question.cut (.nanBits .f64 p q) (w.tape w.drawn (.nanBits .f64 p q)), 1, ?_, Or.inr rfl⟩
    unfold floatBits at h
    rcases hop with rfl | rfl | rfl | rfl <;> simp only at h <;> simp [binOp, Op.floatArith, h, World.drew_is_drewN, Question.forced]

/-- AN OPERATION ON FLOATS, whatever they are -/
theorem wpList_float {P : Program} (w : World) {ops : Array Oper} {rest : List Oper} {o : Oper} {a : Act} {Q : Exit → Act → World → Prop}
    (hg : o.guard = none) (op : BinOp) (hop' : op = .add ∨ op = .sub ∨ op = .mul ∨ op = .quo) (x y : Operand) (t s : TypeId) (hop : o.op = Op.binOp op t x y s) (p q : Nat) (hx : a.eval x = .float .f64 p) (hy : a.eval y = .float .f64 q)
    (hK : ∀ r d, Gives (floatBits op .f64 p q) r → wpList P ops Q rest (a.put o.dst (.float .f64 r)) (w.drewN d)) :
    wpList P ops Q (o :: rest) a w := by
  refine wpList_plain hg fun K hK' => ?_
  obtain ⟨r, d, hrun, hr⟩ := run_float (P := P) w op hop' t p q
  unfold Oper.wp
  rcases hop' with rfl | rfl | rfl | rfl <;> simp [execOp, hop, hx, hy, hrun, Result.andThen, eqGuard] <;> exact hK' _ _ (hK r d hr)

theorem run_store_float {P : Program} (w : World) (a : Addr) (m : Mode) (k : FloatKind) (b : Nat) : (store a (.float k b) m).run P w = stored P w a (.float k b) m := run_store P w a _ m rfl
attribute [local go_sem] run_store_float

/-! ### slices of floats -/
def Flts (w : World) (oa : Option Addr) (n : Nat) (f : Nat → Nat) : Prop :=
  ∀ k, k < n → ∃ b off, oa = some ⟨b, off, none⟩ ∧ w.cell? ⟨b, off + k, none⟩ = some (.float .f64 (f k))
theorem Flts.later {w w' : World} {oa : Option Addr} {n : Nat} {f : Nat → Nat} (h : Flts w oa n f) (hb : Below w.heap.size w w') : Flts w' oa n f := by
  intro k hk
  obtain ⟨b, off, e, hc⟩ := h k hk
  exact ⟨b, off, e, by rw [hb.cell (block_lt_of_cell hc)]; exact hc⟩

theorem Try.info24 : (Try.prog.info? 24).map (fun i => (i.zero, i.size, i.bytes)) = some (some (.float .f64 0), 1, 8) := by kernel_rfl

/-- n floats: the first k are f's, the others nought -/
def sofar (f : Nat → Nat) (n k : Nat) : List Value := (List.range n).map fun j => .float .f64 (if j < k then f j else 0)
theorem sofar_len (f : Nat → Nat) (n k : Nat) : (sofar f n k).length = n := by simp [sofar]
theorem sofar_get (f : Nat → Nat) (n k j : Nat) (h : j < n) : (sofar f n k)[j]? = some (.float .f64 (if j < k then f j else 0)) := by
  simp [sofar, h]
theorem sofar_zero (f : Nat → Nat) (n : Nat) : (madeCells #[Value.float .f64 0] n).toList = sofar f n 0 := by
  rw [toList_madeCells_one]
  apply List.ext_getElem?
  intro j
  by_cases hj : j < n
  · rw [sofar_get _ _ _ _ hj]; simp [hj]
  · simp [sofar, hj]
theorem sofar_set (f : Nat → Nat) (n k : Nat) : (sofar f n k).set k (.float .f64 (f k)) = sofar f n (k + 1) := by
  apply List.ext_getElem?
  intro j
  by_cases hj : j < n
  · rw [List.getElem?_set, sofar_get _ _ _ _ hj, sofar_get _ _ _ _ hj, sofar_len]
    by_cases e : k = j
    · subst e; simp [hj]
    · rw [if_neg e]
      have : (j < k + 1) = (j < k) := by simp; omega
      simp [this]
  · have h1 : (sofar f n (k + 1))[j]? = none := by simp [sofar, hj]
    have h2 : ((sofar f n k).set k (.float .f64 (f k)))[j]? = none := by
      rw [List.getElem?_eq_none_iff, List.length_set, sofar_len]; omega
    rw [h1, h2]

set_option maxHeartbeats 800000 in
theorem clone_some (w : World) (a : Addr) (n cap : Nat) (f : Nat → Nat) (h0 : n ≤ 4096) (h : Flts w (some a) n f) :
    Calls Try.prog 10 #[.slice (some a) n cap] w fun e w' => e = .returned (.slice (some ⟨w.heap.size, 0, none⟩) n n) ∧ Flts w' (some ⟨w.heap.size, 0, none⟩) n f ∧ Below w.heap.size w w' := by
  obtain ⟨i24, hi, hz0, hz1, hz2⟩ := info_parts Try.info24
  have H := hide h
  clear h
  have hne := fun (w : World) (a : Option Addr) (n c n' c' : Nat) => Lib.run_eql_slice_nil (P := Try.prog) w 22 24 a n c n' c' Try.underlying22
  go_enter Try.func10, Try.ntmps10
  go_wp2_with (first | (at_make; refine wpList_make_full _ rfl _ _ 22 rfl w.heap.size 24 i24 (.float .f64 0) 1 Try.underlying22 hi hz0 hz1 .i64 .i64 n n n rfl rfl rfl rfl (by rw [hz2]; omega) (by unfold maxLen; omega) (Nat.le_refl _) ?_) | fail)
  intro w1 hown hgr
  rw [sofar_zero f] at hown
  have HM : Hid (Below w.heap.size w w1) := (Below.refl _ _).grown hgr (Nat.le_refl _) (fun _ h => by cases h)
  have HO := hide hown
  clear hown hgr hne
  go_wp2_with (fail)
  go_loopw [4] (fun i wr => ∃ k : Nat, k ≤ n ∧ i = .int .i64 k ∧ wr.ownsRow w.heap.size 24 1 (.slice (some ⟨w.heap.size, 0, none⟩) n n) n (sofar f n k) ∧ Below w.heap.size w wr) (fun i _ => n - (intOf i).toNat)
  case atStart => exact ⟨0, Nat.zero_le _, rfl, unhide HO, unhide HM⟩
  case round =>
    obtain ⟨k, hk, rfl, hown, hm⟩ := hrel
    have HM := hide hm
    have HO := hide hown
    clear hown hm
    by_cases hlt : k < n
    · obtain ⟨b, off, e, hc⟩ := unhide H k hlt
      cases e
      have hc' : wr.cell? ⟨b, off + k, none⟩ = some (.float .f64 (f k)) := by rw [(unhide HM).cell (block_lt_of_cell hc)]; exact hc
      have hd := (unhide HO).cellAt k (by omega)
      rw [sofar_get _ _ _ _ hlt] at hd
      have hfz := (unhide HO).frozenAt k
      have HR : Hid ((wr.setCell ⟨w.heap.size, k, none⟩ (.float .f64 (f k))).ownsRow w.heap.size 24 1 (.slice (some ⟨w.heap.size, 0, none⟩) n n) n (sofar f n (k + 1))) := by
        have := ((unhide HO).stored k (.float .f64 (f k))).1
        rw [sofar_set] at this
        exact this
      go_wp2_with (fail)
      go_roundw
      case rel => exact ⟨k + 1, by omega, by go_num, unhide HR, (unhide HM).setCell (Nat.le_refl _) _⟩
      case measure => simp [intOf]; omega
    · have e : k = n := by omega
      subst e
      go_wp2
      go_ret
      refine ⟨rfl, fun j hj => ⟨_, _, rfl, ?_⟩, unhide HM⟩
      rw [Nat.zero_add, (unhide HO).cellAt j (by omega), sofar_get _ _ _ _ hj, if_pos hj]

set_option maxHeartbeats 400000 in
theorem clone_none (w : World) (f : Nat → Nat) :
    Calls Try.prog 10 #[.slice none 0 0] w fun e w' => e = .returned (.slice none 0 0) ∧ Flts w' none 0 f ∧ Below w.heap.size w w' := by
  have hne := fun (w : World) (a : Option Addr) (n c n' c' : Nat) => Lib.run_eql_slice_nil (P := Try.prog) w 22 24 a n c n' c' Try.underlying22
  go_enter Try.func10, Try.ntmps10
  go_wp2
  go_ret
  exact ⟨rfl, fun _ h => absurd h (Nat.not_lt_zero _), Below.refl _ _⟩

/-- cloneFloats -/
theorem clone_any (w : World) (oa : Option Addr) (n cap : Nat) (f : Nat → Nat) (h0 : n ≤ 4096) (hn : oa = none → n = 0 ∧ cap = 0) (h : Flts w oa n f) :
    Calls Try.prog 10 #[.slice oa n cap] w fun e w' => ∃ ob cb, e = .returned (.slice ob n cb) ∧ Flts w' ob n f ∧ Below w.heap.size w w' := by
  cases oa with
  | none =>
    obtain ⟨rfl, rfl⟩ := hn rfl
    refine (clone_none w f).mono ?_
    rintro e w' ⟨rfl, h1, h2⟩
    exact ⟨none, 0, rfl, h1, h2⟩
  | some a =>
    refine (clone_some w a n cap f h0 h).mono ?_
    rintro e w' ⟨rfl, h1, h2⟩
    exact ⟨_, _, rfl, h1, h2⟩

def IsBool (e : Ending) : Prop := ∃ z : Bool, e = .returned (.bool z)
theorem isBool (z : Bool) : IsBool (.returned (.bool z)) := ⟨z, rfl⟩
set_option maxHeartbeats 400000 in
theorem zz13_any (w : World) (xa ya wa : Option Addr) (xn yn wn xc yc wc : Nat) (h1 : xn ≤ maxLen) (h2 : yn ≤ maxLen) (h3 : wn ≤ maxLen) :
    Calls Try.prog 13 #[.slice xa xn xc, .slice ya yn yc, .slice wa wn wc] w fun e w' => IsBool e ∧ w' = w := by
  unfold maxLen at *
  go_enter Try.func13, Try.ntmps13
  go_wp2
  all_goals
    go_ret
    exact ⟨isBool _, rfl⟩
set_option maxHeartbeats 400000 in
theorem zz8_any (w : World) (xa ya wa : Option Addr) (xn yn wn xc yc wc : Nat) (h1 : xn ≤ maxLen) (h2 : yn ≤ maxLen) (h3 : wn ≤ maxLen) :
    Calls Try.prog 8 #[.slice xa xn xc, .slice ya yn yc, .slice wa wn wc] w fun e w' => IsBool e ∧ w' = w := by
  unfold maxLen at *
  go_enter Try.func8, Try.ntmps8
  go_wp2
  all_goals
    go_ret
    exact ⟨isBool _, rfl⟩
end Go.Proofs.Qxb6605538a.WF
