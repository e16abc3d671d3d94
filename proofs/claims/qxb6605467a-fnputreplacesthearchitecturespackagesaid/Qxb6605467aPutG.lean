/-
  WHAT put STANDS ON, without a walk: rows of packages that the call owns; what a write keeps; the law on append as a step of a region that draws.
-/
import Derived.Test.Qxb6605467aPutF
import Derived.Lib.SmallJoins
namespace Go.Proofs.Qxb6605467a.Put
open Go.RowKit
open Go.Proofs.Qxb6605467a.Node (hide unhide)

/-- all blocks but those in X are as they were -/
structure Kept (X : Nat → Prop) (w w' : World) : Prop where
  os : w'.os = w.os
  tape : w'.tape = w.tape
  output : w'.output = w.output
  size : w.heap.size ≤ w'.heap.size
  block : ∀ k, k < w.heap.size → ¬ X k → w'.heap[k]? = w.heap[k]?
theorem Kept.refl (X : Nat → Prop) (w : World) : Kept X w w := ⟨rfl, rfl, rfl, Nat.le_refl _, fun _ _ _ => rfl⟩
theorem Kept.trans {X : Nat → Prop} {a b c : World} (h : Kept X a b) (k : Kept X b c) : Kept X a c :=
  ⟨k.os.trans h.os, k.tape.trans h.tape, k.output.trans h.output, Nat.le_trans h.size k.size, fun i hi hx => (k.block i (Nat.lt_of_lt_of_le hi h.size) hx).trans (h.block i hi hx)⟩
theorem Kept.of_below {X : Nat → Prop} {w w' : World} (h : Below w.heap.size w w') : Kept X w w' := ⟨h.os, h.tape, h.output, h.size, fun k hk _ => h.block k hk⟩
theorem Kept.of_grown {X : Nat → Prop} {w w' : World} {row : Option Nat} (h : w.grownBy w' row) (hx : ∀ k, row = some k → X k) : Kept X w w' :=
  ⟨h.os, h.tape, h.output, h.size, fun k hk hn => h.block k hk (fun e => hn (hx k e.symm))⟩
theorem Kept.of_setCell {X : Nat → Prop} (w : World) (a : Addr) (v : Value) (hx : X a.block) : Kept X w (w.setCell a v) :=
  ⟨rfl, rfl, rfl, by simp, fun k _ hn => heap_setCell_other w a k v (fun e => hn (by rw [e]; exact hx))⟩
theorem Kept.of_drewN {X : Nat → Prop} (w : World) (n : Nat) : Kept X w (w.drewN n) := ⟨rfl, rfl, rfl, Nat.le_refl _, fun _ _ _ => rfl⟩
theorem Kept.of_drew {X : Nat → Prop} (w : World) : Kept X w w.drew := ⟨rfl, rfl, rfl, Nat.le_refl _, fun _ _ _ => rfl⟩
theorem Kept.mono {X Y : Nat → Prop} {w w' : World} (h : Kept X w w') (hxy : ∀ k, k < w.heap.size → X k → Y k) : Kept Y w w' :=
  ⟨h.os, h.tape, h.output, h.size, fun k hk hn => h.block k hk (fun hx => hn (hxy k hk hx))⟩
theorem Kept.below {X : Nat → Prop} {B : Nat} {w w' : World} (h : Kept X w w') (hB : B ≤ w.heap.size) (hx : ∀ k, X k → B ≤ k) : Below B w w' :=
  ⟨h.os, h.tape, h.output, h.size, fun k hk => h.block k (by omega) (fun e => by have := hx k e; omega)⟩

/-! ### packages as rows of cells -/
def PV.cells (p : PV) : List Value := [.string p.s0, .string p.s1, .string p.s2, .string p.s3, .string p.s4, .slice p.ca p.cn p.cc]
theorem PV.cells_len (p : PV) : p.cells.length = 6 := rfl
def flat : List PV → List Value
  | [] => []
  | p :: r => p.cells ++ flat r
theorem flat_len : ∀ ps : List PV, (flat ps).length = ps.length * 6
  | [] => rfl
  | p :: r => by rw [flat, List.length_append, flat_len r, PV.cells_len, List.length_cons]; omega
theorem flat_append : ∀ a b : List PV, flat (a ++ b) = flat a ++ flat b
  | [], _ => rfl
  | p :: r, b => by rw [List.cons_append, flat, flat, flat_append r b, List.append_assoc]
theorem flat_one : ∀ ps : List PV, ∀ u ∈ flat ps, u.oneCell' = true
  | [], u, h => by cases h
  | p :: r, u, h => by
    rcases List.mem_append.1 h with h | h
    · simp [PV.cells] at h
      rcases h with rfl | rfl | rfl | rfl | rfl | rfl <;> rfl
    · exact flat_one r u h
theorem flat_take : ∀ (ps : List PV) (i : Nat), (flat ps).take (i * 6) = flat (ps.take i)
  | [], i => by simp [flat]
  | p :: r, 0 => by simp [flat]
  | p :: r, i + 1 => by
    rw [List.take_succ_cons, flat, flat, List.take_append, PV.cells_len, List.take_of_length_le (by rw [PV.cells_len]; omega), show (i + 1) * 6 - 6 = i * 6 from by omega, flat_take r i]
theorem flat_drop : ∀ (ps : List PV) (i : Nat), (flat ps).drop (i * 6) = flat (ps.drop i)
  | [], i => by simp [flat]
  | p :: r, 0 => by simp [flat]
  | p :: r, i + 1 => by
    rw [List.drop_succ_cons, flat, List.drop_append, PV.cells_len, List.drop_eq_nil_of_le (by rw [PV.cells_len]; omega), show (i + 1) * 6 - 6 = i * 6 from by omega, flat_drop r i, List.nil_append]
theorem flat_without (ps : List PV) (i : Nat) : without i (flat ps) = flat (ps.eraseIdx i) := by
  rw [without, flat_take, flat_drop, ← flat_append, List.eraseIdx_eq_take_drop_succ]

def PV.nil : PV := ⟨ByteArray.empty, ByteArray.empty, ByteArray.empty, ByteArray.empty, ByteArray.empty, none, 0, 0, fun _ => ByteArray.empty⟩
def nth (ps : List PV) (k : Nat) : PV := ps.getD k PV.nil
theorem flat_get (ps : List PV) (k j : Nat) (hk : k < ps.length) (hj : j < 6) : (flat ps)[k * 6 + j]? = (nth ps k).cells[j]? := by
  have e : ps.drop k = ps[k] :: ps.drop (k + 1) := List.drop_eq_getElem_cons hk
  have h : (flat ps)[k * 6 + j]? = ((flat ps).drop (k * 6))[j]? := by rw [List.getElem?_drop]
  rw [h, flat_drop, e, flat, List.getElem?_append_left (by rw [PV.cells_len]; exact hj), nth, List.getD_eq_getElem?_getD, List.getElem?_eq_getElem hk]
  rfl

/-- the packages that a slice owns -/
def Owns (w : World) (base : Nat) (v : Value) (ps : List PV) : Prop := w.ownsRow base 35 6 v ps.length (flat ps)

theorem Owns.form {w : World} {base : Nat} {v : Value} {ps : List PV} (h : Owns w base v ps) : ∃ oa cap, v = .slice oa ps.length cap ∧ (oa = none → ps.length = 0 ∧ cap = 0) := by
  rcases Joins.ownsRow_forms h with ⟨rfl, hn⟩ | ⟨g, cap, rfl⟩
  · exact ⟨none, 0, by rw [hn], fun _ => ⟨hn, rfl⟩⟩
  · exact ⟨some ⟨g, 0, none⟩, cap, rfl, fun e => by cases e⟩
theorem Owns.rowed {w : World} {base : Nat} {ps : List PV} {oa : Option Addr} {cap : Nat} (h : Owns w base (.slice oa ps.length cap) ps) : Rowed w oa ps.length (nth ps) := by
  intro k hk
  rcases Joins.ownsRow_forms h with ⟨e, hn⟩ | ⟨g, cap', e⟩
  · omega
  · cases e
    have hc : ∀ j, j < 6 → w.cell? ⟨g, k * 6 + j, none⟩ = (nth ps k).cells[j]? := fun j hj => by
      rw [World.ownsRow.cellAt h (k * 6 + j) (by omega), flat_get ps k j hk hj]
    refine ⟨g, 0, rfl, ?_⟩
    rw [Nat.zero_add]
    exact ⟨hc 0 (by omega), hc 1 (by omega), hc 2 (by omega), hc 3 (by omega), hc 4 (by omega), hc 5 (by omega)⟩
theorem Owns.tagged {w : World} {base : Nat} {v : Value} {ps : List PV} (h : Owns w base v ps) {k : Nat} (hk : v.ownBlock = some k) : ∃ cur, w.heap[k]? = some (.cells cur 35 (0, 0)) ∧ base ≤ k := by
  rcases h.2 with ⟨rfl, _⟩ | ⟨g, cap, cur, rfl, hb, hg, _⟩
  · cases hk
  · cases hk
    exact ⟨cur, hg, hb⟩
theorem Owns.kept {X : Nat → Prop} {w w' : World} {base : Nat} {v : Value} {ps : List PV} (h : Owns w base v ps) (hk : Kept X w w') (hx : ∀ k, v.ownBlock = some k → ¬ X k) : Owns w' base v ps := by
  refine ⟨h.1, ?_⟩
  rcases h.2 with hn | ⟨g, cap, cur, rfl, hb, hg, rest⟩
  · exact .inl hn
  · refine .inr ⟨g, cap, cur, rfl, hb, ?_, rest⟩
    rw [hk.block g (lt_of_block hg) (hx g rfl)]
    exact hg
theorem Owns.later {w w' : World} {base : Nat} {v : Value} {ps : List PV} (h : Owns w base v ps) (hk : Below w.heap.size w w') : Owns w' base v ps :=
  h.kept (X := fun _ => False) (Kept.of_below hk) (fun _ _ e => e)

/-! ### append, as a step of a region that draws -/
theorem step_append_own {P : Program} {ops : Array Oper} {o : Oper} {a : Act} {w : World} {K : Act → World → Prop} {Q : Exit → Act → World → Prop} {E : Prop}
    (hg : o.guard = none) (s x : Operand) (t : TypeId) (hop : o.op = Op.call { callee := Callee.builtin Builtin.append, args := #[s, x], argTypes := #[t, t] })
    (base : Nat) (e : TypeId) (i : TypeInfo) (z : Value) (size bytes : Nat) (h1 : P.underlying t = some (.slice e)) (h2 : P.info? e = some i) (h3 : i.zero = some z) (h4 : i.size = size) (h5 : i.bytes = bytes) (h6 : z.cells.size = size) (h7 : 0 < size)
    (v : Value) (n : Nat) (xs : List Value) (hs : a.eval s = v) (hown : w.ownsRow base e size v n xs)
    (ad : Addr) (m c : Nat) (news : List Value) (hx : a.eval x = .slice (some ad) m c) (hn : news.length = m * size) (hc : ∀ j u, news[j]? = some u → w.cell? (ad.add j) = some u) (h1c : ∀ u ∈ news, u.oneCell' = true)
    (b1 : n + m ≤ maxLen) (b2 : (n + m) * bytes ≤ 140737488355328) (b3 : base ≤ w.heap.size)
    (hK : ∀ v' w', w'.ownsRow base e size v' (n + m) (xs ++ news) → w.grownBy w' v.ownBlock → K (a.put o.dst v') w') :
    if Region.wanted o (yielded ops a.tmps) = true then Oper.wp P o a w K Q else E := by
  have hw : Region.wanted o (yielded ops a.tmps) = true := by simp [Region.wanted, hg]
  rw [if_pos hw]
  obtain ⟨v', w', hrun, r1, r2, _⟩ := run_append_own (P := P) w base t o.type e i z size bytes h1 h2 h3 h4 h5 h6 h7 v n xs hown ad m c news hn hc h1c b1 b2 b3
  unfold Oper.wp
  simp [execOp, hop, resolve, invoke, builtin, hs, hx, hrun, Result.andThen]
  exact hK v' w' r1 r2

end Go.Proofs.Qxb6605467a.Put
