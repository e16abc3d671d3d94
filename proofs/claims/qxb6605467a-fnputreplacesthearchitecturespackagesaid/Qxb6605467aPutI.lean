/-
  put by its plain function, and THE WALK of ZZPut.
-/
import Derived.Test.Qxb6605467aPutH
namespace Go.Proofs.Qxb6605467a.Put
open Go.RowKit
open Go.Proofs.Qxb6605467a.Node (hide unhide bytes_ext)

/-- of one architecture -/
def PV.arch (p q : PV) : Bool := q.s2.data.toList == p.s2.data.toList
theorem arch_yes {p q : PV} (h : p.arch q = true) : q.s2 = p.s2 := bytes_ext (beq_iff_eq.1 h)
theorem arch_no {p q : PV} (h : p.arch q = false) : q.s2 ≠ p.s2 := fun e => by rw [PV.arch, e] at h; simp at h
def spot (ps : List PV) (p : PV) : Nat := ps.findIdx p.arch
def putL (ps : List PV) (p : PV) : List PV := addL (ps.eraseIdx (spot ps p)) p
def putN (ps : List PV) (p : PV) (ns : Int) : Int := addN p (if spot ps p < ps.length then down (nth ps (spot ps p)) ns else ns)

theorem nth_eq {ps : List PV} {k : Nat} (h : k < ps.length) : nth ps k = ps[k] := by
  rw [nth, List.getD_eq_getElem?_getD, List.getElem?_eq_getElem h]; rfl

theorem put_any (base : Nat) (p : PV) (ps : List PV) (w : World) (bs : Nat) (oa : Option Addr) (cap : Nat) (ns : Int) (hr : Recv w bs (.slice oa ps.length cap) ns) (hown : Owns w base (.slice oa ps.length cap) ps) (hl : ps.length < 1048576) (hb : base ≤ w.heap.size) :
    Calls Try.prog 21 #[.pointer (some ⟨bs, 0, none⟩), .agg #[.string p.s0, .string p.s1, .string p.s2, .string p.s3, .string p.s4, .slice p.ca p.cn p.cc]] w
      fun e w' => e = .returned (.tuple #[]) ∧ Done base bs (.slice oa ps.length cap) (putL ps p) (putN ps p ns) w w' := by
  have hne : ∀ j, j < spot ps p → j < ps.length → (nth ps j).s2 ≠ p.s2 := fun j hj hjl => by
    rw [nth_eq hjl]
    exact arch_no (by simpa using List.not_of_lt_findIdx hj)
  by_cases hk : spot ps p < ps.length
  · obtain ⟨g, rfl⟩ : ∃ g, oa = some ⟨g, 0, none⟩ := by
      rcases Joins.ownsRow_forms hown with ⟨_, hn⟩ | ⟨g, cap', e⟩
      · omega
      · cases e
        exact ⟨g, rfl⟩
    have e2 : putN ps p ns = addN p (down (nth ps (spot ps p)) ns) := by rw [putN, if_pos hk]
    rw [e2]
    exact put_hit base p ps w bs g cap ns hr hown hl (spot ps p) hk (fun j hj => hne j hj (by omega)) (by rw [nth_eq hk]; exact arch_yes (List.findIdx_getElem (w := hk))) hb
  · have e1 : putL ps p = addL ps p := by rw [putL, List.eraseIdx_of_length_le (by omega)]
    have e2 : putN ps p ns = addN p ns := by rw [putN, if_neg hk]
    rw [e1, e2]
    exact put_miss base p ps w bs oa cap ns hr hown hl (fun j hj => hne j (by omega) hj) hb

set_option maxHeartbeats 800000 in
set_option maxRecDepth 100000 in
theorem zzput_walk (base : Nat) (p : PV) (ps : List PV) (w : World) (oa : Option Addr) (cap : Nat) (ns : Int) (hown : Owns w base (.slice oa ps.length cap) ps) (hl : ps.length < 1048576) (hb : base ≤ w.heap.size) :
    Calls Try.prog 15 #[.slice oa ps.length cap, .int .i64 ns, .agg #[.string p.s0, .string p.s1, .string p.s2, .string p.s3, .string p.s4, .slice p.ca p.cn p.cc]] w
      fun e w' => ∃ v', e = .returned (.tuple #[v', .int .i64 (putN ps p ns)]) ∧ Owns w' base v' (putL ps p) ∧ Kept (fun k => (Value.slice oa ps.length cap).ownBlock = some k) w w' := by
  have HO := hide hown
  clear hown
  go_enter Try.func15, Try.ntmps15
  go_wp2_with (fail)
  refine (put_any base p ps _ (w.heap.size + 1) oa cap ns (by exact heap_alloc2_new _ _ _) (((unhide HO).later (below_alloc _ _)).later (below_alloc _ _)) hl (by simp; omega)).mono ?_
  rintro e w1 ⟨rfl, hd⟩
  obtain ⟨⟨v', hr, ho⟩, hk⟩ := hd
  have c0 := hr.c0
  have c1 := hr.c1
  have HO1 := hide ho
  have HK : Hid (Kept (fun k => (Value.slice oa ps.length cap).ownBlock = some k) w w1) := by
    have h2 : Kept (fun k => (Value.slice oa ps.length cap).ownBlock = some k) w ((w.alloc (Obj.cells #[.string p.s0, .string p.s1, .string p.s2, .string p.s3, .string p.s4, .slice p.ca p.cn p.cc] 35)).alloc (Obj.cells #[.slice oa ps.length cap, .int .i64 ns] 43)) :=
      Kept.of_below ((below_alloc w _).alloc (by simp) _)
    exact ⟨hk.os.trans h2.os, hk.tape.trans h2.tape, hk.output.trans h2.output, Nat.le_trans h2.size hk.size, fun k hk' hn => (hk.block k (Nat.lt_of_lt_of_le hk' h2.size) (fun e => Or.elim e (fun e => by omega) hn)).trans (h2.block k hk' hn)⟩
  obtain ⟨oa', cap', hv, _⟩ := ho.form
  subst hv
  clear hr ho hk
  go_wp2_with (fail)
  go_quiet (fail)
  go_wp2
  go_ret2
  exact ⟨_, rfl, (unhide HO1), (unhide HK).trans (Kept.of_drewN _ _)⟩
end Go.Proofs.Qxb6605467a.Put
