/-
  THE WALK of (*instances).put: the package of p's architecture goes, p is put behind the others unless it is not installed.
-/
import Derived.Test.Qxb6605467aPutG
namespace Go.Proofs.Qxb6605467a.Put
open Go.RowKit
open Go.Proofs.Qxb6605467a.Node (hide unhide)

/-- the status is 'not-installed' -/
def PV.gone (p : PV) : Bool := p.s3.toList == [110, 111, 116, 45, 105, 110, 115, 116, 97, 108, 108, 101, 100]
/-- Multi-Arch is 'same' -/
def PV.multi (p : PV) : Bool := p.s4.toList == [115, 97, 109, 101]

/-- the receiver's two cells -/
def Recv (w : World) (bs : Nat) (v : Value) (ns : Int) : Prop := w.heap[bs]? = some (.cells #[v, .int .i64 ns] 43 (0, 0))
theorem Recv.c0 {w : World} {bs : Nat} {v : Value} {ns : Int} (h : Recv w bs v ns) : w.cell? ⟨bs, 0, none⟩ = some v := cell_of_row w bs 0 _ 43 (0, 0) h
theorem Recv.c1 {w : World} {bs : Nat} {v : Value} {ns : Int} (h : Recv w bs v ns) : w.cell? ⟨bs, 1, none⟩ = some (.int .i64 ns) := cell_of_row w bs 1 _ 43 (0, 0) h
theorem Recv.fr {w : World} {bs : Nat} {v : Value} {ns : Int} (h : Recv w bs v ns) (j : Nat) : w.frozen? ⟨bs, j, none⟩ = false := frozen_of_row w bs j _ 43 h
theorem Recv.lt {w : World} {bs : Nat} {v : Value} {ns : Int} (h : Recv w bs v ns) : bs < w.heap.size := lt_of_block h
theorem Recv.later {w w' : World} {bs : Nat} {v : Value} {ns : Int} (h : Recv w bs v ns) (hb : Below w.heap.size w w') : Recv w' bs v ns := (hb.block bs h.lt).trans h
theorem Recv.set0 {w : World} {bs : Nat} {v : Value} {ns : Int} (h : Recv w bs v ns) (v' : Value) : Recv (w.setCell ⟨bs, 0, none⟩ v') bs v' ns := heap_setCell_same w bs 0 _ 43 v' h
theorem Recv.set1 {w : World} {bs : Nat} {v : Value} {ns : Int} (h : Recv w bs v ns) (n' : Int) : Recv (w.setCell ⟨bs, 1, none⟩ (.int .i64 n')) bs v n' := heap_setCell_same w bs 1 _ 43 _ h
/-- the box that holds p -/
def Boxed (w : World) (bp : Nat) (p : PV) : Prop := w.heap[bp]? = some (.cells p.cells.toArray 35 (0, 0))
theorem Boxed.at {w : World} {bp : Nat} {p : PV} (h : Boxed w bp p) : p.at w bp 0 :=
  ⟨cell_of_row w bp 0 _ 35 (0, 0) h, cell_of_row w bp 1 _ 35 (0, 0) h, cell_of_row w bp 2 _ 35 (0, 0) h, cell_of_row w bp 3 _ 35 (0, 0) h, cell_of_row w bp 4 _ 35 (0, 0) h, cell_of_row w bp 5 _ 35 (0, 0) h⟩
theorem Boxed.later {w w' : World} {bp : Nat} {p : PV} (h : Boxed w bp p) (hb : Below w.heap.size w w') : Boxed w' bp p := (hb.block bp (lt_of_block h)).trans h

theorem own_ne {w : World} {base bs : Nat} {v u : Value} {ps : List PV} {ns : Int} (h : Owns w base v ps) (hr : Recv w bs u ns) : v.ownBlock ≠ some bs := by
  intro e
  obtain ⟨cur, hc, _⟩ := h.tagged e
  rw [hr] at hc
  simp at hc
theorem Owns.set {w : World} {base bs : Nat} {v u : Value} {ps : List PV} {ns : Int} (h : Owns w base v ps) (hr : Recv w bs u ns) (j : Nat) (x : Value) : Owns (w.setCell ⟨bs, j, none⟩ x) base v ps :=
  h.kept (X := fun k => k = bs) (Kept.of_setCell w _ x rfl) (fun k hk e => own_ne h hr (by rw [hk, e]))
theorem Boxed.set {w : World} {bp bs : Nat} {p : PV} {u : Value} {ns : Int} (h : Boxed w bp p) (hr : Recv w bs u ns) (j : Nat) (x : Value) : Boxed (w.setCell ⟨bs, j, none⟩ x) bp p := by
  refine (heap_setCell_other w ⟨bs, j, none⟩ bp x (fun e => ?_)).trans h
  have e' : bp = bs := e
  subst e'
  rw [Boxed, hr] at h
  simp at h

/-- what may be written -/
def Mine (bs : Nat) (v : Value) (k : Nat) : Prop := k = bs ∨ v.ownBlock = some k

/-- where the walk stands behind 'if i >= 0 { .. }': w0, in which put began; w, now; the box at bp -/
structure Tail (base bs bp : Nat) (v0 : Value) (p : PV) (ps : List PV) (ns : Int) (oa : Option Addr) (cap : Nat) (w0 w : World) : Prop where
  recv : Recv w bs (.slice oa ps.length cap) ns
  owns : Owns w base (.slice oa ps.length cap) ps
  boxed : Boxed w bp p
  kept : Kept (Mine bs v0) w0 w
  same : (Value.slice oa ps.length cap).ownBlock = v0.ownBlock
  apart : ∀ k, v0.ownBlock = some k → k < bp
  room : base ≤ w.heap.size
  fits : bp < w.heap.size
/-- the end -/
structure Done (base bs : Nat) (v0 : Value) (ps : List PV) (ns : Int) (w0 w : World) : Prop where
  put : ∃ v, Recv w bs v ns ∧ Owns w base v ps
  kept : Kept (Mine bs v0) w0 w

theorem Tail.done {base bs bp : Nat} {v0 : Value} {p : PV} {ps : List PV} {ns : Int} {oa : Option Addr} {cap : Nat} {w0 w : World} (h : Tail base bs bp v0 p ps ns oa cap w0 w) : Done base bs v0 ps ns w0 w :=
  ⟨⟨_, h.recv, h.owns⟩, h.kept⟩

/-- behind the append -/
theorem Tail.after {base bs bp : Nat} {v0 : Value} {p : PV} {ps : List PV} {ns : Int} {oa : Option Addr} {cap : Nat} {w0 w : World} (h : Tail base bs bp v0 p ps ns oa cap w0 w) (o : Obj) (v' : Value) (w' : World)
    (hown : w'.ownsRow base 35 6 v' (ps.length + 1) (flat ps ++ p.cells)) (hg : (w.alloc o).drew.grownBy w' (Value.slice oa ps.length cap).ownBlock) :
    ∃ g' cap', v' = .slice (some ⟨g', 0, none⟩) (ps.length + 1) cap' ∧ Recv w' bs (.slice oa ps.length cap) ns ∧ Boxed w' bp p ∧ Owns w' base v' (ps ++ [p]) ∧ Kept (Mine bs v0) w0 w' := by
  obtain ⟨g', cap', hv⟩ := Joins.ownsRow_form hown (by omega)
  have hb : ∀ k, k < w.heap.size → v0.ownBlock ≠ some k → w'.heap[k]? = w.heap[k]? := fun k hk hne => by
    have := hg.block k (by show k < (w.alloc o).heap.size; simp; omega) (fun e => hne (by rw [← h.same, ← e]))
    rw [this]
    exact Below.heap_alloc w o k hk
  refine ⟨g', cap', hv, ?_, ?_, ?_, ?_⟩
  · exact (hb bs h.recv.lt (by rw [← h.same]; exact own_ne h.owns h.recv)).trans h.recv
  · exact (hb bp h.fits (fun e => by have := h.apart bp e; omega)).trans h.boxed
  · have e1 : flat (ps ++ [p]) = flat ps ++ p.cells := by rw [flat_append]; simp [flat]
    show w'.ownsRow base 35 6 v' (ps ++ [p]).length (flat (ps ++ [p]))
    rw [e1, List.length_append]
    exact hown
  · refine h.kept.trans ⟨hg.os, hg.tape, hg.output, ?_, fun k hk hn => hb k hk (fun e => hn (Or.inr e))⟩
    have := hg.size
    show w.heap.size ≤ _
    have e : (w.alloc o).drew.heap.size = w.heap.size + 1 := by simp
    omega

theorem stored0 {base bs bp : Nat} {v0 v v' : Value} {p : PV} {ps : List PV} {ns : Int} {w0 w : World} (hr : Recv w bs v ns) (hb : Boxed w bp p) (ho : Owns w base v' ps) (hk : Kept (Mine bs v0) w0 w) :
    Recv (w.setCell ⟨bs, 0, none⟩ v') bs v' ns ∧ Boxed (w.setCell ⟨bs, 0, none⟩ v') bp p ∧ Owns (w.setCell ⟨bs, 0, none⟩ v') base v' ps ∧ Kept (Mine bs v0) w0 (w.setCell ⟨bs, 0, none⟩ v') :=
  ⟨hr.set0 v', hb.set hr 0 v', ho.set hr 0 v', hk.trans (Kept.of_setCell w _ v' (Or.inl rfl))⟩
theorem stored1 {base bs bp : Nat} {v0 v v' : Value} {p : PV} {ps : List PV} {ns : Int} {w0 w : World} (hr : Recv w bs v ns) (hb : Boxed w bp p) (ho : Owns w base v' ps) (hk : Kept (Mine bs v0) w0 w) (n' : Int) :
    Recv (w.setCell ⟨bs, 1, none⟩ (.int .i64 n')) bs v n' ∧ Boxed (w.setCell ⟨bs, 1, none⟩ (.int .i64 n')) bp p ∧ Owns (w.setCell ⟨bs, 1, none⟩ (.int .i64 n')) base v' ps ∧ Kept (Mine bs v0) w0 (w.setCell ⟨bs, 1, none⟩ (.int .i64 n')) :=
  ⟨hr.set1 n', hb.set hr 1 _, ho.set hr 1 _, hk.trans (Kept.of_setCell w _ _ (Or.inl rfl))⟩

/-- how notSame moves where p is put -/
def up (p : PV) (ns : Int) : Int := if p.multi then ns else wrap64 (ns + 1)
/-- how notSame moves where q is taken away -/
def addL (ps : List PV) (p : PV) : List PV := if p.gone then ps else ps ++ [p]
def addN (p : PV) (ns : Int) : Int := if p.gone then ns else up p ns
theorem add_gone {p : PV} (h : p.gone = true) (ps : List PV) (ns : Int) : addL ps p = ps ∧ addN p ns = ns := by simp [addL, addN, h]
theorem add_plain {p : PV} (h : p.gone = false) (hm : p.multi = false) (ps : List PV) (ns : Int) : addL ps p = ps ++ [p] ∧ addN p ns = wrap64 (ns + 1) := by simp [addL, addN, up, h, hm]
theorem add_multi {p : PV} (h : p.gone = false) (hm : p.multi = true) (ps : List PV) (ns : Int) : addL ps p = ps ++ [p] ∧ addN p ns = ns := by simp [addL, addN, up, h, hm]
theorem done_of {base bs : Nat} {v0 : Value} {ps ps' : List PV} {ns ns' : Int} {w0 w : World} (e : ps' = ps ∧ ns' = ns) (h : Done base bs v0 ps ns w0 w) : Done base bs v0 ps' ns' w0 w := by rw [e.1, e.2]; exact h
def down (q : PV) (ns : Int) : Int := if q.multi then ns else wrap64 (ns - 1)

set_option maxHeartbeats 1600000 in
set_option maxRecDepth 100000 in
theorem put_miss (base : Nat) (p : PV) (ps : List PV) (w : World) (bs : Nat) (oa : Option Addr) (cap : Nat) (ns : Int) (hr : Recv w bs (.slice oa ps.length cap) ns) (hown : Owns w base (.slice oa ps.length cap) ps) (hl : ps.length < 1048576)
     (hne : ∀ j, j < ps.length → (nth ps j).s2 ≠ p.s2) (hb : base ≤ w.heap.size) :
    Calls Try.prog 21 #[.pointer (some ⟨bs, 0, none⟩), .agg #[.string p.s0, .string p.s1, .string p.s2, .string p.s3, .string p.s4, .slice p.ca p.cn p.cc]] w
      fun e w' => e = .returned (.tuple #[]) ∧ Done base bs (.slice oa ps.length cap) (addL ps p) (addN p ns) w w' := by
  have HO := hide hown
  have HR := hide hr
  have HN := hide hne
  have q0 := hr.c0
  have qlt := hr.lt
  clear hown hr hne
  go_enter Try.func21, Try.ntmps21
  go_wp2_with (fail)
  refine (index_any _ oa ps.length cap (nth ps) ((unhide HO).rowed.later (below_alloc _ _)) (by omega) w.heap.size p.s2 (World.cell?_alloc_at _ _ _ _ rfl) ps.length (Nat.le_refl _) (unhide HN) (fun h => absurd h (Nat.lt_irrefl _))).mono ?_
  rintro e w1 ⟨rfl, hb1⟩
  have HW : Hid (Below w.heap.size w w1) := (below_alloc _ _).trans (hb1.mono (by simp))
  have HT : Hid (Tail base bs w.heap.size (.slice oa ps.length cap) p ps ns oa cap w w1) := by
    have hsz := hb1.size
    simp at hsz
    refine ⟨(unhide HR).later (unhide HW), (unhide HO).later (unhide HW), (hb1.block w.heap.size (by simp)).trans (heap_alloc_new _ _), Kept.of_below (unhide HW), rfl, fun k hk => ?_, by omega, by omega⟩
    obtain ⟨cur, hc, _⟩ := (unhide HO).tagged hk
    exact lt_of_block hc
  clear hb1 q0 HW HO HR HN
  rw [show found ps.length ps.length = -1 from by simp [found]]
  obtain ⟨p0, p1, p2, p3, p4, p5⟩ := (unhide HT).boxed.at
  simp only [Nat.zero_add] at p0 p1 p2 p3 p4 p5
  have r0 := (unhide HT).recv.c0
  have r1 := (unhide HT).recv.c1
  cases hg : p.gone
  · have hg' := hg
    unfold PV.gone at hg'
    have HG := hide hg
    clear hg
    go_wp2_with (fail)
    have f0 := (unhide HT).recv.fr 0
    have flt := (unhide HT).recv.lt
    have blt := (unhide HT).fits
    obtain ⟨i35, hi35, hz0, hz1, hz2⟩ := info_parts Try.info35
    have C1 : Hid (∀ (j : Nat) (u : Value), p.cells[j]? = some u → (World.alloc w1 (Obj.cells #[.string p.s0, .string p.s1, .string p.s2, .string p.s3, .string p.s4, .slice p.ca p.cn p.cc] 35)).cell? ((⟨w1.heap.size, 0, none⟩ : Addr).add j) = some u) := by
      intro j u hu
      rw [Addr.add_lit, Nat.zero_add, World.cell?_alloc_at _ _ _ _ rfl]
      rw [← hu]
      exact List.getElem?_toArray (xs := p.cells)
    have C2 : Hid (∀ u ∈ p.cells, u.oneCell' = true) := fun u hu => flat_one [p] u (by simpa [flat] using hu)
    have C3 : Hid (World.ownsRow (World.alloc w1 (Obj.cells #[.string p.s0, .string p.s1, .string p.s2, .string p.s3, .string p.s4, .slice p.ca p.cn p.cc] 35)) base 35 6 (.slice oa ps.length cap) ps.length (flat ps)) := World.ownsRow.alloc (unhide HT).owns _
    have C4 : Hid (base ≤ w1.heap.size + 1) := by have := (unhide HT).room; show base ≤ _; omega
    go_region_law (refine step_append_own rfl (.tmp 47) (.tmp 49) 31 rfl base 35 i35 (.agg zero35.toArray) 6 104 Try.underlying31 hi35 hz0 hz1 hz2 rfl (by decide) (.slice oa ps.length cap) ps.length (flat ps) (by simp [Act.eval]) C3.out ⟨w1.heap.size, 0, none⟩ 1 1 p.cells (by simp [Act.eval]) rfl C1.out C2.out (by unfold maxLen; omega) (by omega) (by simpa using C4.out) ?_; intro v' w' hown' hgrow; obtain ⟨g', cap', hv', a1, a2, a3, a4⟩ := (unhide HT).after _ v' w' hown' hgrow; clear hown' hgrow; subst hv'; have A := hide (stored0 a1 a2 a3 a4); have b0 := a1.c0; have b1 := a1.fr 0; clear a1 a2 a3 a4)
    all_goals
      obtain ⟨d1, d2, d3, d4⟩ := unhide A
      have e4 := d2.at.2.2.2.2.1
      simp only [Nat.zero_add] at e4
      have e1 := d1.c1
      have e2 := d1.fr 1
      cases hm : p.multi
      · have hm' := hm
        unfold PV.multi at hm'
        have HM := hide hm
        clear hm
        have D := hide (stored1 d1 d2 d3 d4 (wrap64 (ns + 1)))
        have D0 := hide d1
        clear d1 d2 d3 d4 A
        go_wp2
        go_end0
        refine ⟨rfl, ?_⟩
        obtain ⟨d1, d2, d3, d4⟩ := unhide D
        exact done_of (add_plain (unhide HG) (unhide HM) _ _) ⟨⟨_, d1, d3⟩, d4⟩
      · have hm' := hm
        unfold PV.multi at hm'
        have HM := hide hm
        clear hm
        have D := hide (And.intro d1 (And.intro d3 d4))
        clear d1 d2 d3 d4 A
        go_wp2
        go_end0
        refine ⟨rfl, ?_⟩
        obtain ⟨d1, d3, d4⟩ := unhide D
        exact done_of (add_multi (unhide HG) (unhide HM) _ _) ⟨⟨_, d1, d3⟩, d4⟩
  · have hg' := hg
    unfold PV.gone at hg'
    have HG := hide hg
    clear hg
    go_wp2
    refine bodyPost_ret (results_none rfl _ _ _) rfl ?_
    exact ⟨rfl, done_of (add_gone (unhide HG) _ _) (unhide HT).done⟩

theorem delete_pkgs (base g cap k : Nat) (ps : List PV) (w : World) (hown : Owns w base (.slice (some ⟨g, 0, none⟩) ps.length cap) ps) (hk : k < ps.length) (hl : ps.length < 1048576) :
    Calls Try.prog 25 #[.slice (some ⟨g, 0, none⟩) ps.length cap, .int .i64 k, .int .i64 ((k : Int) + 1)] w
      fun e w' => e = .returned (.slice (some ⟨g, 0, none⟩) (ps.eraseIdx k).length cap) ∧ Owns w' base (.slice (some ⟨g, 0, none⟩) (ps.eraseIdx k).length cap) (ps.eraseIdx k) ∧ w.grownBy w' (some g) := by
  have e : (ps.eraseIdx k).length = ps.length - 1 := by rw [List.length_eraseIdx, if_pos hk]
  refine (delete_any base g ps.length cap k (flat ps) w hown hk (by omega) (flat_one ps)).mono ?_
  rintro e' w' ⟨rfl, ho, hg⟩
  refine ⟨by rw [e], ?_, hg⟩
  rw [flat_without] at ho
  show w'.ownsRow base 35 6 _ (ps.eraseIdx k).length _
  rw [e]
  exact ho

theorem Recv.grown {w w' : World} {bs g base cap : Nat} {ps : List PV} {ns : Int} (hr : Recv w bs (.slice (some ⟨g, 0, none⟩) ps.length cap) ns) (ho : Owns w base (.slice (some ⟨g, 0, none⟩) ps.length cap) ps) (hg : w.grownBy w' (some g)) : Recv w' bs (.slice (some ⟨g, 0, none⟩) ps.length cap) ns :=
  (hg.block bs hr.lt (fun e => own_ne ho hr e.symm)).trans hr
theorem Boxed.grown {w w' : World} {bp g : Nat} {p : PV} (hb : Boxed w bp p) (hne : g < bp) (hg : w.grownBy w' (some g)) : Boxed w' bp p :=
  (hg.block bp (lt_of_block hb) (fun e => by cases e; omega)).trans hb

/-- behind the deletion -/
theorem Tail.hit {base bs bp g cap k : Nat} {p : PV} {ps : List PV} {ns : Int} {w0 w w' : World} (h : Tail base bs bp (.slice (some ⟨g, 0, none⟩) ps.length cap) p ps ns (some ⟨g, 0, none⟩) cap w0 w)
    (ho : Owns w' base (.slice (some ⟨g, 0, none⟩) (ps.eraseIdx k).length cap) (ps.eraseIdx k)) (hg : w.grownBy w' (some g)) :
    Recv w' bs (.slice (some ⟨g, 0, none⟩) ps.length cap) ns ∧
    Tail base bs bp (.slice (some ⟨g, 0, none⟩) ps.length cap) p (ps.eraseIdx k) ns (some ⟨g, 0, none⟩) cap w0 (w'.setCell ⟨bs, 0, none⟩ (.slice (some ⟨g, 0, none⟩) (ps.eraseIdx k).length cap)) := by
  have hr := h.recv.grown h.owns hg
  have hb := h.boxed.grown (h.apart g rfl) hg
  have hk : Kept (Mine bs (.slice (some ⟨g, 0, none⟩) ps.length cap)) w0 w' := h.kept.trans (Kept.of_grown hg (fun k e => Or.inr e))
  obtain ⟨a1, a2, a3, a4⟩ := stored0 hr hb ho hk
  have hz := hg.size
  have h1 := h.room
  have h2 := h.fits
  exact ⟨hr, ⟨a1, a3, a2, a4, rfl, h.apart, by simp; omega, by simp; omega⟩⟩
theorem Tail.set1 {base bs bp cap : Nat} {v0 : Value} {oa : Option Addr} {p : PV} {ps : List PV} {ns : Int} {w0 w : World} (h : Tail base bs bp v0 p ps ns oa cap w0 w) (n' : Int) :
    Tail base bs bp v0 p ps n' oa cap w0 (w.setCell ⟨bs, 1, none⟩ (.int .i64 n')) := by
  obtain ⟨a1, a2, a3, a4⟩ := stored1 h.recv h.boxed h.owns h.kept n'
  have h1 := h.room
  have h2 := h.fits
  exact ⟨a1, a3, a2, a4, h.same, h.apart, by simpa using h1, by simpa using h2⟩

set_option maxHeartbeats 3200000 in
set_option maxRecDepth 100000 in
theorem put_hit (base : Nat) (p : PV) (ps : List PV) (w : World) (bs g cap : Nat) (ns : Int) (hr : Recv w bs (.slice (some ⟨g, 0, none⟩) ps.length cap) ns) (hown : Owns w base (.slice (some ⟨g, 0, none⟩) ps.length cap) ps) (hl : ps.length < 1048576)
     (k : Nat) (hk : k < ps.length) (hne : ∀ j, j < k → (nth ps j).s2 ≠ p.s2) (heq : (nth ps k).s2 = p.s2) (hb : base ≤ w.heap.size) :
    Calls Try.prog 21 #[.pointer (some ⟨bs, 0, none⟩), .agg #[.string p.s0, .string p.s1, .string p.s2, .string p.s3, .string p.s4, .slice p.ca p.cn p.cc]] w
      fun e w' => e = .returned (.tuple #[]) ∧ Done base bs (.slice (some ⟨g, 0, none⟩) ps.length cap) (addL (ps.eraseIdx k) p) (addN p (down (nth ps k) ns)) w w' := by
  have HO := hide hown
  have HR := hide hr
  have HN := hide hne
  have HQ := hide heq
  have q0 := hr.c0
  have qlt := hr.lt
  have HL : Hid ((ps.eraseIdx k).length ≤ ps.length) := List.length_eraseIdx_le _ _
  clear hown hr hne heq
  go_enter Try.func21, Try.ntmps21
  go_wp2_with (fail)
  refine (index_any _ (some ⟨g, 0, none⟩) ps.length cap (nth ps) ((unhide HO).rowed.later (below_alloc _ _)) (by omega) w.heap.size p.s2 (World.cell?_alloc_at _ _ _ _ rfl) k (by omega) (unhide HN) (fun _ => unhide HQ)).mono ?_
  rintro e w1 ⟨rfl, hb1⟩
  have HW : Hid (Below w.heap.size w w1) := (below_alloc _ _).trans (hb1.mono (by simp))
  have HT0 : Hid (Tail base bs w.heap.size (.slice (some ⟨g, 0, none⟩) ps.length cap) p ps ns (some ⟨g, 0, none⟩) cap w w1) := by
    have hsz := hb1.size
    simp at hsz
    refine ⟨(unhide HR).later (unhide HW), (unhide HO).later (unhide HW), (hb1.block w.heap.size (by simp)).trans (heap_alloc_new _ _), Kept.of_below (unhide HW), rfl, fun k hk => ?_, by omega, by omega⟩
    obtain ⟨cur, hc, _⟩ := (unhide HO).tagged hk
    exact lt_of_block hc
  clear hb1 q0 HW HO HR HN HQ
  rw [show found ps.length k = k from by simp [found, hk]]
  have s0 := (unhide HT0).recv.c0
  have s1 := (unhide HT0).recv.c1
  have sf := (unhide HT0).recv.fr 1
  have slt := (unhide HT0).recv.lt
  have m4 : w1.cell? ⟨g, k * 6 + 4, none⟩ = some (.string (nth ps k).s4) := by
    obtain ⟨b, off, e, hat⟩ := (unhide HT0).owns.rowed k hk
    cases e
    have := hat.2.2.2.2.1
    rwa [Nat.zero_add] at this
  cases hd : (nth ps k).multi
  · have hd' := hd
    unfold PV.multi at hd'
    have HD : Hid (down (nth ps k) ns = wrap64 (ns - 1)) := by show _ = _; rw [down, hd]; rfl
    clear hd
    have HT1 := hide ((unhide HT0).set1 (wrap64 (ns - 1)))
    have t0 := (unhide HT1).recv.c0
    go_wp2_with (fail)
    refine (delete_pkgs base g cap k ps _ (unhide HT1).owns hk hl).mono ?_
    rintro e w2 ⟨rfl, ho2, hg2⟩
    obtain ⟨hr2, ht2⟩ := (unhide HT1).hit ho2 hg2
    have HT := hide ht2
    have u0 := hr2.c0
    have uf := hr2.fr 0
    have u1 := hr2.lt
    have u2 : w.heap.size < w2.heap.size := by have := ht2.fits; simpa using this
    clear ho2 hg2 hr2 ht2 t0 s0 s1 sf m4 hd'
    have hl1 : (ps.eraseIdx k).length < 1048576 := by have := unhide HL; omega
    obtain ⟨p0, p1, p2, p3, p4, p5⟩ := (unhide HT).boxed.at
    simp only [Nat.zero_add] at p0 p1 p2 p3 p4 p5
    have r0 := (unhide HT).recv.c0
    have r1 := (unhide HT).recv.c1
    cases hg : p.gone
    · have hg' := hg
      unfold PV.gone at hg'
      have HG := hide hg
      clear hg
      go_wp2_with (fail)
      have f0 := (unhide HT).recv.fr 0
      have flt := (unhide HT).recv.lt
      have blt := (unhide HT).fits
      obtain ⟨i35, hi35, hz0, hz1, hz2⟩ := info_parts Try.info35
      have C1 : Hid (∀ (j : Nat) (u : Value), p.cells[j]? = some u → (World.alloc (w2.setCell ⟨bs, 0, none⟩ (.slice (some ⟨g, 0, none⟩) (ps.eraseIdx k).length cap)) (Obj.cells #[.string p.s0, .string p.s1, .string p.s2, .string p.s3, .string p.s4, .slice p.ca p.cn p.cc] 35)).cell? ((⟨(w2.setCell ⟨bs, 0, none⟩ (.slice (some ⟨g, 0, none⟩) (ps.eraseIdx k).length cap)).heap.size, 0, none⟩ : Addr).add j) = some u) := by
        intro j u hu
        rw [Addr.add_lit, Nat.zero_add, World.cell?_alloc_at _ _ _ _ rfl]
        rw [← hu]
        exact List.getElem?_toArray (xs := p.cells)
      have C2 : Hid (∀ u ∈ p.cells, u.oneCell' = true) := fun u hu => flat_one [p] u (by simpa [flat] using hu)
      have C3 : Hid (World.ownsRow (World.alloc (w2.setCell ⟨bs, 0, none⟩ (.slice (some ⟨g, 0, none⟩) (ps.eraseIdx k).length cap)) (Obj.cells #[.string p.s0, .string p.s1, .string p.s2, .string p.s3, .string p.s4, .slice p.ca p.cn p.cc] 35)) base 35 6 (.slice (some ⟨g, 0, none⟩) (ps.eraseIdx k).length cap) (ps.eraseIdx k).length (flat (ps.eraseIdx k))) := World.ownsRow.alloc (unhide HT).owns _
      have C4 : Hid (base ≤ (w2.setCell ⟨bs, 0, none⟩ (.slice (some ⟨g, 0, none⟩) (ps.eraseIdx k).length cap)).heap.size + 1) := by have := (unhide HT).room; show base ≤ _; omega
      go_region_law (refine step_append_own rfl (.tmp 47) (.tmp 49) 31 rfl base 35 i35 (.agg zero35.toArray) 6 104 Try.underlying31 hi35 hz0 hz1 hz2 rfl (by decide) (.slice (some ⟨g, 0, none⟩) (ps.eraseIdx k).length cap) (ps.eraseIdx k).length (flat (ps.eraseIdx k)) (by simp [Act.eval]) C3.out ⟨(w2.setCell ⟨bs, 0, none⟩ (.slice (some ⟨g, 0, none⟩) (ps.eraseIdx k).length cap)).heap.size, 0, none⟩ 1 1 p.cells (by simp [Act.eval]) rfl C1.out C2.out (by unfold maxLen; omega) (by omega) (by simpa using C4.out) ?_; intro v' w' hown' hgrow; obtain ⟨g', cap', hv', a1, a2, a3, a4⟩ := (unhide HT).after _ v' w' hown' hgrow; clear hown' hgrow; subst hv'; have A := hide (stored0 a1 a2 a3 a4); have b0 := a1.c0; have b1 := a1.fr 0; clear a1 a2 a3 a4)
      all_goals
        obtain ⟨d1, d2, d3, d4⟩ := unhide A
        have e4 := d2.at.2.2.2.2.1
        simp only [Nat.zero_add] at e4
        have e1 := d1.c1
        have e2 := d1.fr 1
        cases hm : p.multi
        · have hm' := hm
          unfold PV.multi at hm'
          have HM := hide hm
          clear hm
          have D := hide (stored1 d1 d2 d3 d4 (wrap64 (wrap64 (ns - 1) + 1)))
          have D0 := hide d1
          clear d1 d2 d3 d4 A
          go_wp2
          go_end0
          refine ⟨rfl, ?_⟩
          obtain ⟨d1, d2, d3, d4⟩ := unhide D
          exact done_of (by rw [unhide HD]; exact add_plain (unhide HG) (unhide HM) _ _) ⟨⟨_, d1, d3⟩, d4⟩
        · have hm' := hm
          unfold PV.multi at hm'
          have HM := hide hm
          clear hm
          have D := hide (And.intro d1 (And.intro d3 d4))
          clear d1 d2 d3 d4 A
          go_wp2
          go_end0
          refine ⟨rfl, ?_⟩
          obtain ⟨d1, d3, d4⟩ := unhide D
          exact done_of (by rw [unhide HD]; exact add_multi (unhide HG) (unhide HM) _ _) ⟨⟨_, d1, d3⟩, d4⟩
    · have hg' := hg
      unfold PV.gone at hg'
      have HG := hide hg
      clear hg
      go_wp2
      refine bodyPost_ret (results_none rfl _ _ _) rfl ?_
      exact ⟨rfl, done_of (by rw [unhide HD]; exact add_gone (unhide HG) _ _) (unhide HT).done⟩
  · have hd' := hd
    unfold PV.multi at hd'
    have HD : Hid (down (nth ps k) ns = ns) := by show _ = _; rw [down, hd]; rfl
    clear hd
    go_wp2_with (fail)
    refine (delete_pkgs base g cap k ps _ (unhide HT0).owns hk hl).mono ?_
    rintro e w2 ⟨rfl, ho2, hg2⟩
    obtain ⟨hr2, ht2⟩ := (unhide HT0).hit ho2 hg2
    have HT := hide ht2
    have u0 := hr2.c0
    have uf := hr2.fr 0
    have u1 := hr2.lt
    have u2 : w.heap.size < w2.heap.size := by have := ht2.fits; simpa using this
    clear ho2 hg2 hr2 ht2 s0 s1 sf m4 hd'
    have hl1 : (ps.eraseIdx k).length < 1048576 := by have := unhide HL; omega
    obtain ⟨p0, p1, p2, p3, p4, p5⟩ := (unhide HT).boxed.at
    simp only [Nat.zero_add] at p0 p1 p2 p3 p4 p5
    have r0 := (unhide HT).recv.c0
    have r1 := (unhide HT).recv.c1
    cases hg : p.gone
    · have hg' := hg
      unfold PV.gone at hg'
      have HG := hide hg
      clear hg
      go_wp2_with (fail)
      have f0 := (unhide HT).recv.fr 0
      have flt := (unhide HT).recv.lt
      have blt := (unhide HT).fits
      obtain ⟨i35, hi35, hz0, hz1, hz2⟩ := info_parts Try.info35
      have C1 : Hid (∀ (j : Nat) (u : Value), p.cells[j]? = some u → (World.alloc (w2.setCell ⟨bs, 0, none⟩ (.slice (some ⟨g, 0, none⟩) (ps.eraseIdx k).length cap)) (Obj.cells #[.string p.s0, .string p.s1, .string p.s2, .string p.s3, .string p.s4, .slice p.ca p.cn p.cc] 35)).cell? ((⟨(w2.setCell ⟨bs, 0, none⟩ (.slice (some ⟨g, 0, none⟩) (ps.eraseIdx k).length cap)).heap.size, 0, none⟩ : Addr).add j) = some u) := by
        intro j u hu
        rw [Addr.add_lit, Nat.zero_add, World.cell?_alloc_at _ _ _ _ rfl]
        rw [← hu]
        exact List.getElem?_toArray (xs := p.cells)
      have C2 : Hid (∀ u ∈ p.cells, u.oneCell' = true) := fun u hu => flat_one [p] u (by simpa [flat] using hu)
      have C3 : Hid (World.ownsRow (World.alloc (w2.setCell ⟨bs, 0, none⟩ (.slice (some ⟨g, 0, none⟩) (ps.eraseIdx k).length cap)) (Obj.cells #[.string p.s0, .string p.s1, .string p.s2, .string p.s3, .string p.s4, .slice p.ca p.cn p.cc] 35)) base 35 6 (.slice (some ⟨g, 0, none⟩) (ps.eraseIdx k).length cap) (ps.eraseIdx k).length (flat (ps.eraseIdx k))) := World.ownsRow.alloc (unhide HT).owns _
      have C4 : Hid (base ≤ (w2.setCell ⟨bs, 0, none⟩ (.slice (some ⟨g, 0, none⟩) (ps.eraseIdx k).length cap)).heap.size + 1) := by have := (unhide HT).room; show base ≤ _; omega
      go_region_law (refine step_append_own rfl (.tmp 47) (.tmp 49) 31 rfl base 35 i35 (.agg zero35.toArray) 6 104 Try.underlying31 hi35 hz0 hz1 hz2 rfl (by decide) (.slice (some ⟨g, 0, none⟩) (ps.eraseIdx k).length cap) (ps.eraseIdx k).length (flat (ps.eraseIdx k)) (by simp [Act.eval]) C3.out ⟨(w2.setCell ⟨bs, 0, none⟩ (.slice (some ⟨g, 0, none⟩) (ps.eraseIdx k).length cap)).heap.size, 0, none⟩ 1 1 p.cells (by simp [Act.eval]) rfl C1.out C2.out (by unfold maxLen; omega) (by omega) (by simpa using C4.out) ?_; intro v' w' hown' hgrow; obtain ⟨g', cap', hv', a1, a2, a3, a4⟩ := (unhide HT).after _ v' w' hown' hgrow; clear hown' hgrow; subst hv'; have A := hide (stored0 a1 a2 a3 a4); have b0 := a1.c0; have b1 := a1.fr 0; clear a1 a2 a3 a4)
      all_goals
        obtain ⟨d1, d2, d3, d4⟩ := unhide A
        have e4 := d2.at.2.2.2.2.1
        simp only [Nat.zero_add] at e4
        have e1 := d1.c1
        have e2 := d1.fr 1
        cases hm : p.multi
        · have hm' := hm
          unfold PV.multi at hm'
          have HM := hide hm
          clear hm
          have D := hide (stored1 d1 d2 d3 d4 (wrap64 (ns + 1)))
          have D0 := hide d1
          clear d1 d2 d3 d4 A
          go_wp2
          go_end0
          refine ⟨rfl, ?_⟩
          obtain ⟨d1, d2, d3, d4⟩ := unhide D
          exact done_of (by rw [unhide HD]; exact add_plain (unhide HG) (unhide HM) _ _) ⟨⟨_, d1, d3⟩, d4⟩
        · have hm' := hm
          unfold PV.multi at hm'
          have HM := hide hm
          clear hm
          have D := hide (And.intro d1 (And.intro d3 d4))
          clear d1 d2 d3 d4 A
          go_wp2
          go_end0
          refine ⟨rfl, ?_⟩
          obtain ⟨d1, d3, d4⟩ := unhide D
          exact done_of (by rw [unhide HD]; exact add_multi (unhide HG) (unhide HM) _ _) ⟨⟨_, d1, d3⟩, d4⟩
    · have hg' := hg
      unfold PV.gone at hg'
      have HG := hide hg
      clear hg
      go_wp2
      refine bodyPost_ret (results_none rfl _ _ _) rfl ?_
      exact ⟨rfl, done_of (by rw [unhide HD]; exact add_gone (unhide HG) _ _) (unhide HT).done⟩
end Go.Proofs.Qxb6605467a.Put
