/-
  WHAT THE WALK OF FnPutReplacesTheArchitecturesPackage STANDS ON: the count's move, whatever notSame was; what is kept, as a row of ints.
-/
import Derived.Test.Qxb6605467aPutM
import Derived.Test.Qxb6605467aReplace
namespace Go.Proofs.Qxb6605467a.Put
open Go.RowKit
open Go.Proofs.Qxb6605467a.Node (hide unhide bytes_ext)
open Go.Proofs.Qxb6605467a.Script (spotI putI st cnt keep)

theorem wrap_two (ns a b : Int) (ha : a = 0 ∨ a = 1) (hb : b = 0 ∨ b = 1) : wrap64 ((if b = 0 then (if a = 0 then ns else wrap64 (ns - 1)) else wrap64 ((if a = 0 then ns else wrap64 (ns - 1)) + 1)) - ns) = b - a := by
  unfold wrap64
  rcases ha with rfl | rfl <;> rcases hb with rfl | rfl <;> simp <;> omega

theorem down_eq (q : PV) (ns : Int) : down q ns = (if (if q.multi then (0 : Int) else 1) = 0 then ns else wrap64 (ns - 1)) := by
  rw [down]; cases q.multi <;> simp
theorem addN_eq (p : PV) (ns : Int) : addN p ns = (if (if p.gone then (0 : Int) else if p.multi then 0 else 1) = 0 then ns else wrap64 (ns + 1)) := by
  rw [addN, up]; cases p.gone <;> cases p.multi <;> simp

/-- outNotSame - notSame, whatever notSame was -/
theorem moved_count (g : Nat → PV) (zs : List (PV × Nat)) (q : PV) (i : Nat) (ns : Int) (hq : q.like (g i)) (h : ∀ z ∈ zs, z.1.like (g z.2)) :
    wrap64 (putN (zs.map Prod.fst) q ns - ns) = cnt (multiOf g) ((zs.map Prod.snd).eraseIdx (spotI (archOf g) (zs.map Prod.snd) i)) + (if goneOf g i then 0 else if multiOf g i then 0 else 1) - cnt (multiOf g) (zs.map Prod.snd) := by
  obtain ⟨e1, e2⟩ := spot_eq g zs q i hq h
  rw [putN, e1, e2]
  generalize zs.findIdx (fun z => archOf g z.2 == archOf g i) = k
  have hg : q.gone = goneOf g i := like_gone hq
  have hm : q.multi = multiOf g i := like_multi hq
  have ce := Script.cnt_erase (multiOf g) (zs.map Prod.snd) k
  have hd : (if k < (zs.map Prod.fst).length then down (nth (zs.map Prod.fst) k) ns else ns) = (if (if k < (zs.map Prod.snd).length then (if multiOf g ((zs.map Prod.snd).getD k 0) then (0 : Int) else 1) else 0) = 0 then ns else wrap64 (ns - 1)) := by
    by_cases hk : k < zs.length
    · have hk1 : k < (zs.map Prod.fst).length := by simpa using hk
      have hk2 : k < (zs.map Prod.snd).length := by simpa using hk
      rw [if_pos hk1, if_pos hk2, down_eq, nth_eq hk1, List.getElem_map, like_multi (h zs[k] (List.getElem_mem hk)), List.getD_eq_getElem?_getD, List.getElem?_eq_getElem hk2, List.getElem_map]
      rfl
    · have hk1 : ¬ k < (zs.map Prod.fst).length := by simpa using hk
      have hk2 : ¬ k < (zs.map Prod.snd).length := by simpa using hk
      rw [if_neg hk1, if_neg hk2, if_pos rfl]
  rw [hd, addN_eq, hg, hm, wrap_two, ce]
  · omega
  · by_cases hk : k < (zs.map Prod.snd).length
    · rw [if_pos hk]; cases multiOf g ((zs.map Prod.snd).getD k 0) <;> simp
    · rw [if_neg hk]; simp
  · cases goneOf g i <;> cases multiOf g i <;> simp

/-- what is kept, as the cells of a []int -/
def ints (l : List Nat) : List Value := l.map fun (j : Nat) => Value.int .i64 (j : Int)
theorem ints_len (l : List Nat) : (ints l).length = l.length := by simp [ints]
theorem ints_get (l : List Nat) (k : Nat) (h : k < l.length) : (ints l)[k]? = some (.int .i64 ((l.getD k 0 : Nat) : Int)) := by
  simp [ints, h]
theorem Try.info3 : (Try.prog.info? 3).map (fun i => (i.zero, i.size, i.bytes)) = some (some (.int .i64 0), 1, 8) := by kernel_rfl

theorem getD_append_left (l r : List Nat) (k : Nat) (h : k < l.length) : (l ++ r).getD k 0 = l.getD k 0 := by
  rw [List.getD_eq_getElem?_getD, List.getD_eq_getElem?_getD, List.getElem?_append_left h]

end Go.Proofs.Qxb6605467a.Put
