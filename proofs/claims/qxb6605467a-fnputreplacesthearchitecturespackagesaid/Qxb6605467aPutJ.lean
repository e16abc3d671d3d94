/-
  FROM MEMORY TO NUMBERS: the slice that a script of puts has built holds, in order, copies of the packages whose numbers the plain law lists.
-/
import Derived.Test.Qxb6605467aPutI
import Derived.Test.Qxb6605467aScript
namespace Go.Proofs.Qxb6605467a.Put
open Go.RowKit
open Go.Proofs.Qxb6605467a.Node (hide unhide bytes_ext)
open Go.Proofs.Qxb6605467a.Script (spotI putI st cnt)

def archOf (g : Nat → PV) (i : Nat) : List UInt8 := (g i).s2.data.toList
def goneOf (g : Nat → PV) (i : Nat) : Bool := (g i).gone
def multiOf (g : Nat → PV) (i : Nat) : Bool := (g i).multi

/-- v owns copies of g's packages of the numbers 'is' -/
def Has (w : World) (B : Nat) (g : Nat → PV) (v : Value) (is : List Nat) : Prop :=
  ∃ zs : List (PV × Nat), is = zs.map Prod.snd ∧ Owns w B v (zs.map Prod.fst) ∧ ∀ z ∈ zs, z.1.like (g z.2) ∧ z.1.ready w ∧ z.1.tag w

theorem has_nil (w : World) (B : Nat) (g : Nat → PV) : Has w B g (.slice none 0 0) [] := ⟨[], rfl, World.ownsRow_nil _ _ _ _, fun _ h => by cases h⟩

/-- a block of strings that is not written: the package reads as it did -/
theorem kept_ready {X : Nat → Prop} {w w' : World} {p : PV} (hr : p.ready w) (ht : p.tag w) (hk : Kept X w w') (hx : ∀ k cur, w.heap[k]? = some (.cells cur 9 (0, 0)) → ¬ X k) : p.ready w' ∧ p.tag w' := by
  have hb : ∀ a, p.ca = some a → w'.heap[a.block]? = w.heap[a.block]? := fun a ha => by
    obtain ⟨cur, hc⟩ := ht a ha
    exact hk.block _ (lt_of_block hc) (hx _ _ hc)
  refine ⟨⟨hr.1, hr.2.1, fun k hk' => ?_⟩, fun a ha => ?_⟩
  · obtain ⟨b, off, e, hc⟩ := hr.2.2 k hk'
    exact ⟨b, off, e, (World.cell?_of_block (a := ⟨b, off + k, none⟩) (hb ⟨b, off, none⟩ e)).trans hc⟩
  · obtain ⟨cur, hc⟩ := ht a ha
    exact ⟨cur, (hb a ha).trans hc⟩
theorem later_ready {w w' : World} {p : PV} (hr : p.ready w) (ht : p.tag w) (hk : Below w.heap.size w w') : p.ready w' ∧ p.tag w' :=
  kept_ready (X := fun _ => False) hr ht (Kept.of_below hk) (fun _ _ _ e => e)
theorem own_not_tag {w : World} {B : Nat} {v : Value} {ps : List PV} (h : Owns w B v ps) (k : Nat) (cur : Array Value) (hc : w.heap[k]? = some (.cells cur 9 (0, 0))) : ¬ v.ownBlock = some k := by
  intro e
  obtain ⟨cur', hc', _⟩ := h.tagged e
  rw [hc] at hc'
  simp at hc'

theorem Has.later {w w' : World} {B : Nat} {g : Nat → PV} {v : Value} {is : List Nat} (h : Has w B g v is) (hb : Below w.heap.size w w') : Has w' B g v is := by
  obtain ⟨zs, h1, h2, h3⟩ := h
  exact ⟨zs, h1, h2.later hb, fun z hz => ⟨(h3 z hz).1, later_ready (h3 z hz).2.1 (h3 z hz).2.2 hb⟩⟩

theorem findIdx_congr' {α : Type} {p q : α → Bool} : ∀ {l : List α}, (∀ x ∈ l, p x = q x) → l.findIdx p = l.findIdx q
  | [], _ => rfl
  | x :: l, h => by rw [List.findIdx_cons, List.findIdx_cons, h x (by simp), findIdx_congr' (fun y hy => h y (by simp [hy]))]
theorem findIdx_map' {α β : Type} (f : α → β) (p : β → Bool) : ∀ l : List α, (l.map f).findIdx p = l.findIdx (fun x => p (f x))
  | [] => rfl
  | x :: l => by rw [List.map_cons, List.findIdx_cons, List.findIdx_cons, findIdx_map' f p l]
theorem eraseIdx_map' {α β : Type} (f : α → β) : ∀ (l : List α) (k : Nat), (l.map f).eraseIdx k = (l.eraseIdx k).map f
  | [], k => by simp
  | x :: l, 0 => rfl
  | x :: l, k + 1 => by simp [eraseIdx_map' f l k]

theorem like_gone {p q : PV} (h : p.like q) : p.gone = q.gone := by rw [PV.gone, PV.gone, h.2.2.2.1]
theorem like_multi {p q : PV} (h : p.like q) : p.multi = q.multi := by rw [PV.multi, PV.multi, h.2.2.2.2.1]
theorem like_arch {p q : PV} (h : p.like q) : p.s2 = q.s2 := h.2.2.1

theorem spot_eq (g : Nat → PV) (zs : List (PV × Nat)) (q : PV) (i : Nat) (hq : q.like (g i)) (h : ∀ z ∈ zs, z.1.like (g z.2)) : spot (zs.map Prod.fst) q = zs.findIdx (fun z => archOf g z.2 == archOf g i) ∧ spotI (archOf g) (zs.map Prod.snd) i = zs.findIdx (fun z => archOf g z.2 == archOf g i) := by
  rw [spot, spotI, findIdx_map', findIdx_map']
  refine ⟨findIdx_congr' (fun z hz => ?_), rfl⟩
  rw [PV.arch, archOf, archOf, like_arch (h z hz), like_arch hq]

/-- ONE PUT -/
theorem has_put {w w' : World} {B : Nat} {g : Nat → PV} {v v' : Value} {zs : List (PV × Nat)} {q : PV} {i : Nat} (ho : Owns w B v (zs.map Prod.fst)) (h3 : ∀ z ∈ zs, z.1.like (g z.2) ∧ z.1.ready w ∧ z.1.tag w)
    (hq : q.like (g i)) (hr : q.ready w) (ht : q.tag w) (ho' : Owns w' B v' (putL (zs.map Prod.fst) q)) (hk : Kept (fun k => v.ownBlock = some k) w w') :
    Has w' B g v' (putI (archOf g) (goneOf g) (zs.map Prod.snd) i) := by
  obtain ⟨e1, e2⟩ := spot_eq g zs q i hq (fun z hz => (h3 z hz).1)
  have hx := own_not_tag ho
  have hold : ∀ z ∈ zs.eraseIdx (zs.findIdx (fun z => archOf g z.2 == archOf g i)), z.1.like (g z.2) ∧ z.1.ready w' ∧ z.1.tag w' := fun z hz => by
    have hz' := List.mem_of_mem_eraseIdx hz
    exact ⟨(h3 z hz').1, kept_ready (h3 z hz').2.1 (h3 z hz').2.2 hk hx⟩
  have hg : q.gone = goneOf g i := like_gone hq
  rw [putL, e1, eraseIdx_map', addL, hg] at ho'
  rw [putI, e2, eraseIdx_map']
  cases hgi : goneOf g i
  · rw [hgi] at ho'
    refine ⟨zs.eraseIdx (zs.findIdx (fun z => archOf g z.2 == archOf g i)) ++ [(q, i)], by simp, ?_, fun z hz => ?_⟩
    · rw [List.map_append]; exact ho'
    · rcases List.mem_append.1 hz with hz | hz
      · exact hold z hz
      · simp at hz
        subst hz
        exact ⟨hq, kept_ready hr ht hk hx⟩
  · rw [hgi] at ho'
    exact ⟨_, by simp, ho', hold⟩

theorem wrap_small (z : Int) (h0 : -1000000 ≤ z) (h1 : z ≤ 1000000) : wrap64 z = z := by
  unfold wrap64
  omega

/-- how the count moves -/
theorem cnt_put (g : Nat → PV) (zs : List (PV × Nat)) (q : PV) (i : Nat) (hq : q.like (g i)) (h : ∀ z ∈ zs, z.1.like (g z.2)) (hl : zs.length ≤ 4096) :
    putN (zs.map Prod.fst) q (cnt (multiOf g) (zs.map Prod.snd)) = cnt (multiOf g) (putI (archOf g) (goneOf g) (zs.map Prod.snd) i) := by
  obtain ⟨e1, e2⟩ := spot_eq g zs q i hq h
  rw [putN, putI, e1, e2]
  generalize zs.findIdx (fun z => archOf g z.2 == archOf g i) = k
  have hg : q.gone = goneOf g i := like_gone hq
  have hm : q.multi = multiOf g i := like_multi hq
  have c0 := Script.cnt_nonneg (multiOf g) (zs.map Prod.snd)
  have c1 := Script.cnt_le (multiOf g) (zs.map Prod.snd)
  have ce := Script.cnt_erase (multiOf g) (zs.map Prod.snd) k
  have ce0 := Script.cnt_nonneg (multiOf g) ((zs.map Prod.snd).eraseIdx k)
  rw [List.length_map] at c1
  have hd : (if k < (zs.map Prod.fst).length then down (nth (zs.map Prod.fst) k) (cnt (multiOf g) (zs.map Prod.snd)) else cnt (multiOf g) (zs.map Prod.snd)) = cnt (multiOf g) ((zs.map Prod.snd).eraseIdx k) := by
    by_cases hk : k < zs.length
    · have hk1 : k < (zs.map Prod.fst).length := by simpa using hk
      have hk2 : k < (zs.map Prod.snd).length := by simpa using hk
      rw [if_pos hk1, ce, if_pos hk2, down, nth_eq hk1, List.getElem_map, like_multi (h zs[k] (List.getElem_mem hk)), List.getD_eq_getElem?_getD, List.getElem?_eq_getElem hk2, List.getElem_map]
      show (if multiOf g zs[k].2 then _ else _) = _
      cases hmz : multiOf g zs[k].2
      · rw [if_neg (by decide)]
        show wrap64 _ = cnt _ _ - (if multiOf g zs[k].2 then 0 else 1)
        rw [hmz, if_neg (by decide)]
        exact wrap_small _ (by omega) (by omega)
      · rw [if_pos rfl]
        show _ = cnt _ _ - (if multiOf g zs[k].2 then 0 else 1)
        rw [hmz, if_pos rfl]
        omega
    · rw [if_neg (by simpa using hk), ce, if_neg (by simpa using hk)]
      omega
  rw [hd, addN, hg]
  have cb : cnt (multiOf g) ((zs.map Prod.snd).eraseIdx k) ≤ 4096 := by
    have := Script.cnt_le (multiOf g) ((zs.map Prod.snd).eraseIdx k)
    have h2 := List.length_eraseIdx_le (zs.map Prod.snd) k
    rw [List.length_map] at h2
    omega
  cases goneOf g i
  · rw [if_neg (by decide), if_neg (by decide), Script.cnt_snoc, up, hm]
    cases multiOf g i
    · rw [if_neg (by decide), if_neg (by decide)]
      exact wrap_small _ (by omega) (by omega)
    · rw [if_pos rfl, if_pos rfl]
      omega
  · rw [if_pos rfl, if_pos rfl]
end Go.Proofs.Qxb6605467a.Put
