/-
  THE WALK of FnPutScriptKeepsLastPutOfEachArchitecture: it returns true at every script.
-/
import Derived.Test.Qxb6605467aPutJ
import Derived.Lib.QuietBelow
namespace Go.Proofs.Qxb6605467a.Put
open Go.RowKit
open Go.Proofs.Qxb6605467a.Node (hide unhide bytes_ext)
open Go.Proofs.Qxb6605467a.Script (spotI putI st cnt)

/-- nil means: no element, no room -/
def Nils (g : Nat → PV) : Prop := ∀ k, (g k).ca = none → (g k).cn = 0 ∧ (g k).cc = 0

/-- a round of the first loop, behind its two calls -/
theorem script_step {w w1 w2 w3 : World} {B k : Nat} {g : Nat → PV} {v v' : Value} {zs : List (PV × Nat)} {q : PV} (hst : st (archOf g) (goneOf g) k = zs.map Prod.snd) (ho : Owns w1 B v (zs.map Prod.fst)) (h3 : ∀ z ∈ zs, z.1.like (g z.2) ∧ z.1.ready w1 ∧ z.1.tag w1)
    (hB : B ≤ w1.heap.size) (hb : Below B w w1) (hq : q.like (g k)) (hr : q.ready w2) (ht : q.tag w2) (hb2 : Below w1.heap.size w1 w2) (ho' : Owns w3 B v' (putL (zs.map Prod.fst) q)) (hk : Kept (fun k => v.ownBlock = some k) w2 w3) :
    Has w3 B g v' (st (archOf g) (goneOf g) (k + 1)) ∧ Below B w w3 := by
  have ho2 := ho.later hb2
  refine ⟨?_, ?_⟩
  · rw [Script.st, hst]
    exact has_put ho2 (fun z hz => ⟨(h3 z hz).1, later_ready (h3 z hz).2.1 (h3 z hz).2.2 hb2⟩) hq hr ht ho' hk
  · refine (hb.trans (hb2.mono hB)).trans (hk.below (Nat.le_trans hB hb2.size) (fun k e => ?_))
    obtain ⟨_, _, h⟩ := ho2.tagged e
    exact h

theorem zzput_pairs (base : Nat) (q : PV) (zs : List (PV × Nat)) (w : World) (oa : Option Addr) (cap : Nat) (ns : Int) (hown : Owns w base (.slice oa (zs.map Prod.fst).length cap) (zs.map Prod.fst)) (hl : zs.length ≤ 4096) (hb : base ≤ w.heap.size) :
    Calls Try.prog 15 #[.slice oa zs.length cap, .int .i64 ns, q.val] w
      fun e w' => ∃ v', e = .returned (.tuple #[v', .int .i64 (putN (zs.map Prod.fst) q ns)]) ∧ Owns w' base v' (putL (zs.map Prod.fst) q) ∧ Kept (fun k => (Value.slice oa (zs.map Prod.fst).length cap).ownBlock = some k) w w' := by
  have h := zzput_walk base q (zs.map Prod.fst) w oa cap ns hown (by rw [List.length_map]; omega) hb
  rw [List.length_map] at h
  rw [List.length_map]
  exact h

/-- the package at place t of what has been built -/
theorem built_at {w : World} {B : Nat} {g : Nat → PV} {zs : List (PV × Nat)} {oa : Option Addr} {cap t j : Nat} (ho : Owns w B (.slice oa (zs.map Prod.fst).length cap) (zs.map Prod.fst)) (h3 : ∀ z ∈ zs, z.1.like (g z.2) ∧ z.1.ready w ∧ z.1.tag w) (ht : t < zs.length) (hj : (zs.map Prod.snd).getD t 0 = j) :
    ∃ (p : PV) (b off : Nat), oa = some ⟨b, off, none⟩ ∧ p.at w b (off + t * 6) ∧ p.like (g j) ∧ p.ready w := by
  have ht1 : t < (zs.map Prod.fst).length := by simpa using ht
  have ht2 : t < (zs.map Prod.snd).length := by simpa using ht
  obtain ⟨b, off, e, hat⟩ := ho.rowed t ht1
  rw [nth_eq ht1, List.getElem_map] at hat
  rw [List.getD_eq_getElem?_getD, List.getElem?_eq_getElem ht2, List.getElem_map] at hj
  have hj' : zs[t].2 = j := hj
  have hz := h3 zs[t] (List.getElem_mem ht)
  rw [hj'] at hz
  exact ⟨zs[t].1, b, off, e, hat, hz.1, hz.2.1⟩

set_option maxHeartbeats 1600000 in
set_option maxRecDepth 100000 in
theorem script_walk (w : World) (pa : Option Addr) (m pc : Nat) (g : Nat → PV) (hp : Pkgs w pa m g) (hnil : Nils g) (hm : m ≤ maxLen) :
    Calls Try.prog 6 #[.slice pa m pc] w fun e w' => e = .returned (.bool true) ∧ Below w.heap.size w w' := by
  have HP := hide hp
  have HNil := hide hnil
  clear hp hnil
  go_enter Try.func6, Try.ntmps6
  go_wp2_with (fail)
  refine (zz6_any _ pa m pc g (unhide HP) hm).mono ?_
  rintro e w0 ⟨⟨z, rfl, hz⟩, hw⟩
  subst hw
  cases z
  · go_wp2
    go_ret
    exact ⟨rfl, Below.refl _ _⟩
  have HC := hide (hz rfl)
  clear hz hm
  by_cases h4 : m ≤ 4096
  · go_wp2_with (fail)
    refine (bytes_any PV.nil _ ⟨Nat.zero_le _, fun _ h => absurd h (Nat.not_lt_zero _)⟩ pa m pc g (unhide HP) h4).mono ?_
    rintro e w1 ⟨⟨z, rfl⟩, hb⟩
    have HB := hide hb
    clear hb
    by_cases hz : 1048576 < z
    · go_wp2
      go_ret
      exact ⟨rfl, unhide HB⟩
    · go_wp2_with (fail)
      go_loopw [3, 4, 5] (fun c n i wr => ∃ k : Nat, k ≤ m ∧ i = .int .i64 k ∧ n = .int .i64 (cnt (multiOf g) (st (archOf g) (goneOf g) k)) ∧ Has wr w0.heap.size g c (st (archOf g) (goneOf g) k) ∧ Below w0.heap.size w0 wr) (fun _ _ i _ => m - (intOf i).toNat)
      case atStart => exact ⟨0, Nat.zero_le _, rfl, rfl, has_nil _ _ _, unhide HB⟩
      case round =>
        obtain ⟨k, hk, rfl, rfl, hh, hb⟩ := hrel
        by_cases hlt : k < m
        · have HBr := hide hb
          obtain ⟨b, off, rfl, hc, hr⟩ := ((unhide HP).later hb) k hlt
          have HR : Hid ((g k).ready wr) := ⟨unhide HNil k, unhide HC k hlt, hr.2⟩
          obtain ⟨zs, hst, ho, h3⟩ := hh
          obtain ⟨oa, cap, hv, _⟩ := ho.form
          subst hv
          have HS := hide hst
          have HO := hide ho
          have H3 := hide h3
          have HL : Hid (zs.length ≤ k) := by have := Script.st_le (archOf g) (goneOf g) k; rw [hst, List.length_map] at this; exact this
          obtain ⟨c0, c1, c2, c3, c4, c5⟩ := hc
          clear hb hr hst ho h3
          go_wp2_with (fail)
          refine (pkg_any (g k) _ (unhide HR)).mono ?_
          rintro e w2 ⟨q, rfl, hq, hr2, ht2, hb2⟩
          have HQ := hide hq
          have HR2 := hide hr2
          have HT2 := hide ht2
          have HB2 := hide hb2
          clear hq hr2 ht2 hb2
          go_wp2_with (fail)
          have HZ : Hid (w0.heap.size ≤ w2.heap.size) := Nat.le_trans (unhide HBr).size (unhide HB2).size
          refine (zzput_pairs w0.heap.size q zs w2 oa cap _ ((unhide HO).later (unhide HB2)) (by have := unhide HL; omega) (unhide HZ)).mono ?_
          rintro e w3 ⟨v', rfl, ho', hk'⟩
          have HS3 := hide (script_step (unhide HS) (unhide HO) (unhide H3) (unhide HBr).size (unhide HBr) (unhide HQ) (unhide HR2) (unhide HT2) (unhide HB2) ho' hk')
          have HN3 : Hid (putN (zs.map Prod.fst) q (cnt (multiOf g) (st (archOf g) (goneOf g) k)) = cnt (multiOf g) (st (archOf g) (goneOf g) (k + 1))) := by
            show _ = _
            rw [Script.st, unhide HS]
            exact cnt_put g zs q k (unhide HQ) (fun z hz => (unhide H3 z hz).1) (by have := unhide HL; omega)
          rw [unhide HN3]
          clear ho' hk' c0 c1 c2 c3 c4 c5 HO H3 HS HQ HR2 HT2 HB2 HZ HN3 HR HL
          go_wp2
          go_roundw
          case rel => exact ⟨k + 1, by omega, by go_num, rfl, (unhide HS3).1, (unhide HS3).2⟩
          case measure => simp [intOf]; omega
        · have ek : k = m := by omega
          subst ek
          obtain ⟨wa, hwa⟩ : ∃ wa, wa = wr := ⟨_, rfl⟩
          subst hwa
          obtain ⟨zs, hst, ho, h3⟩ := hh
          obtain ⟨oa, cap, hv, _⟩ := ho.form
          subst hv
          have HBr := hide hb
          have HS := hide hst
          have HO := hide ho
          have H3 := hide h3
          have HL : Hid (zs.length = (st (archOf g) (goneOf g) k).length) := by show _ = _; rw [hst, List.length_map]
          clear hb hst ho h3
          rw [List.length_map]
          go_wp2_with (fail)
          go_loopw [6, 7, 8, 9, 10] (fun t n i _ _ w5 => ∃ j : Nat, j ≤ k ∧ i = .int .i64 j ∧ t = .int .i64 (Script.head (archOf g) (goneOf g) k j).length ∧ n = .int .i64 (cnt (multiOf g) (Script.head (archOf g) (goneOf g) k j)) ∧ Below wa.heap.size wa w5) (fun _ _ i _ _ _ => k - (intOf i).toNat)
          case atStart => exact ⟨0, Nat.zero_le _, rfl, rfl, rfl, Below.refl _ _⟩
          case round =>
            obtain ⟨j, hj, rfl, rfl, rfl, hb⟩ := hrel
            by_cases hlt2 : j < k
            · have HB5 := hide hb
              obtain ⟨b, off, rfl, hc, hr⟩ := (((unhide HP).later (unhide HBr)).later hb) j hlt2
              have HR := hide hr
              obtain ⟨c0, c1, c2, c3, c4, c5⟩ := hc
              clear hb hr
              cases hgn : (g j).gone
              · have hgn' := hgn
                unfold PV.gone at hgn'
                have HG := hide hgn
                clear hgn
                go_wp2_with (fail)
                go_loopw [9, 10] (fun l i w6 => ∃ t : Nat, t ≤ k ∧ j < t ∧ i = .int .i64 t ∧ l = .bool true ∧ (∀ u, j < u → u < t → (g u).s2 ≠ (g j).s2) ∧ Below wa.heap.size wa w6) (fun _ i _ => k - (intOf i).toNat)
                case atStart => exact ⟨j + 1, by omega, by omega, by go_num, rfl, fun u h1 h2 => absurd h2 (by omega), unhide HB5⟩
                case round =>
                  obtain ⟨t, ht, hjt, rfl, rfl, hall, hb6⟩ := hrel
                  have HA := hide hall
                  have HB6 := hide hb6
                  clear hall hb6
                  obtain ⟨b1, off1, e1, hcj, hrj⟩ := (((unhide HP).later (unhide HBr)).later (unhide HB6)) j hlt2
                  cases e1
                  have HRJ := hide hrj
                  clear c0 c1 c2 c3 c4 c5 hrj
                  have d0 := hcj.1
                  have d1 := hcj.2.1
                  have d2 := hcj.2.2.1
                  have d3 := hcj.2.2.2.1
                  have d4 := hcj.2.2.2.2.1
                  have d5 := hcj.2.2.2.2.2
                  clear hcj
                  by_cases htk : t < k
                  · obtain ⟨b1, off1, e1, hct, _⟩ := (((unhide HP).later (unhide HBr)).later (unhide HB6)) t htk
                    cases e1
                    have t2 := hct.2.2.1
                    clear hct
                    by_cases hst : (g t).s2 = (g j).s2
                    · have hs' := beq_yes hst
                      have HST := hide hst
                      clear hst
                      go_wp2_with (fail)
                      go_quiet (fail)
                      go_wp2
                      have HE : Hid (Script.head (archOf g) (goneOf g) k (j + 1) = Script.head (archOf g) (goneOf g) k j) := by
                        show _ = _
                        rw [Script.head_succ, if_neg]
                        intro e
                        exact ((Script.lastOf_iff _ _ _ _).1 e).2 t htk hjt (by rw [archOf, archOf, unhide HST])
                      go_roundw
                      case rel => exact ⟨j + 1, by omega, by go_num, by rw [unhide HE], by rw [unhide HE], below_drewN (unhide HB6) _⟩
                      case measure => simp [intOf]; omega
                    · have hs' := beq_no hst
                      have HST := hide hst
                      clear hst
                      go_wp2_with (fail)
                      go_quiet (fail)
                      go_wp2
                      go_roundw
                      case rel => exact ⟨t + 1, by omega, by omega, by go_num, rfl, fun u h1 h2 => (if e : u = t then by rw [e]; exact unhide HST else unhide HA u h1 (by omega)), below_drewN (unhide HB6) _⟩
                      case measure => simp [intOf]; omega
                  · have hlast : Script.lastOf (archOf g) (goneOf g) k j = true := by
                      rw [Script.lastOf_iff]
                      exact ⟨unhide HG, fun u hu hju e => unhide HA u hju (by omega) (bytes_ext e)⟩
                    obtain ⟨q1, q2⟩ := Script.head_at (archOf g) (goneOf g) k j hlt2 hlast
                    rw [← unhide HL] at q1
                    rw [unhide HS] at q2
                    have HLast := hide hlast
                    obtain ⟨p, bq, oq, rfl, hat, hlk, hrp⟩ := built_at (g := g) ((unhide HO).later (unhide HB6)) (fun z hz => ⟨(unhide H3 z hz).1, later_ready (unhide H3 z hz).2.1 (unhide H3 z hz).2.2 (unhide HB6)⟩) q1 q2
                    have HLK := hide hlk
                    have HRP := hide hrp
                    have e0 := cell_regrown hat.1
                    have e1 := cell_regrown hat.2.1
                    have e2 := cell_regrown hat.2.2.1
                    have e3 := cell_regrown hat.2.2.2.1
                    have e4 := cell_regrown hat.2.2.2.2.1
                    have e5 := cell_regrown hat.2.2.2.2.2
                    have k0 := cell_regrown d0
                    have k1 := cell_regrown d1
                    have k2 := cell_regrown d2
                    have k3 := cell_regrown d3
                    have k4 := cell_regrown d4
                    have k5 := cell_regrown d5
                    have hgd : decide (zs.length ≤ (Script.head (archOf g) (goneOf g) k j).length) = false := decide_eq_false (by omega)
                    have hq1 : ((Script.head (archOf g) (goneOf g) k j).length : Int) < (zs.length : Int) := by omega
                    clear hlast q2 hlk hrp hat
                    go_wp2_with (fail)
                    refine wp_region_quiet_below (by kernel_rfl) (by kernel_rfl) ?_
                    repeat (go_big_quiet_step ((go_at_call 17; exact Calls.regrown_of (same_any p (g j) _ (unhide HLK) (by have := (unhide HRP).2.1; unfold maxLen; omega) ((unhide HRP).2.2.later (below_regrown _ _ _)) ((unhide HRJ).2.later (below_regrown _ _ _))))))
                    refine wpQuiet_nil ?_
                    intro _ hw'
                    obtain ⟨⟨dq, osq⟩, hw''⟩ := hw'
                    subst hw''
                    have HE : Hid (Script.head (archOf g) (goneOf g) k (j + 1) = Script.head (archOf g) (goneOf g) k j ++ [j]) := by
                      show _ = _
                      rw [Script.head_succ, if_pos (unhide HLast)]
                    have HLen : Hid (wrap64 (((Script.head (archOf g) (goneOf g) k j).length : Int) + 1) = ((Script.head (archOf g) (goneOf g) k (j + 1)).length : Int)) := by
                      show _ = _
                      have := Script.head_le (archOf g) (goneOf g) k j
                      rw [unhide HE, wrap_small _ (by omega) (by omega)]
                      simp
                    have HCn : Hid (if multiOf g j then cnt (multiOf g) (Script.head (archOf g) (goneOf g) k j) = cnt (multiOf g) (Script.head (archOf g) (goneOf g) k (j + 1)) else wrap64 (cnt (multiOf g) (Script.head (archOf g) (goneOf g) k j) + 1) = cnt (multiOf g) (Script.head (archOf g) (goneOf g) k (j + 1))) := by
                      show (if multiOf g j then _ else _)
                      have h1 := Script.head_le (archOf g) (goneOf g) k j
                      have h2 := Script.cnt_nonneg (multiOf g) (Script.head (archOf g) (goneOf g) k j)
                      have h3 := Script.cnt_le (multiOf g) (Script.head (archOf g) (goneOf g) k j)
                      rw [unhide HE, Script.cnt_snoc]
                      cases multiOf g j
                      · rw [if_neg (by decide), if_neg (by decide)]
                        exact wrap_small _ (by omega) (by omega)
                      · rw [if_pos rfl, if_pos rfl]
                        omega
                    clear e0 e1 e2 e3 e4 e5 k0 k1 k2 k3 k5 hgd hq1
                    cases hmj : (g j).multi
                    · have hmj' := hmj
                      unfold PV.multi at hmj'
                      have HC1 : Hid (wrap64 (cnt (multiOf g) (Script.head (archOf g) (goneOf g) k j) + 1) = cnt (multiOf g) (Script.head (archOf g) (goneOf g) k (j + 1))) := by
                        have := unhide HCn
                        rw [multiOf, hmj, if_neg (by decide)] at this
                        exact this
                      clear hmj
                      go_wp2
                      go_roundw
                      case rel => exact ⟨j + 1, by omega, by go_num, by rw [unhide HLen], by rw [unhide HC1], (unhide HB6).trans ((below_regrown _ _ _).mono (unhide HB6).size)⟩
                      case measure => simp [intOf]; omega
                    · have hmj' := hmj
                      unfold PV.multi at hmj'
                      have HC1 : Hid (cnt (multiOf g) (Script.head (archOf g) (goneOf g) k j) = cnt (multiOf g) (Script.head (archOf g) (goneOf g) k (j + 1))) := by
                        have := unhide HCn
                        rw [multiOf, hmj, if_pos rfl] at this
                        exact this
                      clear hmj
                      go_wp2
                      go_roundw
                      case rel => exact ⟨j + 1, by omega, by go_num, by rw [unhide HLen], by rw [unhide HC1], (unhide HB6).trans ((below_regrown _ _ _).mono (unhide HB6).size)⟩
                      case measure => simp [intOf]; omega
              · have hgn' := hgn
                unfold PV.gone at hgn'
                have HG := hide hgn
                clear hgn
                go_wp2_with (fail)
                have HE : Hid (Script.head (archOf g) (goneOf g) k (j + 1) = Script.head (archOf g) (goneOf g) k j) := by
                  show _ = _
                  rw [Script.head_succ, if_neg]
                  intro e
                  have := ((Script.lastOf_iff _ _ _ _).1 e).1
                  rw [goneOf, unhide HG] at this
                  cases this
                go_roundw
                case rel => exact ⟨j + 1, by omega, by go_num, by rw [unhide HE], by rw [unhide HE], unhide HB5⟩
                case measure => simp [intOf]; omega
            · have ej : j = k := by omega
              subst ej
              have HE : Hid (Script.head (archOf g) (goneOf g) j j = st (archOf g) (goneOf g) j) := Script.head_all _ _ _
              rw [unhide HE, ← unhide HL]
              have HB5 := hide hb
              clear hb
              go_wp2
              go_ret
              refine ⟨rfl, (unhide HBr).trans ((unhide HB5).mono (unhide HBr).size)⟩
  · go_wp2
    go_ret
    exact ⟨rfl, Below.refl _ _⟩
end Go.Proofs.Qxb6605467a.Put
