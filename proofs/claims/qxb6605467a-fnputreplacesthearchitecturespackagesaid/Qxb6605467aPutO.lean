/-
  THE WALK of FnPutReplacesTheArchitecturesPackage: it returns true at every input.
-/
import Derived.Test.Qxb6605467aPutN
import Derived.Test.Qxb6605467aPutB
import Derived.Lib.QuietBelow
namespace Go.Proofs.Qxb6605467a.Put
open Go.RowKit
open Go.Proofs.Qxb6605467a.Node (hide unhide bytes_ext)
open Go.Proofs.Qxb6605467a.Script (spotI putI st cnt keep)

/-- the box of a PkgB1 -/
def Boxed28 (w : World) (bp : Nat) (p : PV) : Prop := w.heap[bp]? = some (.cells p.cells.toArray 28 (0, 0))
theorem Boxed28.at {w : World} {bp : Nat} {p : PV} (h : Boxed28 w bp p) : p.at w bp 0 :=
  ⟨cell_of_row w bp 0 _ 28 (0, 0) h, cell_of_row w bp 1 _ 28 (0, 0) h, cell_of_row w bp 2 _ 28 (0, 0) h, cell_of_row w bp 3 _ 28 (0, 0) h, cell_of_row w bp 4 _ 28 (0, 0) h, cell_of_row w bp 5 _ 28 (0, 0) h⟩
theorem ret_bool {b : Bool} (h : b = true) : Ending.returned (.bool b) = .returned (.bool true) := by rw [h]
theorem own_drewN {w : World} {base : Nat} {e : TypeId} {size : Nat} {v : Value} {n : Nat} {xs : List Value} (h : w.ownsRow base e size v n xs) (k : Nat) : (w.drewN k).ownsRow base e size v n xs := h
/-- a round that keeps k -/
theorem keep_round {wz wr w' : World} {d : Nat} {o : Obj} (hb : Below wz.heap.size wz wr) (hg : ((wr.drewN d).alloc o).grownBy w' (some wz.heap.size)) : Below wz.heap.size wz w' := by
  refine (below_drewN hb d).trans (((Below.refl _ _).alloc (by have := hb.size; exact this) o).grown hg (by have := hb.size; simp; omega) (fun k e => by cases e; exact Nat.le_refl _))
theorem Boxed28.later {w w' : World} {bp : Nat} {p : PV} (h : Boxed28 w bp p) (hb : Below w.heap.size w w') : Boxed28 w' bp p := (hb.block bp (lt_of_block h)).trans h

set_option maxHeartbeats 3200000 in
set_option maxRecDepth 100000 in
theorem replace_walk (w : World) (pa : Option Addr) (m pc : Nat) (ns : Int) (g : Nat → PV) (hp : Pkgs w pa m g) (hn : pa = none → m = 0 ∧ pc = 0) (hnil : Nils g) (hm : m ≤ maxLen) (hpr : (g m).reads w) :
    Calls Try.prog 5 #[.slice pa m pc, .int .i64 ns, .agg #[.string (g m).s0, .string (g m).s1, .string (g m).s2, .string (g m).s3, .string (g m).s4, .slice (g m).ca (g m).cn (g m).cc]] w fun e w' => e = .returned (.bool true) ∧ Below w.heap.size w w' := by
  have HP := hide hp
  have HN := hide hn
  have HNil := hide hnil
  have HPR := hide hpr
  clear hp hn hnil hpr
  go_enter Try.func5, Try.ntmps5
  go_wp2_with (fail)
  obtain ⟨W, hW⟩ : ∃ W, W = w.alloc (Obj.cells #[.string (g m).s0, .string (g m).s1, .string (g m).s2, .string (g m).s3, .string (g m).s4, .slice (g m).ca (g m).cn (g m).cc] 28) := ⟨_, rfl⟩
  have HW : Hid (Below w.heap.size w W) := by rw [hW]; exact below_alloc _ _
  have HBx : Hid (Boxed28 W w.heap.size (g m)) := by show _ = _; rw [hW]; exact heap_alloc_new _ _
  have HPW := hide ((unhide HP).later (unhide HW))
  have HPRW : Hid ((g m).reads W) := ⟨(unhide HPR).1, (unhide HPR).2.later (unhide HW)⟩
  rw [← hW]
  clear hW HP HPR
  refine (zz5_any _ _ _ _ _ _ _ _ _ _ (unhide HPRW).1 (unhide HPRW).2 ns pa m pc g (unhide HPW) hm).mono ?_
  rintro e w1 ⟨⟨z, rfl, hz⟩, hb1⟩
  have HB1 := hide hb1
  clear hb1
  cases z
  · go_wp2
    go_ret
    exact ⟨rfl, (unhide HW).trans ((unhide HB1).mono (unhide HW).size)⟩
  have HC := hide (hz rfl)
  clear hz hm
  by_cases h4 : m ≤ 4096
  · obtain ⟨x0, x1, x2, x3, x4, x5⟩ := ((unhide HBx).later (unhide HB1)).at
    simp only [Nat.zero_add] at x0 x1 x2 x3 x4 x5
    go_wp2_with (fail)
    refine (bytes_any (g m) _ ⟨(unhide HPRW).1, (unhide HPRW).2.later (unhide HB1)⟩ pa m pc g ((unhide HPW).later (unhide HB1)) h4).mono ?_
    rintro e w2 ⟨⟨z, rfl⟩, hb2⟩
    have HB2 : Hid (Below W.heap.size W w2) := (unhide HB1).trans (hb2.mono (unhide HB1).size)
    clear hb2 x0 x1 x2 x3 x4 x5 HB1
    by_cases hz : 1048576 < z
    · go_wp2
      go_ret
      exact ⟨rfl, (unhide HW).trans ((unhide HB2).mono (unhide HW).size)⟩
    · go_wp2_with (fail)
      go_loopw [7, 8] (fun i _ wr => ∃ k : Nat, k ≤ m ∧ i = .int .i64 k ∧ (∀ a b, a < k → a < b → b < m → (g a).s2 ≠ (g b).s2) ∧ Below W.heap.size W wr) (fun i _ _ => m - (intOf i).toNat)
      case atStart => exact ⟨0, Nat.zero_le _, rfl, fun a b h => absurd h (Nat.not_lt_zero _), unhide HB2⟩
      case round =>
        obtain ⟨i, hi, rfl, hall, hb⟩ := hrel
        have HA := hide hall
        have HB3 := hide hb
        clear hall hb
        by_cases hlt : i < m
        · go_wp2_with (fail)
          go_loopw [8] (fun j w4 => ∃ t : Nat, t ≤ m ∧ i < t ∧ j = .int .i64 t ∧ (∀ b, i < b → b < t → (g i).s2 ≠ (g b).s2) ∧ Below W.heap.size W w4) (fun j _ => m - (intOf j).toNat)
          case atStart => exact ⟨i + 1, by omega, by omega, by go_num, fun b h1 h2 => absurd h2 (by omega), unhide HB3⟩
          case round =>
            obtain ⟨t, ht, hit, rfl, hall2, hb4⟩ := hrel
            have HA2 := hide hall2
            have HB4 := hide hb4
            clear hall2 hb4
            by_cases htm : t < m
            · obtain ⟨b, off, rfl, hci, _⟩ := ((unhide HPW).later (unhide HB4)) i hlt
              obtain ⟨b', off', e', hct, _⟩ := ((unhide HPW).later (unhide HB4)) t htm
              cases e'
              have c2 := hci.2.2.1
              have t2 := hct.2.2.1
              clear hci hct
              by_cases hs : (g i).s2 = (g t).s2
              · have hs' := beq_yes hs
                clear hs
                go_wp2_with (fail)
                go_quiet (fail)
                go_wp2
                go_ret
                exact ⟨rfl, below_drewN ((unhide HW).trans ((unhide HB4).mono (unhide HW).size)) _⟩
              · have hs' := beq_no hs
                have HS := hide hs
                clear hs
                go_wp2_with (fail)
                go_quiet (fail)
                go_wp2
                go_roundw
                case rel => exact ⟨t + 1, by omega, by omega, by go_num, fun u h1 h2 => (if e : u = t then by rw [e]; exact unhide HS else unhide HA2 u h1 (by omega)), below_drewN (unhide HB4) _⟩
                case measure => simp [intOf]; omega
            · go_wp2
              go_roundw
              case rel => exact ⟨i + 1, by omega, by go_num, fun a b h1 h2 h3 => (if e : a = i then by subst e; exact unhide HA2 b h2 (by omega) else unhide HA a b (by omega) h2 h3), unhide HB4⟩
              case measure => simp [intOf]; omega
        · have HD : Hid (∀ a b, a < b → b < m → archOf g a ≠ archOf g b) := fun a b h1 h2 e => unhide HA a b (by omega) h1 h2 (bytes_ext e)
          clear HA
          obtain ⟨wa, hwa⟩ : ∃ wa, wa = wr := ⟨_, rfl⟩
          subst hwa
          go_wp2_with (fail)
          refine (pkgs_any _ pa m pc g ((unhide HPW).later (unhide HB3)) (unhide HN) (unhide HNil) (unhide HC).2 h4).mono ?_
          rintro e w5 ⟨v, rfl, hh, hb5⟩
          obtain ⟨zs, hst, ho, h3⟩ := hh
          obtain ⟨oa, cap, hv, _⟩ := ho.form
          subst hv
          rw [List.length_map]
          have HS := hide hst
          have HO := hide ho
          have H3 := hide h3
          have HL : Hid (zs.length = m) := by show _ = _; have := congrArg List.length hst; simpa using this.symm
          have HB5 := hide hb5
          have HB5' : Hid (Below W.heap.size W w5) := (unhide HB3).trans (hb5.mono (unhide HB3).size)
          obtain ⟨x0, x1, x2, x3, x4, x5⟩ := ((unhide HBx).later (unhide HB5')).at
          simp only [Nat.zero_add] at x0 x1 x2 x3 x4 x5
          clear hb5 hst ho h3
          go_wp2_with (fail)
          refine (pkg_any (g m) _ ⟨unhide HNil m, (unhide HC).1, (unhide HPRW).2.later (unhide HB5')⟩).mono ?_
          rintro e w6 ⟨q, rfl, hq, hr6, ht6, hb6⟩
          have HQ := hide hq
          have HR6 := hide hr6
          have HT6 := hide ht6
          have HB6 := hide hb6
          clear hq hr6 ht6 hb6 x0 x1 x2 x3 x4 x5
          go_wp2_with (fail)
          refine (zzput_pairs wa.heap.size q zs w6 oa cap ns ((unhide HO).later (unhide HB6)) (by rw [unhide HL]; exact h4) (Nat.le_trans (unhide HB5).size (unhide HB6).size)).mono ?_
          rintro e wz ⟨v', rfl, ho', hk'⟩
          have HH : Hid (Has wz wa.heap.size g v' (putI (archOf g) (goneOf g) (List.range m) m)) := by
            rw [unhide HS]
            exact has_put ((unhide HO).later (unhide HB6)) (fun z hz => ⟨(unhide H3 z hz).1, later_ready (unhide H3 z hz).2.1 (unhide H3 z hz).2.2 (unhide HB6)⟩) (unhide HQ) (unhide HR6) (unhide HT6) ho' hk'
          have HBz : Hid (Below W.heap.size W wz) := by
            refine ((unhide HB5').trans ((unhide HB6).mono (unhide HB5').size)).trans (hk'.below (Nat.le_trans (unhide HB5').size (unhide HB6).size) (fun k e => ?_))
            obtain ⟨_, _, h⟩ := ((unhide HO).later (unhide HB6)).tagged e
            exact Nat.le_trans (unhide HB3).size h
          have HMv : Hid (wrap64 (putN (zs.map Prod.fst) q ns - ns) = cnt (multiOf g) (keep (archOf g) m m) + (if goneOf g m then 0 else if multiOf g m then 0 else 1) - cnt (multiOf g) (List.range m)) := by
            show _ = _
            rw [moved_count g zs q m ns (unhide HQ) (fun z hz => (unhide H3 z hz).1), ← unhide HS, Script.erase_keep _ _ (unhide HD)]
          generalize putN (zs.map Prod.fst) q ns = ns' at *
          rw [Script.put_keep _ _ _ (unhide HD)] at HH
          clear ho' hk' HO H3 HS HQ HR6 HT6 HB6 HB5 HB5' HL HB3 HB2 HD
          obtain ⟨ys, hst, ho, h3⟩ := unhide HH
          obtain ⟨ob, cp, hv, _⟩ := ho.form
          subst hv
          rw [List.length_map]
          have HS := hide hst
          have HO := hide ho
          have H3 := hide h3
          clear hst ho h3 HH
          obtain ⟨i3, hi3, hz0, hz1, hz2⟩ := info_parts Try.info3
          go_wp2_with (first | (at_make; refine wpList_make_own _ rfl _ _ 37 rfl wz.heap.size 3 i3 (.int .i64 0) 1 Try.underlying37 hi3 hz0 hz1 .i64 .i64 m m rfl rfl rfl (by rw [hz2]; omega) (by unfold maxLen; omega) (Nat.le_refl _) ?_) | fail)
          intro wk hown hgr
          have HOk := hide hown
          have HBk : Hid (Below wz.heap.size wz wk) := (Below.refl _ _).grown hgr (Nat.le_refl _) (fun _ h => by cases h)
          clear hown hgr
          go_wp2_with (fail)
          go_loopw [12, 13] (fun s i wr => ∃ k : Nat, k ≤ m ∧ i = .int .i64 k ∧ s = .slice (some ⟨wz.heap.size, 0, none⟩) (keep (archOf g) m k).length m ∧ wr.ownsRow wz.heap.size 3 1 (.slice (some ⟨wz.heap.size, 0, none⟩) (keep (archOf g) m k).length m) (keep (archOf g) m k).length (ints (keep (archOf g) m k)) ∧ Below wz.heap.size wz wr) (fun _ i _ => m - (intOf i).toNat)
          case atStart => exact ⟨0, Nat.zero_le _, rfl, rfl, unhide HOk, unhide HBk⟩
          case round =>
            obtain ⟨k, hk, rfl, rfl, hown, hb⟩ := hrel
            have HOk := hide hown
            have HBk := hide hb
            have hkl := Script.keep_le (archOf g) m k
            clear hown hb
            by_cases hltk : k < m
            · obtain ⟨b, off, rfl, hcl, _⟩ := (((unhide HPW).later (unhide HBz)).later (unhide HBk)) k hltk
              have c2 := hcl.2.2.1
              have x2 := ((((unhide HBx).later (unhide HBz)).later (unhide HBk)).at).2.2.1
              rw [Nat.zero_add] at x2
              clear hcl
              by_cases hs : (g k).s2 = (g m).s2
              · have hs' := beq_yes hs
                have HS2 := hide hs
                clear hs
                go_wp2_with (fail)
                go_quiet (fail)
                go_wp2
                have HE : Hid (keep (archOf g) m (k + 1) = keep (archOf g) m k) := Script.keep_no _ _ _ (by rw [archOf, archOf, unhide HS2])
                go_roundw
                case rel => exact ⟨k + 1, by omega, by go_num, by rw [unhide HE], by rw [unhide HE]; exact own_drewN (unhide HOk) _, below_drewN (unhide HBk) _⟩
                case measure => simp [intOf]; omega
              · have hs' := beq_no hs
                have HS2 := hide hs
                clear hs
                go_wp2_with (fail)
                go_quiet (fail)
                go_wp2_with (first | (at_builtin; refine wpList_append_fits _ rfl (.tmp 85) (.tmp 87) 37 rfl wz.heap.size 3 i3 1 Try.underlying37 hi3 hz1 wz.heap.size (keep (archOf g) m k).length m (ints (keep (archOf g) m k)) rfl (World.ownsRow.alloc (own_drewN (unhide HOk) _) _) ⟨wr.heap.size, 0, none⟩ 1 1 [.int .i64 k] rfl rfl (cell_one_new _ _ _) (by intro u hu; simp at hu; subst hu; rfl) (by omega) ?_) | fail)
                intro w' hown' hgr'
                have HO' := hide hown'
                have HB' := hide (keep_round (unhide HBk) hgr')
                clear hown' hgr'
                have HE : Hid (keep (archOf g) m (k + 1) = keep (archOf g) m k ++ [k]) := Script.keep_yes _ _ _ (fun e => unhide HS2 (bytes_ext e))
                have HE2 : Hid ((keep (archOf g) m (k + 1)).length = (keep (archOf g) m k).length + 1) := by show _ = _; rw [unhide HE]; simp
                have HE3 : Hid (ints (keep (archOf g) m (k + 1)) = ints (keep (archOf g) m k) ++ [.int .i64 k]) := by show _ = _; rw [unhide HE]; simp [ints]
                go_wp2
                go_roundw
                case rel => exact ⟨k + 1, by omega, by go_num, by rw [unhide HE2], by rw [unhide HE2, unhide HE3]; exact unhide HO', unhide HB'⟩
                case measure => simp [intOf]; omega
            · have ek : k = m := by omega
              subst ek
              obtain ⟨wt, hwt⟩ : ∃ wt, wt = wr := ⟨_, rfl⟩
              subst hwt
              have HBt : Hid (Below W.heap.size W wt) := (unhide HBz).trans ((unhide HBk).mono (unhide HBz).size)
              have HKc : Hid (∀ t, t < (keep (archOf g) k k).length → wt.cell? ⟨wz.heap.size, t, none⟩ = some (.int .i64 (((keep (archOf g) k k).getD t 0 : Nat) : Int))) := fun t ht => by
                rw [(unhide HOk).cellAt t (by omega), ints_get _ _ ht]
              have HKl : Hid (∀ t, t < (keep (archOf g) k k).length → (keep (archOf g) k k).getD t 0 < k) := fun t ht => by
                rw [List.getD_eq_getElem?_getD, List.getElem?_eq_getElem ht]
                exact Script.keep_lt (archOf g) k k _ (List.getElem_mem ht)
              have HOt := hide ((unhide HO).later (unhide HBk))
              have H3t : Hid (∀ z ∈ ys, z.1.like (g z.2) ∧ z.1.ready wt ∧ z.1.tag wt) := fun z hz => ⟨(unhide H3 z hz).1, later_ready (unhide H3 z hz).2.1 (unhide H3 z hz).2.2 (unhide HBk)⟩
              clear HO H3 HOk HBk HBz
              obtain ⟨x0, x1, x2, x3, x4, x5⟩ := ((unhide HBx).later (unhide HBt)).at
              simp only [Nat.zero_add] at x0 x1 x2 x3 x4 x5
              cases hg : (g k).gone
              · have hg' := hg
                unfold PV.gone at hg'
                have HG := hide hg
                have HYS : Hid (ys.map Prod.snd = keep (archOf g) k k ++ [k]) := by
                  show _ = _
                  rw [← unhide HS, goneOf, hg, if_neg (by decide)]
                have HYL : Hid (ys.length = (keep (archOf g) k k).length + 1) := by show _ = _; have := congrArg List.length (unhide HYS); simpa using this
                have hyl : ((ys.length : Int) != (((keep (archOf g) k k).length : Int) + 1)) = false := by rw [unhide HYL]; simp
                clear hg
                go_wp2_with (fail)
                go_loopw [16] (fun i wr => ∃ t : Nat, t ≤ (keep (archOf g) k k).length ∧ i = .int .i64 t ∧ Below wt.heap.size wt wr) (fun i _ => (keep (archOf g) k k).length - (intOf i).toNat)
                case atStart => exact ⟨0, Nat.zero_le _, rfl, Below.refl _ _⟩
                case round =>
                  obtain ⟨t, ht, rfl, hb⟩ := hrel
                  have HB7 := hide hb
                  have hkl := Script.keep_le (archOf g) k k
                  clear hb
                  by_cases htl : t < (keep (archOf g) k k).length
                  · obtain ⟨j, hj⟩ : ∃ j, j = (keep (archOf g) k k).getD t 0 := ⟨_, rfl⟩
                    have hjk : j < k := by rw [hj]; exact unhide HKl t htl
                    have kc : wr.cell? ⟨wz.heap.size, t, none⟩ = some (.int .i64 (j : Int)) := by
                      rw [hj, ← unhide HKc t htl]
                      exact (unhide HB7).cell (block_lt_of_cell (unhide HKc t htl))
                    obtain ⟨p, bq, oq, rfl, hat, hlk, hrp⟩ := built_at (g := g) (t := t) (j := j) ((unhide HOt).later (unhide HB7)) (fun z hz => ⟨(unhide H3t z hz).1, later_ready (unhide H3t z hz).2.1 (unhide H3t z hz).2.2 (unhide HB7)⟩) (by rw [unhide HYL]; omega) (by rw [unhide HYS, getD_append_left _ _ _ htl, hj])
                    obtain ⟨b, off, rfl, hcj, hrj⟩ := (((unhide HPW).later (unhide HBt)).later (unhide HB7)) j hjk
                    have HLK := hide hlk
                    have HRP := hide hrp
                    have HRJ := hide hrj
                    have k7 := cell_regrown kc
                    have e0 := cell_regrown hat.1
                    have e1 := cell_regrown hat.2.1
                    have e2 := cell_regrown hat.2.2.1
                    have e3 := cell_regrown hat.2.2.2.1
                    have e4 := cell_regrown hat.2.2.2.2.1
                    have e5 := cell_regrown hat.2.2.2.2.2
                    have k0 := cell_regrown hcj.1
                    have k1 := cell_regrown hcj.2.1
                    have k2 := cell_regrown hcj.2.2.1
                    have k3 := cell_regrown hcj.2.2.2.1
                    have k4 := cell_regrown hcj.2.2.2.2.1
                    have k5 := cell_regrown hcj.2.2.2.2.2
                    have hq1 : (t : Int) < (ys.length : Int) := by rw [unhide HYL]; omega
                    have hq2 : (t : Int) < ((keep (archOf g) k k).length : Int) := by omega
                    have hq3 : (j : Int) < (k : Int) := by omega
                    clear hj kc hat hlk hrp hcj hrj x0 x1 x2 x3 x4 x5
                    go_wp2_with (fail)
                    refine wp_region_quiet_below (by kernel_rfl) (by kernel_rfl) ?_
                    repeat (go_big_quiet_step ((go_at_call 17; exact Calls.regrown_of (same_any p (g j) _ (unhide HLK) (by have := (unhide HRP).2.1; unfold maxLen; omega) ((unhide HRP).2.2.later (below_regrown _ _ _)) ((unhide HRJ).2.later (below_regrown _ _ _))))))
                    refine wpQuiet_nil ?_
                    intro _ hw'
                    obtain ⟨⟨dq, osq⟩, hw''⟩ := hw'
                    subst hw''
                    go_wp2
                    go_roundw
                    case rel => exact ⟨t + 1, by omega, by go_num, (unhide HB7).trans ((below_regrown _ _ _).mono (unhide HB7).size)⟩
                    case measure => simp [intOf]; omega
                  · have etl : t = (keep (archOf g) k k).length := by omega
                    subst etl
                    obtain ⟨p, bq, oq, rfl, hat, hlk, hrp⟩ := built_at (g := g) (t := (keep (archOf g) k k).length) (j := k) ((unhide HOt).later (unhide HB7)) (fun z hz => ⟨(unhide H3t z hz).1, later_ready (unhide H3t z hz).2.1 (unhide H3t z hz).2.2 (unhide HB7)⟩) (by rw [unhide HYL]; omega) (by rw [unhide HYS]; simp)
                    have HLK := hide hlk
                    have HRP := hide hrp
                    have HRJ : Hid (Strs wr (g k).ca (g k).cn (g k).cf) := ((unhide HPRW).2.later (unhide HBt)).later (unhide HB7)
                    obtain ⟨x0, x1, x2, x3, x4, x5⟩ := (((unhide HBx).later (unhide HBt)).later (unhide HB7)).at
                    simp only [Nat.zero_add] at x0 x1 x2 x3 x4 x5
                    have e0 := cell_regrown hat.1
                    have e1 := cell_regrown hat.2.1
                    have e2 := cell_regrown hat.2.2.1
                    have e3 := cell_regrown hat.2.2.2.1
                    have e4 := cell_regrown hat.2.2.2.2.1
                    have e5 := cell_regrown hat.2.2.2.2.2
                    have k0 := cell_regrown x0
                    have k1 := cell_regrown x1
                    have k2 := cell_regrown x2
                    have k3 := cell_regrown x3
                    have k4 := cell_regrown x4
                    have k5 := cell_regrown x5
                    have hq1 : ((keep (archOf g) k k).length : Int) < (ys.length : Int) := by rw [unhide HYL]; omega
                    clear hat hlk hrp x0 x1 x2 x3 x4 x5
                    go_wp2_with (fail)
                    refine wp_region_quiet_below (by kernel_rfl) (by kernel_rfl) ?_
                    repeat (go_big_quiet_step ((go_at_call 17; exact Calls.regrown_of (same_any p (g k) _ (unhide HLK) (by have := (unhide HRP).2.1; unfold maxLen; omega) ((unhide HRP).2.2.later (below_regrown _ _ _)) ((unhide HRJ).later (below_regrown _ _ _))))))
                    refine wpQuiet_nil ?_
                    intro _ hw'
                    obtain ⟨⟨dq, osq⟩, hw''⟩ := hw'
                    have HB8 : Hid (Below wt.heap.size wt (Sort.grow (redrawn wr dq) osq)) := (unhide HB7).trans ((below_regrown _ _ _).mono (unhide HB7).size)
                    rw [← hw''] at HB8
                    clear hw'' e0 e1 e2 e3 e4 e5 k0 k1 k2 k3 k4 k5 hq1
                    go_wp2_with (fail)
                    go_loopw [17, 18] (fun c i w9 => ∃ t : Nat, t ≤ k ∧ i = .int .i64 t ∧ c = .int .i64 (cnt (multiOf g) (List.range t)) ∧ Below wt.heap.size wt w9) (fun _ i _ => k - (intOf i).toNat)
                    case atStart => exact ⟨0, Nat.zero_le _, rfl, rfl, unhide HB8⟩
                    case round =>
                      obtain ⟨t, htk, rfl, rfl, hb9⟩ := hrel
                      have HB9 := hide hb9
                      clear hb9
                      have hc0 := Script.cnt_nonneg (multiOf g) (List.range t)
                      have hc1 : cnt (multiOf g) (List.range t) ≤ (t : Int) := by have := Script.cnt_le (multiOf g) (List.range t); simpa using this
                      by_cases htl : t < k
                      · obtain ⟨b, off, rfl, hcj, _⟩ := (((unhide HPW).later (unhide HBt)).later (unhide HB9)) t htl
                        have c4 := hcj.2.2.2.2.1
                        clear hcj
                        cases hmt : (g t).multi
                        · have hmt' := hmt
                          unfold PV.multi at hmt'
                          have HE : Hid (cnt (multiOf g) (List.range (t + 1)) = cnt (multiOf g) (List.range t) + 1) := by
                            show _ = _
                            rw [Script.cnt_range_succ, multiOf, hmt, if_neg (by decide)]
                          clear hmt
                          go_wp2
                          go_roundw
                          case rel => exact ⟨t + 1, by omega, by go_num, by rw [unhide HE], unhide HB9⟩
                          case measure => simp [intOf]; omega
                        · have hmt' := hmt
                          unfold PV.multi at hmt'
                          have HE : Hid (cnt (multiOf g) (List.range (t + 1)) = cnt (multiOf g) (List.range t)) := by
                            show _ = _
                            rw [Script.cnt_range_succ, multiOf, hmt, if_pos rfl]
                            omega
                          clear hmt
                          go_wp2
                          go_roundw
                          case rel => exact ⟨t + 1, by omega, by go_num, by rw [unhide HE], unhide HB9⟩
                          case measure => simp [intOf]; omega
                      · have et : t = k := by omega
                        subst et
                        go_wp2_with (fail)
                        go_loopw [19, 20] (fun c i w10 => ∃ u : Nat, u ≤ (keep (archOf g) t t).length ∧ i = .int .i64 u ∧ c = .int .i64 (cnt (multiOf g) ((keep (archOf g) t t).take u)) ∧ Below wt.heap.size wt w10) (fun _ i _ => (keep (archOf g) t t).length - (intOf i).toNat)
                        case atStart => exact ⟨0, Nat.zero_le _, rfl, rfl, unhide HB9⟩
                        case round =>
                          obtain ⟨u, hul, rfl, rfl, hb10⟩ := hrel
                          have HB10 := hide hb10
                          clear hb10
                          have hd0 := Script.cnt_nonneg (multiOf g) ((keep (archOf g) t t).take u)
                          have hd1 : cnt (multiOf g) ((keep (archOf g) t t).take u) ≤ (u : Int) := by
                            have := Script.cnt_le (multiOf g) ((keep (archOf g) t t).take u)
                            rw [List.length_take] at this
                            omega
                          by_cases hu : u < (keep (archOf g) t t).length
                          · obtain ⟨j, hj⟩ : ∃ j, j = (keep (archOf g) t t).getD u 0 := ⟨_, rfl⟩
                            have hjk : j < t := by rw [hj]; exact unhide HKl u hu
                            have kc : wr.cell? ⟨wz.heap.size, u, none⟩ = some (.int .i64 (j : Int)) := by
                              rw [hj, ← unhide HKc u hu]
                              exact (unhide HB10).cell (block_lt_of_cell (unhide HKc u hu))
                            obtain ⟨b, off, rfl, hcj, _⟩ := (((unhide HPW).later (unhide HBt)).later (unhide HB10)) j hjk
                            have c4 := hcj.2.2.2.2.1
                            have hq2 : (u : Int) < ((keep (archOf g) t t).length : Int) := by omega
                            have hq3 : (j : Int) < (t : Int) := by omega
                            clear hcj
                            have HJ := hide hj
                            clear hj
                            cases hmt : (g j).multi
                            · have hmt' := hmt
                              unfold PV.multi at hmt'
                              have HE : Hid (cnt (multiOf g) ((keep (archOf g) t t).take (u + 1)) = cnt (multiOf g) ((keep (archOf g) t t).take u) + 1) := by
                                show _ = _
                                rw [Script.cnt_take_succ _ _ _ hu, ← unhide HJ, multiOf, hmt, if_neg (by decide)]
                              clear hmt
                              go_wp2
                              go_roundw
                              case rel => exact ⟨u + 1, by omega, by go_num, by rw [unhide HE], unhide HB10⟩
                              case measure => simp [intOf]; omega
                            · have hmt' := hmt
                              unfold PV.multi at hmt'
                              have HE : Hid (cnt (multiOf g) ((keep (archOf g) t t).take (u + 1)) = cnt (multiOf g) ((keep (archOf g) t t).take u)) := by
                                show _ = _
                                rw [Script.cnt_take_succ _ _ _ hu, ← unhide HJ, multiOf, hmt, if_pos rfl]
                                omega
                              clear hmt
                              go_wp2
                              go_roundw
                              case rel => exact ⟨u + 1, by omega, by go_num, by rw [unhide HE], unhide HB10⟩
                              case measure => simp [intOf]; omega
                          · have HE : Hid (cnt (multiOf g) ((keep (archOf g) t t).take u) = cnt (multiOf g) (keep (archOf g) t t)) := by
                              show _ = _
                              rw [List.take_of_length_le (by omega)]
                            have x4 := ((((unhide HBx).later (unhide HBt)).later (unhide HB10)).at).2.2.2.2.1
                            rw [Nat.zero_add] at x4
                            rw [unhide HE] at hd0 hd1
                            rw [unhide HE]
                            have HF : Hid (Below w.heap.size w wr) := ((unhide HW).trans ((unhide HBt).mono (unhide HW).size)).trans ((unhide HB10).mono (Nat.le_trans (unhide HW).size (unhide HBt).size))
                            cases hmt : (g t).multi
                            · have hmt' := hmt
                              unfold PV.multi at hmt'
                              have HM2 : Hid ((wrap64 (ns' - ns) == cnt (multiOf g) (keep (archOf g) t t) + 1 - cnt (multiOf g) (List.range t)) = true) := by
                                show _ = _
                                rw [unhide HMv, goneOf, unhide HG, if_neg (by decide), multiOf, hmt, if_neg (by decide)]
                                exact beq_self_eq_true _
                              clear hmt
                              go_wp2
                              go_ret
                              exact ⟨ret_bool (unhide HM2), unhide HF⟩
                            · have hmt' := hmt
                              unfold PV.multi at hmt'
                              have HM2 : Hid ((wrap64 (ns' - ns) == cnt (multiOf g) (keep (archOf g) t t) - cnt (multiOf g) (List.range t)) = true) := by
                                show _ = _
                                rw [unhide HMv, goneOf, unhide HG, if_neg (by decide), multiOf, hmt, if_pos rfl, Int.add_zero]
                                exact beq_self_eq_true _
                              clear hmt
                              go_wp2
                              go_ret
                              exact ⟨ret_bool (unhide HM2), unhide HF⟩
              · have hg' := hg
                unfold PV.gone at hg'
                have HG := hide hg
                have HYS : Hid (ys.map Prod.snd = keep (archOf g) k k) := by
                  show _ = _
                  rw [← unhide HS, goneOf, hg, if_pos rfl]
                have HYL : Hid (ys.length = (keep (archOf g) k k).length) := by show _ = _; have := congrArg List.length (unhide HYS); simpa using this
                have hyl : ((ys.length : Int) != ((keep (archOf g) k k).length : Int)) = false := by rw [unhide HYL]; simp
                clear hg
                go_wp2_with (fail)
                go_loopw [16] (fun i wr => ∃ t : Nat, t ≤ (keep (archOf g) k k).length ∧ i = .int .i64 t ∧ Below wt.heap.size wt wr) (fun i _ => (keep (archOf g) k k).length - (intOf i).toNat)
                case atStart => exact ⟨0, Nat.zero_le _, rfl, Below.refl _ _⟩
                case round =>
                  obtain ⟨t, ht, rfl, hb⟩ := hrel
                  have HB7 := hide hb
                  have hkl := Script.keep_le (archOf g) k k
                  clear hb
                  by_cases htl : t < (keep (archOf g) k k).length
                  · obtain ⟨j, hj⟩ : ∃ j, j = (keep (archOf g) k k).getD t 0 := ⟨_, rfl⟩
                    have hjk : j < k := by rw [hj]; exact unhide HKl t htl
                    have kc : wr.cell? ⟨wz.heap.size, t, none⟩ = some (.int .i64 (j : Int)) := by
                      rw [hj, ← unhide HKc t htl]
                      exact (unhide HB7).cell (block_lt_of_cell (unhide HKc t htl))
                    obtain ⟨p, bq, oq, rfl, hat, hlk, hrp⟩ := built_at (g := g) (t := t) (j := j) ((unhide HOt).later (unhide HB7)) (fun z hz => ⟨(unhide H3t z hz).1, later_ready (unhide H3t z hz).2.1 (unhide H3t z hz).2.2 (unhide HB7)⟩) (by rw [unhide HYL]; exact htl) (by rw [unhide HYS, hj])
                    obtain ⟨b, off, rfl, hcj, hrj⟩ := (((unhide HPW).later (unhide HBt)).later (unhide HB7)) j hjk
                    have HLK := hide hlk
                    have HRP := hide hrp
                    have HRJ := hide hrj
                    have k7 := cell_regrown kc
                    have e0 := cell_regrown hat.1
                    have e1 := cell_regrown hat.2.1
                    have e2 := cell_regrown hat.2.2.1
                    have e3 := cell_regrown hat.2.2.2.1
                    have e4 := cell_regrown hat.2.2.2.2.1
                    have e5 := cell_regrown hat.2.2.2.2.2
                    have k0 := cell_regrown hcj.1
                    have k1 := cell_regrown hcj.2.1
                    have k2 := cell_regrown hcj.2.2.1
                    have k3 := cell_regrown hcj.2.2.2.1
                    have k4 := cell_regrown hcj.2.2.2.2.1
                    have k5 := cell_regrown hcj.2.2.2.2.2
                    have hq1 : (t : Int) < (ys.length : Int) := by rw [unhide HYL]; omega
                    have hq2 : (t : Int) < ((keep (archOf g) k k).length : Int) := by omega
                    have hq3 : (j : Int) < (k : Int) := by omega
                    clear hj kc hat hlk hrp hcj hrj x0 x1 x2 x3 x4 x5
                    go_wp2_with (fail)
                    refine wp_region_quiet_below (by kernel_rfl) (by kernel_rfl) ?_
                    repeat (go_big_quiet_step ((go_at_call 17; exact Calls.regrown_of (same_any p (g j) _ (unhide HLK) (by have := (unhide HRP).2.1; unfold maxLen; omega) ((unhide HRP).2.2.later (below_regrown _ _ _)) ((unhide HRJ).2.later (below_regrown _ _ _))))))
                    refine wpQuiet_nil ?_
                    intro _ hw'
                    obtain ⟨⟨dq, osq⟩, hw''⟩ := hw'
                    subst hw''
                    go_wp2
                    go_roundw
                    case rel => exact ⟨t + 1, by omega, by go_num, (unhide HB7).trans ((below_regrown _ _ _).mono (unhide HB7).size)⟩
                    case measure => simp [intOf]; omega
                  · have etl : t = (keep (archOf g) k k).length := by omega
                    subst etl
                    go_wp2_with (fail)
                    refine wp_region_quiet_below (by kernel_rfl) (by kernel_rfl) ?_
                    repeat (go_big_quiet_step (fail))
                    refine wpQuiet_nil ?_
                    intro _ hw'
                    obtain ⟨⟨dq, osq⟩, hw''⟩ := hw'
                    have HB8 : Hid (Below wt.heap.size wt (Sort.grow (redrawn wr dq) osq)) := (unhide HB7).trans ((below_regrown _ _ _).mono (unhide HB7).size)
                    rw [← hw''] at HB8
                    clear hw''
                    go_wp2_with (fail)
                    go_loopw [17, 18] (fun c i w9 => ∃ t : Nat, t ≤ k ∧ i = .int .i64 t ∧ c = .int .i64 (cnt (multiOf g) (List.range t)) ∧ Below wt.heap.size wt w9) (fun _ i _ => k - (intOf i).toNat)
                    case atStart => exact ⟨0, Nat.zero_le _, rfl, rfl, unhide HB8⟩
                    case round =>
                      obtain ⟨t, htk, rfl, rfl, hb9⟩ := hrel
                      have HB9 := hide hb9
                      clear hb9
                      have hc0 := Script.cnt_nonneg (multiOf g) (List.range t)
                      have hc1 : cnt (multiOf g) (List.range t) ≤ (t : Int) := by have := Script.cnt_le (multiOf g) (List.range t); simpa using this
                      by_cases htl : t < k
                      · obtain ⟨b, off, rfl, hcj, _⟩ := (((unhide HPW).later (unhide HBt)).later (unhide HB9)) t htl
                        have c4 := hcj.2.2.2.2.1
                        clear hcj
                        cases hmt : (g t).multi
                        · have hmt' := hmt
                          unfold PV.multi at hmt'
                          have HE : Hid (cnt (multiOf g) (List.range (t + 1)) = cnt (multiOf g) (List.range t) + 1) := by
                            show _ = _
                            rw [Script.cnt_range_succ, multiOf, hmt, if_neg (by decide)]
                          clear hmt
                          go_wp2
                          go_roundw
                          case rel => exact ⟨t + 1, by omega, by go_num, by rw [unhide HE], unhide HB9⟩
                          case measure => simp [intOf]; omega
                        · have hmt' := hmt
                          unfold PV.multi at hmt'
                          have HE : Hid (cnt (multiOf g) (List.range (t + 1)) = cnt (multiOf g) (List.range t)) := by
                            show _ = _
                            rw [Script.cnt_range_succ, multiOf, hmt, if_pos rfl]
                            omega
                          clear hmt
                          go_wp2
                          go_roundw
                          case rel => exact ⟨t + 1, by omega, by go_num, by rw [unhide HE], unhide HB9⟩
                          case measure => simp [intOf]; omega
                      · have et : t = k := by omega
                        subst et
                        go_wp2_with (fail)
                        go_loopw [19, 20] (fun c i w10 => ∃ u : Nat, u ≤ (keep (archOf g) t t).length ∧ i = .int .i64 u ∧ c = .int .i64 (cnt (multiOf g) ((keep (archOf g) t t).take u)) ∧ Below wt.heap.size wt w10) (fun _ i _ => (keep (archOf g) t t).length - (intOf i).toNat)
                        case atStart => exact ⟨0, Nat.zero_le _, rfl, rfl, unhide HB9⟩
                        case round =>
                          obtain ⟨u, hul, rfl, rfl, hb10⟩ := hrel
                          have HB10 := hide hb10
                          clear hb10
                          have hd0 := Script.cnt_nonneg (multiOf g) ((keep (archOf g) t t).take u)
                          have hd1 : cnt (multiOf g) ((keep (archOf g) t t).take u) ≤ (u : Int) := by
                            have := Script.cnt_le (multiOf g) ((keep (archOf g) t t).take u)
                            rw [List.length_take] at this
                            omega
                          by_cases hu : u < (keep (archOf g) t t).length
                          · obtain ⟨j, hj⟩ : ∃ j, j = (keep (archOf g) t t).getD u 0 := ⟨_, rfl⟩
                            have hjk : j < t := by rw [hj]; exact unhide HKl u hu
                            have kc : wr.cell? ⟨wz.heap.size, u, none⟩ = some (.int .i64 (j : Int)) := by
                              rw [hj, ← unhide HKc u hu]
                              exact (unhide HB10).cell (block_lt_of_cell (unhide HKc u hu))
                            obtain ⟨b, off, rfl, hcj, _⟩ := (((unhide HPW).later (unhide HBt)).later (unhide HB10)) j hjk
                            have c4 := hcj.2.2.2.2.1
                            have hq2 : (u : Int) < ((keep (archOf g) t t).length : Int) := by omega
                            have hq3 : (j : Int) < (t : Int) := by omega
                            clear hcj
                            have HJ := hide hj
                            clear hj
                            cases hmt : (g j).multi
                            · have hmt' := hmt
                              unfold PV.multi at hmt'
                              have HE : Hid (cnt (multiOf g) ((keep (archOf g) t t).take (u + 1)) = cnt (multiOf g) ((keep (archOf g) t t).take u) + 1) := by
                                show _ = _
                                rw [Script.cnt_take_succ _ _ _ hu, ← unhide HJ, multiOf, hmt, if_neg (by decide)]
                              clear hmt
                              go_wp2
                              go_roundw
                              case rel => exact ⟨u + 1, by omega, by go_num, by rw [unhide HE], unhide HB10⟩
                              case measure => simp [intOf]; omega
                            · have hmt' := hmt
                              unfold PV.multi at hmt'
                              have HE : Hid (cnt (multiOf g) ((keep (archOf g) t t).take (u + 1)) = cnt (multiOf g) ((keep (archOf g) t t).take u)) := by
                                show _ = _
                                rw [Script.cnt_take_succ _ _ _ hu, ← unhide HJ, multiOf, hmt, if_pos rfl]
                                omega
                              clear hmt
                              go_wp2
                              go_roundw
                              case rel => exact ⟨u + 1, by omega, by go_num, by rw [unhide HE], unhide HB10⟩
                              case measure => simp [intOf]; omega
                          · have HE : Hid (cnt (multiOf g) ((keep (archOf g) t t).take u) = cnt (multiOf g) (keep (archOf g) t t)) := by
                              show _ = _
                              rw [List.take_of_length_le (by omega)]
                            have x4 := ((((unhide HBx).later (unhide HBt)).later (unhide HB10)).at).2.2.2.2.1
                            rw [Nat.zero_add] at x4
                            rw [unhide HE] at hd0 hd1
                            rw [unhide HE]
                            have HF : Hid (Below w.heap.size w wr) := ((unhide HW).trans ((unhide HBt).mono (unhide HW).size)).trans ((unhide HB10).mono (Nat.le_trans (unhide HW).size (unhide HBt).size))
                            have HM2 : Hid ((wrap64 (ns' - ns) == cnt (multiOf g) (keep (archOf g) t t) - cnt (multiOf g) (List.range t)) = true) := by
                              show _ = _
                              rw [unhide HMv, goneOf, unhide HG, if_pos rfl, Int.add_zero]
                              exact beq_self_eq_true _
                            go_wp2
                            go_ret
                            exact ⟨ret_bool (unhide HM2), unhide HF⟩
  · go_wp2
    go_ret
    exact ⟨rfl, (unhide HW).trans ((unhide HB1).mono (unhide HW).size)⟩
end Go.Proofs.Qxb6605467a.Put
