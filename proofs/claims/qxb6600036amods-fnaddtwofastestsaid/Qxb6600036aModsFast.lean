/-
  THE WALK OF FnAddTwoFastest (function 3). (An AI prover, Nov 15 2026.)
-/
import Derived.Test.Qxb6600036aModsCols
namespace Go.Proofs.Qxb6600036aMods.Hold
open Go.ChangeShapes Go.WideShapes Go.ChangeAt Go.RowKit Go.Proofs.Qxb6600036aMods.Plain

attribute [local go_sem] run_store_float

theorem fast_long (ao : Option Addr) (len cap : Nat) (rs : Nat → Run) (W : World) (hm : len ≤ maxLen) (hr : RunsIn W ao len rs) (h16 : ¬ len ≤ 65536) :
    Calls Trym.prog 3 #[.slice ao len cap] W fun e w' => e = .returned (.bool true) ∧ w' = W := by
  go_enter Trym.func3, Trym.ntmps3
  go_wp2_with fail
  refine (bytes6_any ao len cap rs _ hm hr).mono ?_
  rintro e W ⟨⟨b, rfl⟩, rfl⟩
  cases b
  all_goals
    go_wp2
    go_ret
    exact ⟨rfl, rfl⟩

set_option maxRecDepth 100000 in
set_option maxHeartbeats 4000000 in
theorem fast_core (ao : Option Addr) (len cap : Nat) (rs : Nat → Run) (W : World) (hm : len ≤ maxLen) (hnil : ao = none → len = 0 ∧ cap = 0) (hr : RunsIn W ao len rs) (h16 : len ≤ 65536) :
    Calls Trym.prog 3 #[.slice ao len cap] W fun e w' => e = .returned (.bool true) ∧ Below W.heap.size W w' := by
  have hd1 : decide ((65536 : Int) < (len : Int)) = false := decide_eq_false (by omega)
  go_enter Trym.func3, Trym.ntmps3
  go_wp2_with fail
  refine (bytes6_any ao len cap rs _ hm hr).mono ?_
  rintro e W ⟨⟨b, rfl⟩, rfl⟩
  cases b
  · go_wp2
    go_ret
    exact ⟨rfl, Below.refl _ _⟩
  go_wp2
  go_loop [3, 4] (fun tz ti => ∃ (x : Int) (k : Nat), k ≤ len ∧ tz = .int .i64 x ∧ ti = .int .i64 k ∧ ∀ j, j < k → (rs j).l ≤ 131072) (fun _ ti => len - (intOf ti).toNat)
  case atStart => exact ⟨_, 0, by omega, rfl, rfl, fun j hj => absurd hj (by omega)⟩
  case round =>
    obtain ⟨x, k, hk, rfl, rfl, hall⟩ := hrel
    have HALL := hide hall
    clear hall
    by_cases hlt : k < len
    · obtain ⟨b, off, rfl, hc⟩ := hr.resolve_left (by omega)
      have hck := (hc k hlt).1
      clear hc
      by_cases hbig : (rs k).l ≤ 131072
      · have HBIG := hide hbig
        generalize hlk : (rs k).l = lk at hck hbig
        have HLK := hide hlk
        clear hlk
        generalize (rs k).co = co at hck
        generalize (rs k).c = c at hck
        go_wp2
        all_goals first
          | (go_ret; exact ⟨rfl, Below.refl _ _⟩)
          | skip
        all_goals
          go_round
          case rel =>
            refine ⟨_, k + 1, by omega, rfl, by go_num, fun j hj => ?_⟩
            rcases (by omega : j < k ∨ j = k) with h | h
            · exact unhide HALL j h
            · rw [h]; exact unhide HBIG
          case measure => simp [intOf]; omega
      · generalize (rs k).l = lk at hck hbig
        generalize (rs k).co = co at hck
        generalize (rs k).c = c at hck
        go_wp2
        go_ret
        exact ⟨rfl, Below.refl _ _⟩
    · obtain rfl : k = len := by omega
      go_wp2_with fail
      refine (clones_any ao k cap rs W hnil h16 hr (unhide HALL)).mono ?_
      rintro e w1 ⟨ao', rfl, hb1, hR1⟩
      have hrl : ((List.range k).map fun j => (rs j).row).length = k := by simp
      have hrb : ∀ j, j < k → (((List.range k).map fun j => (rs j).row).getD j []).length ≤ 131072 := fun j hj => by
        rw [rows_get k rs j hj]
        unfold Run.row
        have := unhide HALL j hj
        rw [List.length_take]
        omega
      generalize ((List.range k).map fun j => (rs j).row) = rows at *
      have HRL := hide hrl
      have HRB := hide hrb
      have HB1 := hide hb1
      have HR1 := hide hR1
      clear hrl hrb hb1 hR1 HALL hr hnil
      go_wp2
      go_loop [5, 6] (fun tp ti => ∃ P i : Nat, i ≤ k ∧ P ≤ 131072 ∧ tp = .int .i64 P ∧ ti = .int .i64 i ∧ ∀ j, j < i → (rows.getD j []).length ≤ P) (fun _ ti => k - (intOf ti).toNat)
      case atStart => exact ⟨0, 0, by omega, by omega, rfl, rfl, fun j hj => absurd hj (by omega)⟩
      case round =>
        obtain ⟨P, i, hi, hP, rfl, rfl, hall⟩ := hrel
        have HALL := hide hall
        clear hall
        by_cases hlt2 : i < k
        · obtain ⟨R, rfl, hRw, hRR⟩ := (unhide HR1).resolve_left (by omega)
          obtain ⟨co, hc1, _, _⟩ := hRR.cell (k := i) (by rw [unhide HRL]; exact hlt2)
          have hle := unhide HRB i hlt2
          clear hRR
          generalize hlk : (rows.getD i []).length = lr at *
          have HLK := hide hlk
          clear hlk
          by_cases hPl : P < lr
          · go_wp2
            go_round
            case rel =>
              refine ⟨lr, i + 1, by omega, by omega, rfl, by go_num, fun j hj => ?_⟩
              rcases (by omega : j < i ∨ j = i) with h | h
              · have := unhide HALL j h; omega
              · rw [h, unhide HLK]; exact Nat.le_refl _
            case measure => simp [intOf]; omega
          · go_wp2
            go_round
            case rel =>
              refine ⟨P, i + 1, by omega, by omega, rfl, by go_num, fun j hj => ?_⟩
              rcases (by omega : j < i ∨ j = i) with h | h
              · exact unhide HALL j h
              · rw [h, unhide HLK]; omega
            case measure => simp [intOf]; omega
        · obtain rfl : i = k := by omega
          have hmk28 := run_make28 P (by omega)
          have hmk22 := run_make_row' (P := Trym.prog) 22 24 (.slice none 0 0) 24 Trym.underlying22 info24 rfl .i64 .i64 P (by omega) (by omega)
          go_wp2_with fail
          refine (posInf_any w1).mono ?_
          rintro e w1 ⟨rfl, rfl⟩
          generalize hINF : INF = inf
          have hinf : Num inf := by rw [← hINF]; exact INF_num
          have HINF := hide hinf
          clear hINF hinf
          go_wp2
          have hmade := made_pairs P
          have hRf0 : Rf (w1.alloc (.cells (madeCells #[Value.float .f64 0, Value.float .f64 0] (P * 2)) 29)) w1.heap.size (List.replicate (P * 2) 0) := ⟨29, by rw [heap_alloc_new, hmade]⟩
          have hb0 : Below w1.heap.size w1 (w1.alloc (.cells (madeCells #[Value.float .f64 0, Value.float .f64 0] (P * 2)) 29)) := (Below.refl _ _).alloc (Nat.le_refl _) _
          have hz0 : (w1.alloc (.cells (madeCells #[Value.float .f64 0, Value.float .f64 0] (P * 2)) 29)).heap.size = w1.heap.size + 1 := by simp
          clear hmade hmk28
          generalize w1.alloc (.cells (madeCells #[Value.float .f64 0, Value.float .f64 0] (P * 2)) 29) = w2 at *
          have hR2 : i = 0 ∨ ∃ R, ao' = some ⟨R, 0, none⟩ ∧ W.heap.size ≤ R ∧ R < w1.heap.size ∧ RR w1 R w1.heap.size rows := by
            rcases unhide HR1 with h | ⟨R, h1, h2, h3⟩
            · exact .inl h
            · obtain ⟨vs, t, h4, h5, h6⟩ := h3
              exact .inr ⟨R, h1, h2, h5, vs, t, h4, h5, h6⟩
          have hWH : W.heap.size ≤ w1.heap.size := (unhide HB1).size
          generalize hH : w1.heap.size = H at *
          have HH := hide hH
          have HR2 := hide hR2
          clear hH hR2 HR1
          go_loopw [9] (fun tj wq => ∃ (j : Nat) (qs : List Nat), j ≤ P ∧ tj = .int .i64 j ∧ Below H w1 wq ∧ wq.heap.size = H + 1 ∧ Rf wq H qs ∧ qs.length = P * 2 ∧ ∀ m, m < j * 2 → qs.getD m 0 = inf) (fun tj _ => P - (intOf tj).toNat)
          case atStart => exact ⟨0, _, by omega, rfl, hb0, hz0, hRf0, List.length_replicate, fun m hm => absurd hm (by omega)⟩
          case round =>
            clear hb0 hz0 hRf0
            obtain ⟨j, qs, hj, rfl, hb, hz, hrf, hql, hqi⟩ := hrel
            have HZ := hide hz
            have HQL := hide hql
            have HQI := hide hqi
            clear hz hql hqi
            by_cases hlt3 : j < P
            · have c0 := hrf.cell (j := j * 2) (by rw [unhide HQL]; omega)
              have c1 := hrf.cell (j := j * 2 + 1) (by rw [unhide HQL]; omega)
              have f0 := hrf.frozen (j * 2)
              have f1' := hrf.frozen (j * 2 + 1)
              generalize qs.getD (j * 2) 0 = y0 at c0
              generalize qs.getD (j * 2 + 1) 0 = y1 at c1
              have hlt3' : (j : Int) < P := by omega
              go_wp2
              go_roundw
              case rel =>
                refine ⟨j + 1, _, by omega, by go_num, (hb.setCell (Nat.le_refl _) _).setCell (Nat.le_refl _) _, by simp [World.setCell, unhide HZ], (hrf.set (j * 2) inf).set (j * 2 + 1) inf, by simp [unhide HQL], ?_⟩
                intro m hm
                have hql := unhide HQL
                rw [getD_set _ _ _ _ (by simp; omega), getD_set _ _ _ _ (by omega)]
                split
                · rfl
                · split
                  · rfl
                  · exact unhide HQI m (by omega)
              case measure => simp [intOf]; omega
            · obtain rfl : j = P := by omega
              have hqs : qs = List.replicate (j * 2) inf := by
                apply List.ext_getElem
                · rw [unhide HQL, List.length_replicate]
                · intro m h1 h2
                  rw [List.getElem_replicate]
                  have := unhide HQI m (by rw [← unhide HQL]; exact h1)
                  rw [List.getD_eq_getElem?_getD, List.getElem?_eq_getElem h1] at this
                  exact this
              subst hqs
              clear HQI HQL
              have hlen0 : (List.replicate (j * 2) inf).length = j * 2 := List.length_replicate
              have hpr0 : ∀ p, p < j → pr (List.replicate (j * 2) inf) p = (inf, inf) := fun p hp => by
                simp [pr, List.getD_eq_getElem?_getD, show p * 2 < j * 2 by omega, show p * 2 + 1 < j * 2 by omega]
              generalize List.replicate (j * 2) inf = h0 at *
              have HLEN0 := hide hlen0
              have HPR0 := hide hpr0
              clear hlen0 hpr0
              go_wp2
              go_loopw [10] (fun tq wq => ∃ q : Nat, q ≤ i ∧ tq = .int .i64 q ∧ Below H w1 wq ∧ wq.heap.size = H + 1 ∧ Rf wq H (allIn h0 (rows.take q))) (fun tq _ => i - (intOf tq).toNat)
              case atStart => exact ⟨0, by omega, rfl, hb, unhide HZ, hrf⟩
              case round =>
                clear hb hrf HZ
                obtain ⟨q, hq, rfl, hb, hz, hrf⟩ := hrel
                have HZ := hide hz
                clear hz
                by_cases hlt4 : q < i
                · obtain ⟨R, rfl, hWR, hRH, hRR⟩ := (unhide HR2).resolve_left (by omega)
                  have hRR' := hRR.below hb (Nat.le_refl _)
                  obtain ⟨co, hc1, _, hco⟩ := hRR'.cell (k := q) (by rw [unhide HRL]; exact hlt4)
                  have hle := unhide HALL q hlt4
                  have htk : rows.take (q + 1) = rows.take q ++ [rows.getD q []] := by
                    rw [List.take_succ_eq_append_getElem (by rw [unhide HRL]; exact hlt4)]
                    simp [List.getD_eq_getElem?_getD, List.getElem?_eq_getElem (show q < rows.length by rw [unhide HRL]; exact hlt4)]
                  have hsn := allIn_snoc h0 (rows.take q) (rows.getD q [])
                  rw [← htk] at hsn
                  have hal : (allIn h0 (rows.take q)).length = j * 2 := by rw [length_allIn]; exact unhide HLEN0
                  clear htk hRR hRR'
                  generalize rows.getD q [] = r at *
                  generalize hlk : r.length = lr at *
                  generalize allIn h0 (rows.take q) = hq' at *
                  have HSN := hide hsn
                  have HAL := hide hal
                  have HLK := hide hlk
                  have HCO := hide hco
                  clear hsn hal hlk hco
                  by_cases hl0 : lr = 0
                  · subst hl0
                    go_wp2_with (go_at_call 9; refine (zadd_none _ _ _ _ _ _).mono ?_; rintro e wq ⟨rfl, hwq⟩; subst hwq)
                    go_roundw
                    case rel => exact ⟨q + 1, by omega, by go_num, hb, unhide HZ, by rw [unhide HSN]; exact hrf⟩
                    case measure => simp [intOf]; omega
                  · obtain ⟨g, rfl, hg1, hg2, hg3⟩ := (unhide HCO).resolve_left hl0
                    go_wp2_with fail
                    refine (zadd_some H g j lr j lr hq' r wr (by omega) hrf hg3 (unhide HAL) (unhide HLK) hle (by omega)).mono ?_
                    rintro e w4 ⟨rfl, hg4, hz4, hrf4⟩
                    rw [← unhide HSN] at hrf4
                    have hb4 : Below H w1 w4 := hb.grown hg4 (by rw [unhide HZ]; omega) (by simp)
                    rw [unhide HZ] at hz4
                    have HZ4 := hide hz4
                    clear hz4 hg4 hrf hg3
                    go_wp2
                    go_roundw
                    case rel => exact ⟨q + 1, by omega, by go_num, hb4, unhide HZ4, hrf4⟩
                    case measure => simp [intOf]; omega
                · obtain rfl : q = i := by omega
                  rw [List.take_of_length_le (by rw [unhide HRL]; omega)] at hrf
                  go_wp2
                  have hcl5 : Cl (wr.alloc (.cells (madeCells #[Value.slice none 0 0] j) 24)) wr.heap.size (wr.heap.size + 1) (mid rows 0 j 0) := by
                    rw [mid_zero]
                    exact Cl.made wr j _ (by apply Array.toList_inj.1; rw [toList_madeCells_one])
                  have hb5 : Below H w1 (wr.alloc (.cells (madeCells #[Value.slice none 0 0] j) 24)) := hb.alloc (by rw [unhide HZ]; omega) _
                  have hrf5 := hrf.alloc (.cells (madeCells #[Value.slice none 0 0] j) 24)
                  clear hmk22 hb hrf
                  generalize wr.alloc (.cells (madeCells #[Value.slice none 0 0] j) 24) = w5 at *
                  have hzz := unhide HZ
                  generalize wr.heap.size = C at *
                  have HC := hide hzz
                  clear hzz HZ
                  obtain ⟨i0, hi0, hz0, hz1, hz2⟩ := info_parts info26
                  go_loopw [12, 13] (fun tk _ wq => ∃ k : Nat, k ≤ q ∧ tk = .int .i64 k ∧ Below C w5 wq ∧ Cl wq C (C + 1) (mid rows k j 0)) (fun tk _ _ => q - (intOf tk).toNat)
                  case atStart => exact ⟨0, by omega, rfl, Below.refl _ _, hcl5⟩
                  case round =>
                    clear hcl5
                    obtain ⟨k, hk, rfl, hb, hcl⟩ := hrel
                    have hHC : H < C := by rw [unhide HC]; omega
                    by_cases hlt5 : k < q
                    · obtain ⟨R, rfl, hWR, hRH, hRR⟩ := (unhide HR2).resolve_left (by omega)
                      have hRR5 := hRR.below hb5 (Nat.le_refl _)
                      obtain ⟨co, hc5, _, hco⟩ := hRR5.cell (k := k) (by rw [unhide HRL]; exact hlt5)
                      have hc1 := hc5
                      rw [← hb.cell (p := ⟨R, k, none⟩) (by simp; omega)] at hc1
                      clear hc5
                      have hle := unhide HALL k hlt5
                      have hms := mid_step rows k j
                      have hmn := mid_next rows k j (by rw [unhide HRL]; exact hlt5)
                      have hml := mid_length rows k j
                      have hme := mid_le rows k j
                      have hkr : k < rows.length := by rw [unhide HRL]; exact hlt5
                      have HMS := hide hms
                      have HMN := hide hmn
                      have HML := hide hml
                      have HME := hide hme
                      have HKR := hide hkr
                      clear hRR hRR5 hms hmn hml hme hkr
                      generalize hre : rows.getD k [] = r at *
                      generalize hlk : r.length = lr at *
                      have HLK := hide hlk
                      have HCO := hide hco
                      clear hlk hco hre
                      go_wp2
                      go_loopw [14] (fun tm wq => ∃ m : Nat, m ≤ lr ∧ tm = .int .i64 m ∧ Below C w5 wq ∧ Cl wq C (C + 1) (mid rows k j m)) (fun tm _ => lr - (intOf tm).toNat)
                      case atStart => exact ⟨0, by omega, rfl, hb, hcl⟩
                      case round =>
                        clear hb hcl hc1
                        obtain ⟨m, hm, rfl, hb, hcl⟩ := hrel
                        by_cases hlt6 : m < lr
                        · obtain ⟨g, rfl, hg1, hg2, hg3⟩ := (unhide HCO).resolve_left (by omega)
                          have hxc := (hg3.below hb (by omega)).cell (j := m) (by rw [unhide HLK]; exact hlt6)
                          have hmj : m < j := by omega
                          obtain ⟨am, cp, hcc, hown, hstep⟩ := hcl.cell (j := m) (by rw [unhide HML]; exact hmj)
                          have hnl := unhide HME m m hmj
                          have hmst := unhide HMS m (unhide HKR) hlt6 hmj
                          generalize r.getD m 0 = x at *
                          have hstx := hstep x
                          rw [hmst] at hstx
                          have HSTX := hide hstx
                          generalize (mid rows k j m).getD m [] = cm at *
                          generalize hcm : cm.length = nl at *
                          have hmj' : (m : Int) < j := by omega
                          have hmr' : (m : Int) < lr := by omega
                          have HCM := hide hcm
                          clear hcm hstep hstx hmst
                          go_wp2
                          have hwsz : C + 1 ≤ wr.heap.size := hcl.size
                          have hca : ∀ o, (wr.alloc o).cell? ⟨C, m, none⟩ = some (.slice am nl cp) := fun o => by
                            rw [World.cell?_of_block (w := wr) (Below.heap_alloc wr o C (by omega))]
                            exact hcc
                          go_region_law (refine step_append_at rfl (.tmp 118) (.tmp 123) 24 rfl (C + 1) 26 i0 (.float .f64 0) 1 8 Trym.underlying24 hi0 hz0 hz1 hz2 rfl (by decide) (.slice am nl cp) nl _ (by simp [Act.eval]) (hown.alloc _) ⟨wr.heap.size, 0, none⟩ 1 1 [.float .f64 x] (by simp [Act.eval]) rfl (cell_one_new _ _ _) (by intro u hu; simp at hu; subst hu; rfl) (by unfold maxLen; omega) (by omega) (by simp; omega) ?_; intro v' w6 hown6 hgr6 hloc6; obtain ⟨am6, cp6, hv6⟩ := own_form hown6; subst hv6; obtain ⟨hcc6, hff6, hbel6, hcl6⟩ := unhide HSTX _ _ _ (by exact ⟨rfl, rfl, rfl, by simp, fun k hk _ => Below.heap_alloc _ _ k hk⟩) hown6 hgr6 hloc6; have HBEL6 := hide hbel6; have HCL6 := hide hcl6; clear hbel6 hcl6 hown6 hgr6 hloc6)
                          all_goals
                            have hb6 := hb.trans (unhide HBEL6)
                            clear hcc6 hff6 hcc hown hca hxc hcl
                            go_wp2
                            go_roundw
                            case rel => exact ⟨m + 1, by omega, by go_num, hb6, unhide HCL6⟩
                            case measure => simp [intOf]; omega
                        · obtain rfl : m = lr := by omega
                          rw [unhide HMN] at hcl
                          go_wp2
                          go_roundw
                          case rel => exact ⟨k + 1, by omega, by go_num, hb, hcl⟩
                          case measure => simp [intOf]; omega
                    · obtain rfl : k = q := by omega
                      have hfH := hrf5.below hb hHC
                      have hbW : Below W.heap.size W wr := ((unhide HB1).trans (hb5.mono hWH)).trans (hb.mono (by omega))
                      have HBW := hide hbW
                      clear hbW hb hb5 hrf5
                      go_wp2
                      go_loop [15] (fun tp => ∃ p : Nat, p ≤ j ∧ tp = .int .i64 p) (fun tp => j - (intOf tp).toNat)
                      case atStart => exact ⟨0, by omega, rfl⟩
                      case round =>
                        obtain ⟨p, hp, rfl⟩ := hrel
                        by_cases hlt7 : p < j
                        · obtain ⟨am, cp, hcc, hown, _⟩ := hcl.cell (j := p) (by rw [mid_length]; exact hlt7)
                          have hle7 := mid_le rows k j 0 p hlt7
                          have hcol : (mid rows k j 0).getD p [] = col rows p := by
                            rw [mid_get rows k j 0 p hlt7, if_neg (by omega), List.take_of_length_le (by rw [unhide HRL]; omega)]
                          rw [hcol] at hcc hown hle7
                          have hal : (allIn h0 rows).length = j * 2 := by rw [length_allIn]; exact unhide HLEN0
                          have hpr : pr (allIn h0 rows) p = ((f1 inf (col rows p) (col rows p).length).1, s2 inf (col rows p) (f1 inf (col rows p) (col rows p).length).2 (col rows p).length) := by
                            rw [pr_allIn h0 rows p (fun r hr => by
                              obtain ⟨n, hn, rfl⟩ := List.mem_iff_getElem.1 hr
                              have h1 := unhide HALL n (by rw [← unhide HRL]; exact hn)
                              rw [List.getD_eq_getElem?_getD, List.getElem?_eq_getElem hn] at h1
                              have h2 : (rows[n]).length ≤ j := h1
                              rw [unhide HLEN0]
                              omega), unhide HPR0 p hlt7]
                            have := two_fold inf (col rows p) (col rows p).length (Nat.le_refl _)
                            rw [List.take_length] at this
                            exact this
                          have c0 := hfH.cell (j := p * 2) (by rw [hal]; omega)
                          have c1 := hfH.cell (j := p * 2 + 1) (by rw [hal]; omega)
                          have hrd := own_rd hown rfl
                          have htwo := two_any am (col rows p).length cp inf (col rows p) wr (by omega) rfl hrd
                          have n0 := f1_self inf (unhide HINF) (col rows p) (col rows p).length
                          have n1 := s2_self inf (unhide HINF) (col rows p) (f1 inf (col rows p) (col rows p).length).2 (col rows p).length
                          unfold pr at hpr
                          injection hpr with hpr0 hpr1
                          rw [hpr0] at c0
                          rw [hpr1] at c1
                          generalize s2 inf (col rows p) (f1 inf (col rows p) (col rows p).length).2 (col rows p).length = B at *
                          generalize (f1 inf (col rows p) (col rows p).length).1 = A at *
                          generalize (col rows p).length = nl at *
                          have b0 : (FloatKind.f64.format.order A A != some .eq) = false := by rw [fmt64, n0]; rfl
                          have b1 : (FloatKind.f64.format.order B B != some .eq) = false := by rw [fmt64, n1]; rfl
                          have HTWO := hide htwo
                          clear htwo hrd hown hcol hal n0 n1 hpr0 hpr1 hcl
                          have hpj' : (p : Int) < j := by omega
                          go_wp2_with fail
                          refine (unhide HTWO).mono ?_
                          rintro e wz ⟨rfl, hwz⟩
                          subst hwz
                          go_wp2
                          go_round
                          case rel => exact ⟨p + 1, by omega, by go_num⟩
                          case measure => simp [intOf]; omega
                        · go_wp2
                          go_ret
                          exact ⟨rfl, unhide HBW⟩
end Go.Proofs.Qxb6600036aMods.Hold
