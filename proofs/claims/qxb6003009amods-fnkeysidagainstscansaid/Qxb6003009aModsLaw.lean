/-
  THE WALK OF FnKeysIDAgainstScan (function 5). (An AI prover, Nov 15 2026.)
-/
import Derived.Test.Qxb6003009aModsId
namespace Go.Proofs.Qxb6003009aMods.Keys
open Go.ChangeShapes Go.WideShapes Go.ChangeAt Go.RowKit

theorem rd_row {w : World} {g n : Nat} {ss : List ByteArray} (h : Rs w g ss) (hn : n ≤ ss.length) : Rd w (some ⟨g, 0, none⟩) n ss :=
  .inr ⟨g, 0, rfl, fun i hi => by rw [Nat.zero_add]; exact h.cell (by omega)⟩

/-- No name stands twice. -/
theorem Ids.inj {w : World} {B : Nat} {names : List ByteArray} (h : Ids w B names) (j p : Nat) (hj : j < names.length) (hp : p < names.length) (e : names.getD j ByteArray.empty = names.getD p ByteArray.empty) : j = p := by
  obtain ⟨D, _, _, _, h4⟩ := h
  have h1 := (h4 j hj).1
  rw [e, (h4 p hp).1] at h1
  injection h1 with h1
  injection h1 with _ h1
  omega

theorem str_beq {s t : ByteArray} (h : s ≠ t) : (s.toList == t.toList) = false := by
  rw [beq_eq_false_iff_ne]
  intro e
  apply h
  apply ByteArray.ext
  apply Array.toList_inj.1
  simpa [ByteArray.toList_eq] using e

/-- The first cells of block g are the strings rs. -/
def Rg (w : World) (g : Nat) (rs : List ByteArray) : Prop := ∃ cur t, w.heap[g]? = some (.cells cur t (0, 0)) ∧ cur.toList.take rs.length = rs.map Value.string

theorem Rs.rg {w : World} {g : Nat} {ss : List ByteArray} (h : Rs w g ss) : Rg w g ss := ⟨_, 9, h, by simp [List.take_of_length_le]⟩

theorem Rg.cell {w : World} {g : Nat} {rs : List ByteArray} (h : Rg w g rs) {j : Nat} (hj : j < rs.length) : w.cell? ⟨g, j, none⟩ = some (.string (rs.getD j ByteArray.empty)) := by
  obtain ⟨cur, t, h1, h2⟩ := h
  rw [cell_of_row w g j _ t _ h1]
  have h3 : (cur.toList.take rs.length)[j]? = cur.toList[j]? := by rw [List.getElem?_take, if_pos hj]
  rw [h2] at h3
  rw [← Array.getElem?_toList, ← h3]
  simp [hj]

/-- What holds of memory behind ZZKeysID: the map numbers the strings rs, 'got' lies in block g, 'before' in block M. -/
structure Fin (W : World) (N B g M : Nat) (rs ss : List ByteArray) (wq : World) : Prop where
  below : Below N W wq
  ids : Ids wq B rs
  got : Rg wq g rs
  bef : ss = [] ∨ Rs wq M ss

theorem Fin.drewN {W : World} {N B g M : Nat} {rs ss : List ByteArray} {wq : World} (h : Fin W N B g M rs ss wq) (n : Nat) : Fin W N B g M rs ss (wq.drewN n) :=
  ⟨below_drewN h.below n, h.ids, h.got, h.bef⟩

/-! ### The early ways out -/
theorem law_long (ao : Option Addr) (len cap : Nat) (s : ByteArray) (z : List ByteArray) (W : World) (hm : len ≤ maxLen) (hr : Rd W ao len z) (h : ¬ len ≤ 65536) :
    Calls Trym.prog 5 #[.slice ao len cap, .string s] W fun e w' => e = .returned (.bool true) ∧ w' = W := by
  have hd1 : decide ((65536 : Int) < (len : Int)) = true := decide_eq_true (by omega)
  go_enter Trym.func5, Trym.ntmps5
  go_wp2_with fail
  refine (bytes_any ao len cap s z _ hm hr).mono ?_
  rintro e W ⟨⟨b, rfl⟩, rfl⟩
  cases b
  all_goals
    go_wp2
    go_ret
    exact ⟨rfl, rfl⟩

theorem law_big (ao : Option Addr) (len cap : Nat) (s : ByteArray) (z : List ByteArray) (W : World) (hm : len ≤ maxLen) (hr : Rd W ao len z) (h : len ≤ 65536) (hs : ¬ s.size ≤ 1048576) :
    Calls Trym.prog 5 #[.slice ao len cap, .string s] W fun e w' => e = .returned (.bool true) ∧ w' = W := by
  have hd1 : decide ((65536 : Int) < (len : Int)) = false := decide_eq_false (by omega)
  have hd2 : decide ((1048576 : Int) < (s.size : Int)) = true := decide_eq_true (by omega)
  go_enter Trym.func5, Trym.ntmps5
  go_wp2_with fail
  refine (bytes_any ao len cap s z _ hm hr).mono ?_
  rintro e W ⟨⟨b, rfl⟩, rfl⟩
  cases b
  all_goals
    go_wp2
    go_ret
    exact ⟨rfl, rfl⟩

set_option maxRecDepth 100000 in
set_option maxHeartbeats 2000000 in
theorem law_some (x : Addr) (len cap : Nat) (s : ByteArray) (z : List ByteArray) (W : World) (hm : len ≤ maxLen) (hl : len ≤ z.length) (hws : ∀ t ∈ z, t.size ≤ maxLen) (hr : Rd W (some x) len z) (h16 : len ≤ 65536) (hs : s.size ≤ 1048576) :
    Calls Trym.prog 5 #[.slice (some x) len cap, .string s] W fun e w' => e = .returned (.bool true) ∧ Below W.heap.size W w' := by
  have hd1 : decide ((65536 : Int) < (len : Int)) = false := decide_eq_false (by omega)
  have hd2 : decide ((1048576 : Int) < (s.size : Int)) = false := decide_eq_false (by omega)
  have hnn := fun (wx : World) (a : Option Addr) (n c : Nat) => run_neq_slice_nil_any (P := Trym.prog) wx 29 9 a n c 0 0 Trym.underlying29
  have hmm := run_makeMap_hint
  go_enter Trym.func5, Trym.ntmps5
  go_wp2_with fail
  refine (bytes_any (some x) len cap s z _ hm hr).mono ?_
  rintro e W ⟨⟨b, rfl⟩, rfl⟩
  cases b
  · go_wp2
    go_ret
    exact ⟨rfl, Below.refl _ _⟩
  go_wp2_with fail
  refine (fit_any (some x) len cap 1048576 z _ hm hr).mono ?_
  rintro e W ⟨⟨b, rfl⟩, rfl⟩
  cases b
  · go_wp2
    go_ret
    exact ⟨rfl, Below.refl _ _⟩
  go_wp2_with fail
  refine (copy_some x len cap z _ hl h16 hr).mono ?_
  rintro e w1 ⟨rfl, hb1, hr1, hz1⟩
  have hss : (z.take len).length = len := by rw [List.length_take_of_le hl]
  have hws' : ∀ t ∈ z.take len, t.size ≤ maxLen := fun t ht => hws t (List.mem_of_mem_take ht)
  generalize z.take len = ss at *
  generalize hN : W.heap.size = N at *
  have HSS := hide hss
  have HWS := hide hws'
  have HB1 := hide hb1
  have HN := hide hN
  have HZ1 := hide hz1
  clear hss hws' hb1 hN hz1 hws hl hr
  go_wp2
  have hI0 := Ids.made w1
  have hr1' : Rs (w1.alloc (.map #[] 0)) N ss := hr1.alloc _
  have hb1' : Below N W (w1.alloc (.map #[] 0)) := (unhide HB1).alloc (by rw [unhide HZ1]; omega) _
  have hBN : w1.heap.size = N + 1 := unhide HZ1
  clear HB1 HZ1 hr1 hmm hnn
  generalize w1.heap.size = B at *
  have HBN := hide hBN
  clear hBN
  go_loopw [7] (fun ti wr => ∃ i : Nat, i ≤ len ∧ ti = .int .i64 i ∧ Below N W wr ∧ Ids wr B (ss.take i) ∧ Rs wr N ss) (fun ti _ => len - (intOf ti).toNat)
  case atStart => exact ⟨0, by omega, rfl, hb1', by simpa using hI0, hr1'⟩
  case round =>
    clear hI0 hr1' hb1'
    obtain ⟨i, hi, rfl, hb, hI, hr⟩ := hrel
    by_cases hlt : i < len
    · have hsl := unhide HSS
      have hc := hr.cell (j := i) (by omega)
      have htm := unhide HWS (ss.getD i ByteArray.empty) (getD_mem ss i (by omega))
      have htk : ss.take (i + 1) = ss.take i ++ [ss.getD i ByteArray.empty] := by
        rw [List.take_succ_eq_append_getElem (by omega)]
        simp [List.getD_eq_getElem?_getD, List.getElem?_eq_getElem (show i < ss.length by omega)]
      have hil : (ss.take i).length = i := by rw [List.length_take_of_le (by omega)]
      have HTK := hide htk
      clear htk hsl
      by_cases hmem : ss.getD i ByteArray.empty ∈ ss.take i
      · obtain ⟨j, hj, hje⟩ := List.mem_iff_getElem.1 hmem
        have hge : (ss.take i).getD j ByteArray.empty = ss.getD i ByteArray.empty := by rw [← hje, List.getD_eq_getElem?_getD, List.getElem?_eq_getElem hj]; rfl
        have hhit := hI.hit hj (by rw [hge]; exact htm)
        rw [hge] at hhit
        clear hge hje HTK hmem
        generalize ss.getD i ByteArray.empty = t at *
        go_wp2
        go_ret
        exact ⟨rfl, (hb.mono (by rw [unhide HN]; exact Nat.le_refl _))⟩
      · have hmiss := hI.miss htm hmem
        obtain ⟨w2, hst, hI2, hg2, hz2⟩ := hI.store htm hmem (by rw [hil]; omega)
        rw [← unhide HTK] at hI2
        rw [hil] at hst
        have hr2 := hr.grown hg2 (by rw [unhide HBN]; simp)
        have hb2 : Below N W w2 := hb.grown hg2 (by have := hb.size; have := unhide HN; omega) (by simp; have := unhide HBN; omega)
        have HI2 := hide hI2
        have HR2 := hide hr2
        have HB2 := hide hb2
        clear hI2 hr2 hb2 hg2 hz2 hil hmem HTK hI
        generalize ss.getD i ByteArray.empty = t at *
        go_wp2
        go_roundw
        case rel => exact ⟨i + 1, by omega, by go_num, unhide HB2, unhide HI2, unhide HR2⟩
        case measure => simp [intOf]; omega
    · obtain rfl : i = len := by omega
      rw [List.take_of_length_le (by rw [unhide HSS]; omega)] at hI
      go_wp2_with fail
      refine (copy_some ⟨N, 0, none⟩ i i ss wr (by rw [unhide HSS]; omega) h16 (rd_row hr (by rw [unhide HSS]; omega))).mono ?_
      rintro e w3 ⟨rfl, hb3, hr3, hz3⟩
      rw [List.take_of_length_le (by rw [unhide HSS]; omega)] at hr3
      have hI3 := hI.below hb3
      have hrN := hr.below hb3 hr.lt
      have hbW : Below N W w3 := hb.trans (hb3.mono (by have := hr.lt; omega))
      have hNM : N < wr.heap.size := hr.lt
      have hBM : B < wr.heap.size := hI.lt
      generalize hMe : wr.heap.size = M at *
      clear hMe hb3 hr hI hb
      have HIJ := hide hI3.inj
      by_cases hmem : s ∈ ss
      · obtain ⟨p, hp, hpe⟩ := List.mem_iff_getElem.1 hmem
        have hge : ss.getD p ByteArray.empty = s := by rw [← hpe, List.getD_eq_getElem?_getD, List.getElem?_eq_getElem hp]; rfl
        have HGE := hide hge
        clear hge hpe hmem
        have hpl : p < i := by have := unhide HSS; omega
        go_wp2
        go_loop [11, 12] (fun tf tj => ∃ j : Nat, j ≤ p ∧ tj = .int .i64 j ∧ tf = .int .i64 (-1)) (fun _ tj => i - (intOf tj).toNat)
        case atStart => exact ⟨0, by omega, rfl, rfl⟩
        case round =>
          obtain ⟨j, hj, rfl, rfl⟩ := hrel
          have hc := hr3.cell (j := j) (by rw [unhide HSS]; omega)
          by_cases hjp : j = p
          · subst hjp
            rw [unhide HGE] at hc
            go_wp2_with fail
            have hsz : (ss.getD j ByteArray.empty).size ≤ maxLen := unhide HWS _ (getD_mem ss j hp)
            have hzz := zz_found B j i i (some ⟨N, 0, none⟩) ss w3 hI3 hp hsz
            rw [unhide HGE] at hzz
            refine hzz.mono ?_
            rintro e w4 ⟨rfl, hb4⟩
            have hF : Fin W N B N M ss ss w4 := ⟨hbW.trans (hb4.mono (by omega)), hI3.below hb4, (hrN.below hb4 hrN.lt).rg, .inr (hr3.below hb4 hr3.lt)⟩
            clear hb4 hc hrN hr3 hI3 hbW HIJ hsz
            have HWR := HWS
            go_wp2
            go_loopw [16] (fun tj wq => ∃ q : Nat, q ≤ i ∧ tj = .int .i64 q ∧ Fin W N B N M ss ss wq) (fun tj _ => i - (intOf tj).toNat)
            case atStart => exact ⟨0, by omega, rfl, hF⟩
            case round =>
              clear hF
              obtain ⟨q, hq, rfl, hF⟩ := hrel
              by_cases hqi : q < i
              · have g1 := hF.got.cell (j := q) (by rw [unhide HSS]; omega)
                have g2 := (hF.bef.resolve_left (by intro e; have := unhide HSS; rw [e] at this; simp at this; omega)).cell (j := q) (by rw [unhide HSS]; omega)
                have hqi' : (q : Int) < i := by omega
                generalize ss.getD q ByteArray.empty = t at *
                go_wp2
                go_quiet (fail)
                go_wp2
                go_roundw
                case rel => exact ⟨q + 1, by omega, by go_num, hF.drewN _⟩
                case measure => simp [intOf]; omega
              · have hlen := hF.ids.len
                rw [unhide HSS] at hlen
                go_wp2
                go_loopw [17] (fun tj wq => ∃ r : Nat, r ≤ i ∧ tj = .int .i64 r ∧ Fin W N B N M ss ss wq) (fun tj _ => i - (intOf tj).toNat)
                case atStart => exact ⟨0, by omega, rfl, hF⟩
                case round =>
                  clear hF hlen
                  obtain ⟨r, hr, rfl, hF⟩ := hrel
                  by_cases hri : r < i
                  · have g1 := hF.got.cell (j := r) (by rw [unhide HSS]; omega)
                    have g2 := hF.ids.hit (j := r) (by rw [unhide HSS]; omega) (unhide HWR _ (getD_mem _ r (by rw [unhide HSS]; omega)))
                    have hri' : (r : Int) < (i : Int) := by omega
                    generalize (ss).getD r ByteArray.empty = t at *
                    go_wp2
                    go_roundw
                    case rel => exact ⟨r + 1, by omega, by go_num, hF⟩
                    case measure => simp [intOf]; omega
                  · go_wp2
                    go_ret
                    exact ⟨rfl, hF.below.mono (by rw [unhide HN]; exact Nat.le_refl _)⟩
          · have hne : ss.getD j ByteArray.empty ≠ s := fun e => hjp (unhide HIJ j p (by rw [unhide HSS]; omega) hp (by rw [e, unhide HGE]))
            generalize ss.getD j ByteArray.empty = t at *
            have hbq := str_beq hne
            have hji : (j : Int) < i := by omega
            go_wp2
            go_round
            case rel => exact ⟨j + 1, by omega, by go_num, rfl⟩
            case measure => simp [intOf]; omega
      · go_wp2
        go_loop [11, 12] (fun tf tj => ∃ j : Nat, j ≤ i ∧ tj = .int .i64 j ∧ tf = .int .i64 (-1)) (fun _ tj => i - (intOf tj).toNat)
        case atStart => exact ⟨0, by omega, rfl, rfl⟩
        case round =>
          obtain ⟨j, hj, rfl, rfl⟩ := hrel
          by_cases hji : j < i
          · have hc := hr3.cell (j := j) (by rw [unhide HSS]; omega)
            have hne : ss.getD j ByteArray.empty ≠ s := fun e => hmem (by rw [← e]; exact getD_mem ss j (by rw [unhide HSS]; omega))
            generalize ss.getD j ByteArray.empty = t at *
            have hbq := str_beq hne
            have hji' : (j : Int) < i := by omega
            go_wp2
            go_round
            case rel => exact ⟨j + 1, by omega, by go_num, rfl⟩
            case measure => simp [intOf]; omega
          · have hown3 : w3.ownsRow N 9 1 (.slice (some ⟨N, 0, none⟩) i i) i (ss.map Value.string) := by
              have := hrN.owns (Nat.le_refl N) (by rw [unhide HSS]; exact hm)
              rw [unhide HSS] at this
              exact this
            go_wp2_with fail
            refine (zz_new B N i i (some ⟨N, 0, none⟩) ss s _ hI3 (unhide HSS) hs hmem h16 (by rw [hz3]; omega) hown3).mono ?_
            rintro e w4 ⟨g, c, rfl, hI4, hown4, hz4, ho4, ht4, hp4, hf4⟩
            have hrl : (ss ++ [s]).length = i + 1 := by simp [unhide HSS]
            have hF : Fin W N B g M (ss ++ [s]) ss w4 := by
              have hBN := unhide HBN
              refine ⟨⟨ho4.trans hbW.os, ht4.trans hbW.tape, hp4.trans hbW.output, Nat.le_trans hbW.size hz4, fun k hk => ?_⟩, hI4, ?_, .inr ?_⟩
              · rw [hf4 k (by omega) (by omega) (by intro x hx; cases hx; simp; omega)]
                exact hbW.block k hk
              · rcases hown4.2 with ⟨h1, _⟩ | ⟨g', c', cur, h1, _, h2, _, _, _, h6⟩
                · cases h1
                · injection h1 with h1a
                  injection h1a with h1b
                  injection h1b with h1c
                  subst h1c
                  exact ⟨cur, 9, h2, by rw [hrl]; simpa using h6⟩
              · exact hr3.same (hf4 M (by omega) (by omega) (by intro x hx; cases hx; simp; omega))
            have HRL := hide hrl
            have HWR : Hid (∀ t ∈ ss ++ [s], t.size ≤ maxLen) := by
              intro t ht
              rcases List.mem_append.1 ht with h | h
              · exact unhide HWS t h
              · have : t = s := by simpa using h
                rw [this]; unfold maxLen; omega
            have hcl : w4.cell? ⟨g, i, none⟩ = some (.string s) := by
              have := hF.got.cell (j := i) (by rw [hrl]; omega)
              rw [← unhide HSS, getD_append_last] at this
              rw [← unhide HSS]; exact this
            clear hI4 hown4 hz4 ho4 ht4 hp4 hf4 hrN hr3 hI3 hbW HIJ hrl hown3 hz3
            go_wp2
            go_loopw [16] (fun tj wq => ∃ q : Nat, q ≤ i ∧ tj = .int .i64 q ∧ Fin W N B g M (ss ++ [s]) ss wq) (fun tj _ => i - (intOf tj).toNat)
            case atStart => exact ⟨0, by omega, rfl, hF⟩
            case round =>
              clear hF
              obtain ⟨q, hq, rfl, hF⟩ := hrel
              by_cases hqi : q < i
              · have g1 := hF.got.cell (j := q) (by rw [unhide HRL]; omega)
                rw [getD_append_left ss s q (by rw [unhide HSS]; omega)] at g1
                have g2 := (hF.bef.resolve_left (by intro e; have := unhide HSS; rw [e] at this; simp at this; omega)).cell (j := q) (by rw [unhide HSS]; omega)
                have hqi' : (q : Int) < i := by omega
                generalize ss.getD q ByteArray.empty = t at *
                go_wp2
                go_quiet (fail)
                go_wp2
                go_roundw
                case rel => exact ⟨q + 1, by omega, by go_num, hF.drewN _⟩
                case measure => simp [intOf]; omega
              · have hlen := hF.ids.len
                rw [unhide HRL] at hlen
                go_wp2
                go_loopw [17] (fun tj wq => ∃ r : Nat, r ≤ (i + 1) ∧ tj = .int .i64 r ∧ Fin W N B g M (ss ++ [s]) ss wq) (fun tj _ => (i + 1) - (intOf tj).toNat)
                case atStart => exact ⟨0, by omega, rfl, hF⟩
                case round =>
                  clear hF hlen
                  obtain ⟨r, hr, rfl, hF⟩ := hrel
                  by_cases hri : r < (i + 1)
                  · have g1 := hF.got.cell (j := r) (by rw [unhide HRL]; omega)
                    have g2 := hF.ids.hit (j := r) (by rw [unhide HRL]; omega) (unhide HWR _ (getD_mem _ r (by rw [unhide HRL]; omega)))
                    have hri' : (r : Int) < (i : Int) + 1 := by omega
                    generalize ((ss ++ [s])).getD r ByteArray.empty = t at *
                    go_wp2
                    go_roundw
                    case rel => exact ⟨r + 1, by omega, by go_num, hF⟩
                    case measure => simp [intOf]; omega
                  · go_wp2
                    go_ret
                    exact ⟨rfl, hF.below.mono (by rw [unhide HN]; exact Nat.le_refl _)⟩

set_option maxRecDepth 100000 in
set_option maxHeartbeats 1000000 in
theorem law_nil (s : ByteArray) (W : World) (hs : s.size ≤ 1048576) :
    Calls Trym.prog 5 #[.slice none 0 0, .string s] W fun e w' => e = .returned (.bool true) ∧ Below W.heap.size W w' := by
  have hd2 : decide ((1048576 : Int) < (s.size : Int)) = false := decide_eq_false (by omega)
  have hnn := fun (wx : World) (a : Option Addr) (n c : Nat) => run_neq_slice_nil_any (P := Trym.prog) wx 29 9 a n c 0 0 Trym.underlying29
  go_enter Trym.func5, Trym.ntmps5
  go_wp2_with fail
  refine (bytes_any none 0 0 s [] _ (by unfold maxLen; omega) (.inl rfl)).mono ?_
  rintro e W ⟨⟨b, rfl⟩, rfl⟩
  cases b
  · go_wp2
    go_ret
    exact ⟨rfl, Below.refl _ _⟩
  go_wp2_with fail
  refine (fit_any none 0 0 1048576 [] _ (by unfold maxLen; omega) (.inl rfl)).mono ?_
  rintro e W ⟨⟨b, rfl⟩, rfl⟩
  cases b
  · go_wp2
    go_ret
    exact ⟨rfl, Below.refl _ _⟩
  go_wp2_with fail
  refine (copy_nil W).mono ?_
  rintro e W ⟨rfl, rfl⟩
  go_wp2_with fail
  refine (copy_nil W).mono ?_
  rintro e W ⟨rfl, rfl⟩
  go_wp2
  go_loop [11, 12] (fun tf tj => tj = .int .i64 0 ∧ tf = .int .i64 (-1)) (fun _ _ => 0)
  case atStart => exact ⟨rfl, rfl⟩
  case round =>
    obtain ⟨rfl, rfl⟩ := hrel
    go_wp2_with fail
    refine (zz_nil W.heap.size s W hs (Nat.le_refl _)).mono ?_
    rintro e w4 ⟨B, g, c, rfl, hB, hI4, hown4, hz4, ho4, ht4, hp4, hf4⟩
    have hF : Fin W W.heap.size B g 0 [s] [] w4 := by
      refine ⟨⟨ho4, ht4, hp4, hz4, fun k hk => hf4 k hk⟩, hI4, ?_, .inl rfl⟩
      rcases hown4.2 with ⟨h1, _⟩ | ⟨g', c', cur, h1, _, h2, _, _, _, h6⟩
      · cases h1
      · injection h1 with h1a
        injection h1a with h1b
        injection h1b with h1c
        subst h1c
        exact ⟨cur, 9, h2, by simpa using h6⟩
    have hcl : w4.cell? ⟨g, 0, none⟩ = some (.string s) := hF.got.cell (j := 0) (by simp)
    have hsm : s.size ≤ maxLen := by unfold maxLen; omega
    clear hI4 hown4 hz4 ho4 ht4 hp4 hf4 hB hnn
    go_wp2
    go_loopw [16] (fun tj wq => tj = .int .i64 0 ∧ Fin W W.heap.size B g 0 [s] [] wq) (fun _ _ => 0)
    case atStart => exact ⟨rfl, hF⟩
    case round =>
      clear hF hcl
      obtain ⟨rfl, hF⟩ := hrel
      have hlen : ∀ ty, (Builtin.len_ #[33] ty #[.map (some B)]).run Trym.prog wr = .ok (.int .i64 1) wr := hF.ids.len
      go_wp2
      go_loopw [17] (fun tj wq => ∃ r : Nat, r ≤ 1 ∧ tj = .int .i64 r ∧ Fin W W.heap.size B g 0 [s] [] wq) (fun tj _ => 1 - (intOf tj).toNat)
      case atStart => exact ⟨0, by omega, rfl, hF⟩
      case round =>
        clear hF hlen
        obtain ⟨r, hr, rfl, hF⟩ := hrel
        by_cases hri : r < 1
        · obtain rfl : r = 0 := by omega
          have g1 : wr.cell? ⟨g, 0, none⟩ = some (.string s) := hF.got.cell (j := 0) (by simp)
          have g2 : (Instr.lookup 33 (.map (some B)) (.string s) true).run Trym.prog wr = .ok (.tuple #[.int .u64 0, .bool true]) wr := hF.ids.hit (j := 0) (by simp) hsm
          go_wp2
          go_roundw
          case rel => exact ⟨1, by omega, by go_num, hF⟩
          case measure => simp [intOf]
        · obtain rfl : r = 1 := by omega
          go_wp2
          go_ret
          exact ⟨rfl, hF.below⟩

/-- FnKeysIDAgainstScan returns true, whatever came in; nothing that was there has turned. -/
theorem law_any (ao : Option Addr) (len cap : Nat) (s : ByteArray) (z : List ByteArray) (W : World)
    (hrow : (ao = none ∧ len = 0 ∧ cap = 0 ∧ z = []) ∨ ∃ x, ao = some x ∧ len ≤ cap ∧ cap ≤ maxLen ∧ z.length = cap ∧ (∀ i, i < z.length → W.cell? (x.add i) = some (.string (z.getD i ByteArray.empty))) ∧ ∀ t ∈ z, t.size ≤ maxLen) :
    Calls Trym.prog 5 #[.slice ao len cap, .string s] W fun e w' => e = .returned (.bool true) ∧ Below W.heap.size W w' := by
  have hm : len ≤ maxLen := by
    rcases hrow with ⟨_, rfl, _⟩ | ⟨_, _, h1, h2, _⟩ <;> omega
  have hr : Rd W ao len z := by
    rcases hrow with ⟨_, rfl, _⟩ | ⟨x, rfl, h1, h2, h3, h4, _⟩
    · exact .inl rfl
    · exact rd_of (by omega) h4
  by_cases h16 : len ≤ 65536
  · by_cases hs : s.size ≤ 1048576
    · rcases hrow with ⟨rfl, rfl, rfl, rfl⟩ | ⟨x, rfl, h1, h2, h3, h4, h5⟩
      · exact law_nil s W hs
      · exact law_some x len cap s z W hm (by omega) h5 hr h16 hs
    · refine (law_big ao len cap s z W hm hr h16 hs).mono ?_
      rintro e w' ⟨rfl, rfl⟩
      exact ⟨rfl, Below.refl _ _⟩
  · refine (law_long ao len cap s z W hm hr h16).mono ?_
    rintro e w' ⟨rfl, rfl⟩
    exact ⟨rfl, Below.refl _ _⟩
end Go.Proofs.Qxb6003009aMods.Keys
