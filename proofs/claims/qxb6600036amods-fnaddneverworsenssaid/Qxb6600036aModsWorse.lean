/-
  THE WALK OF FnAddNeverWorsens (function 5). (An AI prover, Nov 15 2026.)
-/
import Derived.Test.Qxb6600036aModsPairs
namespace Go.Proofs.Qxb6600036aMods.Hold
open Go.ChangeShapes Go.WideShapes Go.ChangeAt Go.RowKit Go.Proofs.Qxb6600036aMods.Plain

/-! ### The plain law -/
theorem leB_num {a b : Nat} (h : leB a b = true) : Num a ∧ Num b := by
  unfold leB at h
  rw [Bool.or_eq_true] at h
  rcases h with h | h
  · have h' : Ieee.double.order a b = some .lt := by simpa using h
    exact ⟨order_self_of h', order_self_of (order_swap h')⟩
  · have h' : Ieee.double.order a b = some .eq := by simpa using h
    exact ⟨order_self_of h', order_self_of (order_swap h')⟩

theorem leB_refl {a : Nat} (h : Num a) : leB a a = true := by
  unfold leB
  unfold Num at h
  rw [h]; rfl

theorem leB_of_ltB {a b : Nat} (h : ltB a b = true) : leB a b = true := by
  unfold leB
  unfold ltB at h
  rw [h]; rfl

theorem leB_of_not {a t : Nat} (ha : Num a) (ht : Num t) (h : ¬ ltB t a = true) : leB a t = true := by
  obtain ⟨o, ho⟩ := order_total ht ha
  have h2 := order_swap ho
  unfold leB
  rw [h2]
  cases o with
  | lt => exact absurd (by unfold ltB; rw [ho]; rfl) h
  | eq => rfl
  | gt => rfl

theorem not_ltB_nan {a t : Nat} (ht : ¬ Num t) : ¬ ltB t a = true := fun h => ht (ltB_self h)

structure Good (a b t n0 n1 : Nat) : Prop where
  b1 : leB n0 n1 = true
  b2 : leB n0 a = true
  b3 : leB n1 b = true
  nan : ¬ Num t → n0 = a ∧ n1 = b
  b4 : Num t → leB n0 t = true
  m0 : n0 = a ∨ n0 = t
  m1 : n1 = a ∨ n1 = b ∨ n1 = t

theorem good_up2 {a b t : Nat} (h : leB a b = true) : Good a b t (up2 (a, b) t).1 (up2 (a, b) t).2 := by
  obtain ⟨ha, hb⟩ := leB_num h
  unfold up2
  by_cases h1 : ltB t a = true
  · have ht : Num t := ltB_self h1
    rw [if_pos h1]
    exact ⟨leB_of_ltB h1, leB_of_ltB h1, h, fun h' => absurd ht h', fun _ => leB_refl ht, .inr rfl, .inl rfl⟩
  · rw [if_neg h1]
    by_cases h2 : ltB t b = true
    · have ht : Num t := ltB_self h2
      rw [if_pos h2]
      exact ⟨leB_of_not ha ht h1, leB_refl ha, leB_of_ltB h2, fun h' => absurd ht h', fun _ => leB_of_not ha ht h1, .inl rfl, .inr (.inr rfl)⟩
    · rw [if_neg h2]
      exact ⟨h, leB_refl ha, leB_refl hb, fun _ => ⟨rfl, rfl⟩, fun ht => leB_of_not ha ht h1, .inl rfl, .inr (.inl rfl)⟩

/-! ### What lies there behind ZZHoldersAdd -/
def Laid (w : World) (n m : Nat) (o0 o cc : Option Addr) (ps ts : List Nat) : Prop :=
  (n = 0 ∨ ∃ G0 G, o0 = some ⟨G0, 0, none⟩ ∧ o = some ⟨G, 0, none⟩ ∧ Rf w G0 ps ∧ Rf w G (addTo ps ts m)) ∧ (m = 0 ∨ ∃ C, cc = some ⟨C, 0, none⟩ ∧ Rf w C ts)

theorem zadd_laid (B H2 : Nat) (W w3 : World) (hB : Below B W w3) (n m : Nat) (o0 o cc : Option Addr) (ps ts : List Nat) (hps : ps.length = n * 2) (hts : ts.length = m) (hmn : m ≤ n) (hn : n ≤ 200000) (hBH : B ≤ H2)
    (h0 : n = 0 ∨ ∃ G0, o0 = some ⟨G0, 0, none⟩ ∧ G0 < H2 ∧ Rf w3 G0 ps) (hc : m = 0 ∨ ∃ C, cc = some ⟨C, 0, none⟩ ∧ C < H2 ∧ Rf w3 C ts) (ho : n = 0 ∨ ∃ G, o = some ⟨G, 0, none⟩ ∧ H2 ≤ G ∧ Rf w3 G ps) :
    Calls Trym.prog 9 #[.slice o n n, .slice cc m m] w3 fun e w' => e = .returned (.tuple #[]) ∧ Below B W w' ∧ Laid w' n m o0 o cc ps ts := by
  by_cases hm0 : m = 0
  · subst hm0
    refine (zadd_none o cc n n 0 w3).mono ?_
    rintro e w' ⟨rfl, rfl⟩
    refine ⟨rfl, hB, ?_, .inl rfl⟩
    rcases h0 with h | ⟨G0, e0, _, r0⟩
    · exact .inl h
    · rcases ho with h | ⟨G, e1, _, r1⟩
      · exact .inl h
      · exact .inr ⟨G0, G, e0, e1, r0, r1⟩
  · obtain ⟨G0, rfl, l0, r0⟩ := h0.resolve_left (by omega)
    obtain ⟨G, rfl, l1, r1⟩ := ho.resolve_left (by omega)
    obtain ⟨C, rfl, l2, r2⟩ := hc.resolve_left hm0
    refine (zadd_some G C n m n m ps ts w3 (by omega) r1 r2 hps hts hmn hn).mono ?_
    rintro e w' ⟨rfl, hg, hz, hr⟩
    refine ⟨rfl, hB.grown hg (by have := r1.lt; omega) (fun k e => by injection e; omega), .inr ⟨G0, G, rfl, rfl, r0.grown hg (by simp; omega), hr⟩, .inr ⟨C, rfl, r2.grown hg (by simp; omega)⟩⟩

/-! ### The early ends -/
section
variable (ao co : Option Addr) (n c m c2 : Nat) (W : World)

theorem worse_1 (hn : n ≤ maxLen) (hm : m ≤ maxLen) (h : ¬ n ≤ 65536) : Calls Trym.prog 5 #[.slice ao n c, .slice co m c2] W fun e w' => e = .returned (.bool true) ∧ w' = W := by
  have hd1 : decide ((65536 : Int) < (n : Int)) = true := decide_eq_true (by omega)
  have HB := bytes15_any ao co n c m c2 W hn hm
  unfold maxLen at hn hm
  go_enter Trym.func5, Trym.ntmps5
  go_wp2_with fail
  refine HB.mono ?_
  rintro e W ⟨⟨b, rfl⟩, rfl⟩
  cases b
  all_goals
    go_wp2
    go_ret
    exact ⟨rfl, rfl⟩

theorem worse_2 (hn : n ≤ maxLen) (hm : m ≤ maxLen) (h : n ≤ 65536) (h2 : ¬ m ≤ 65536) : Calls Trym.prog 5 #[.slice ao n c, .slice co m c2] W fun e w' => e = .returned (.bool true) ∧ w' = W := by
  have hd1 : decide ((65536 : Int) < (n : Int)) = false := decide_eq_false (by omega)
  have hd2 : decide ((65536 : Int) < (m : Int)) = true := decide_eq_true (by omega)
  have HB := bytes15_any ao co n c m c2 W hn hm
  unfold maxLen at hn hm
  go_enter Trym.func5, Trym.ntmps5
  go_wp2_with fail
  refine HB.mono ?_
  rintro e W ⟨⟨b, rfl⟩, rfl⟩
  cases b
  all_goals
    go_wp2
    go_ret
    exact ⟨rfl, rfl⟩

theorem worse_3 (hn : n ≤ maxLen) (hm : m ≤ maxLen) (h : n ≤ 65536) (h2 : m ≤ 65536) (h3 : ¬ 16 * n + 8 * m ≤ 1048576) : Calls Trym.prog 5 #[.slice ao n c, .slice co m c2] W fun e w' => e = .returned (.bool true) ∧ w' = W := by
  have hd1 : decide ((65536 : Int) < (n : Int)) = false := decide_eq_false (by omega)
  have hd2 : decide ((65536 : Int) < (m : Int)) = false := decide_eq_false (by omega)
  have HB := bytes15_any ao co n c m c2 W hn hm
  unfold maxLen at hn hm
  go_enter Trym.func5, Trym.ntmps5
  go_wp2_with fail
  refine HB.mono ?_
  rintro e W ⟨⟨b, rfl⟩, rfl⟩
  cases b
  all_goals
    go_wp2
    go_ret
    exact ⟨rfl, rfl⟩

theorem worse_4 (hn : n ≤ maxLen) (hm : m ≤ maxLen) (h : n ≤ 65536) (h2 : m ≤ 65536) (h3 : 16 * n + 8 * m ≤ 1048576) (h4 : ¬ m ≤ n) : Calls Trym.prog 5 #[.slice ao n c, .slice co m c2] W fun e w' => e = .returned (.bool true) ∧ w' = W := by
  have hd1 : decide ((65536 : Int) < (n : Int)) = false := decide_eq_false (by omega)
  have hd2 : decide ((65536 : Int) < (m : Int)) = false := decide_eq_false (by omega)
  have HB := bytes15_any ao co n c m c2 W hn hm
  unfold maxLen at hn hm
  go_enter Trym.func5, Trym.ntmps5
  go_wp2_with fail
  refine HB.mono ?_
  rintro e W ⟨⟨b, rfl⟩, rfl⟩
  cases b
  all_goals
    go_wp2
    go_ret
    exact ⟨rfl, rfl⟩
end

/-! ### The core -/
/-- What the two rows say at place k. -/
theorem good_at (ps ts : List Nat) (n m k : Nat) (hps : ps.length = n * 2) (hmn : m ≤ n) (hs : leB (ps.getD (k * 2) 0) (ps.getD (k * 2 + 1) 0) = true) :
    (k < m → Good (ps.getD (k * 2) 0) (ps.getD (k * 2 + 1) 0) (ts.getD k 0) ((addTo ps ts m).getD (k * 2) 0) ((addTo ps ts m).getD (k * 2 + 1) 0)) ∧
    (¬ k < m → (addTo ps ts m).getD (k * 2) 0 = ps.getD (k * 2) 0 ∧ (addTo ps ts m).getD (k * 2 + 1) 0 = ps.getD (k * 2 + 1) 0) := by
  have h := pr_addTo ps ts m (by omega) k
  refine ⟨fun hm => ?_, fun hm => ?_⟩
  · rw [if_pos hm] at h
    have g := good_up2 (t := ts.getD k 0) hs
    have e0 : (addTo ps ts m).getD (k * 2) 0 = (up2 (pr ps k) (ts.getD k 0)).1 := by rw [← h]; rfl
    have e1 : (addTo ps ts m).getD (k * 2 + 1) 0 = (up2 (pr ps k) (ts.getD k 0)).2 := by rw [← h]; rfl
    rw [e0, e1]
    exact g
  · rw [if_neg hm] at h
    exact ⟨by have := congrArg Prod.fst h; exact this, by have := congrArg Prod.snd h; exact this⟩

theorem nan_b {t : Nat} (h : ¬ Num t) : (Ieee.double.order t t != some .eq) = true := by simpa [Num] using h
theorem num_b {t : Nat} (h : Num t) : (Ieee.double.order t t != some .eq) = false := by unfold Num at h; rw [h]; rfl

theorem same_t {x y : Nat} {w : World} (h : x = y) (hx : Num x) : Calls Trym.prog 17 #[.float .f64 x, .float .f64 y] w fun e w' => e = .returned (.bool true) ∧ w' = w := by
  subst h
  refine (same_any x x w hx hx).mono ?_
  rintro e w' ⟨_, h1, h2⟩
  exact ⟨h1 rfl, h2⟩

theorem not_said {p : Prop} (h : p → Ending.returned (.bool false) = Ending.returned (.bool true)) : ¬ p := fun hp => by
  have := h hp
  simp at this

set_option maxRecDepth 100000 in
set_option maxHeartbeats 4000000 in
theorem worse_core (ao : Option Addr) (n c : Nat) (r : Run) (z : List Nat) (W : World) (hn : n ≤ 65536) (hm : r.l ≤ 65536) (hs : 16 * n + 8 * r.l ≤ 1048576) (hmn : r.l ≤ n) (hnil : ao = none → n = 0 ∧ c = 0)
    (hl : n * 2 ≤ z.length) (hr : Rd W ao (n * 2) z) (hok : r.Ok W) :
    Calls Trym.prog 5 #[.slice ao n c, .slice r.co r.l r.c] W fun e w' => e = .returned (.bool true) ∧ Below W.heap.size W w' := by
  have HB := hide (bytes15_any ao r.co n c r.l r.c W (by unfold maxLen; omega) (by unfold maxLen; omega))
  have HS := hide (sorted_any ao n c z W (by omega) hr)
  have HC0 : Hid (∀ q, Calls Trym.prog 13 #[.slice ao n c] (W.drewN q) _) := hide (fun q => hclone_any ao n c z (W.drewN q) hnil hl (by omega) hr)
  have HC1 : Hid (∀ w1, Below W.heap.size W w1 → Calls Trym.prog 14 #[.slice r.co r.l r.c] w1 _) := hide (fun w1 hb => clone_any r w1 (hok.kept hb) (by omega))
  have htl : r.row.length = r.l := hok.length
  have hpl : (z.take (n * 2)).length = n * 2 := by rw [List.length_take]; omega
  have hzp : ∀ j, j < n * 2 → (z.take (n * 2)).getD j 0 = z.getD j 0 := fun j hj => by simp [List.getD_eq_getElem?_getD, hj]
  generalize z.take (n * 2) = ps at *
  have HTL := hide htl
  have HPL := hide hpl
  have HZP := hide hzp
  clear htl hpl hzp hr hok
  have hd1 : decide ((65536 : Int) < (n : Int)) = false := decide_eq_false (by omega)
  have hd2 : decide ((65536 : Int) < (r.l : Int)) = false := decide_eq_false (by omega)
  generalize r.row = ts at *
  generalize r.l = m at *
  generalize r.co = co at *
  generalize r.c = c2 at *
  go_enter Trym.func5, Trym.ntmps5
  go_wp2_with fail
  refine (unhide HB).mono ?_
  rintro e W ⟨⟨b, rfl⟩, rfl⟩
  cases b
  · go_wp2
    go_ret
    exact ⟨rfl, Below.refl _ _⟩
  go_wp2_with fail
  refine (unhide HS).mono ?_
  rintro e w1 ⟨rfl | ⟨rfl, hsrt⟩, q, rfl⟩
  · go_wp2
    go_ret
    exact ⟨rfl, ⟨rfl, rfl, rfl, Nat.le_refl _, fun _ _ => rfl⟩⟩
  have HSRT := hide hsrt
  clear hsrt HS HB
  go_wp2_with fail
  refine (unhide HC0 q).mono ?_
  rintro e w1 ⟨o0, rfl, hb1, hn0, h0⟩
  have hbW1 : Below W.heap.size W w1 := ⟨hb1.os, hb1.tape, hb1.output, hb1.size, hb1.block⟩
  have hsz1 : W.heap.size ≤ w1.heap.size := hb1.size
  have H0 := hide h0
  clear h0 hb1 HC0
  go_wp2_with fail
  refine (unhide HC1 w1 hbW1).mono ?_
  rintro e w2 ⟨cc, rfl, hb2, h1⟩
  have hsz2 : w1.heap.size ≤ w2.heap.size := hb2.size
  have hbW2 : Below W.heap.size W w2 := hbW1.trans (hb2.mono hsz1)
  have h0' : n = 0 ∨ ∃ g, o0 = some ⟨g, 0, none⟩ ∧ g < w1.heap.size ∧ Rf w2 g ps := by
    rcases unhide H0 with h | ⟨g, e, _, hg, hR⟩
    · exact .inl h
    · exact .inr ⟨g, e, hg, hR.below hb2 hg⟩
  have h1' : m = 0 ∨ ∃ g, cc = some ⟨g, 0, none⟩ ∧ g < w2.heap.size ∧ Rf w2 g ts := by
    rcases h1 with h | ⟨g, e, _, hg, hR⟩
    · exact .inl h
    · exact .inr ⟨g, e, hg, hR⟩
  have hC2 : Calls Trym.prog 13 #[.slice o0 n n] w2 _ := hclone_any o0 n n ps w2 (fun e => ⟨hn0 e, hn0 e⟩) (by rw [unhide HPL]; omega) (by omega) (by
    rcases h0' with h | ⟨g, e, _, hR⟩
    · exact .inl (by omega)
    · exact .inr ⟨g, 0, e, fun j hj => by rw [Nat.zero_add]; exact hR.cell (by rw [unhide HPL]; exact hj)⟩)
  have H0' := hide h0'
  have H1' := hide h1'
  have HC2 := hide hC2
  have HHN := hide hn0
  clear h0' h1' hC2 h1 H0 hb2 hbW1 HC1 hn0
  go_wp2_with fail
  refine (unhide HC2).mono ?_
  rintro e w3 ⟨o, rfl, hb3, _, h2⟩
  have hsz3 : w2.heap.size ≤ w3.heap.size := hb3.size
  have hbW3 : Below W.heap.size W w3 := hbW2.trans (hb3.mono (by omega))
  have hz := zadd_laid W.heap.size w2.heap.size W w3 hbW3 n m o0 o cc ps ts (unhide HPL) (unhide HTL) hmn (by omega) (by omega)
    (by
      rcases unhide H0' with h | ⟨g, e, hg, hR⟩
      · exact .inl h
      · exact .inr ⟨g, e, by omega, hR.below hb3 (by omega)⟩)
    (by
      rcases unhide H1' with h | ⟨g, e, hg, hR⟩
      · exact .inl h
      · exact .inr ⟨g, e, hg, hR.below hb3 hg⟩)
    (by
      rcases h2 with h | ⟨g, e, hg, _, hR⟩
      · exact .inl h
      · refine .inr ⟨g, e, hg, ?_⟩
        rw [List.take_of_length_le (by rw [unhide HPL]; omega)] at hR
        exact hR)
  have HZ := hide hz
  clear hz h2 hb3 HC2 H0' H1' hbW2 hbW3
  go_wp2_with fail
  refine (unhide HZ).mono ?_
  rintro e w4 ⟨rfl, hbW4, hlaid, hlc⟩
  have HBW := hide hbW4
  have HLC := hide hlc
  have HLD := hide hlaid
  clear hbW4 hlaid hlc HZ
  go_wp2
  go_loop [6] (fun ti => ∃ k : Nat, k ≤ n ∧ ti = .int .i64 k) (fun ti => n - (intOf ti).toNat)
  case atStart => exact ⟨0, by omega, rfl⟩
  case round =>
    obtain ⟨k, hk, rfl⟩ := hrel
    by_cases hlt : k < n
    · obtain ⟨G0, G, rfl, rfl, r0, r1⟩ := (unhide HLD).resolve_left (by omega)
      have c0 := r0.cell (j := k * 2) (by rw [unhide HPL]; omega)
      have c1 := r0.cell (j := k * 2 + 1) (by rw [unhide HPL]; omega)
      have c2' := r1.cell (j := k * 2) (by rw [length_addTo, unhide HPL]; omega)
      have c3 := r1.cell (j := k * 2 + 1) (by rw [length_addTo, unhide HPL]; omega)
      have hle : leB (ps.getD (k * 2) 0) (ps.getD (k * 2 + 1) 0) = true := by
        rw [unhide HZP _ (by omega), unhide HZP _ (by omega)]
        exact unhide HSRT k hlt
      obtain ⟨g1, g2⟩ := good_at ps ts n m k (unhide HPL) hmn hle
      have hkn : (k : Int) < n := by omega
      obtain ⟨na, nb⟩ := leB_num hle
      clear r0 r1
      by_cases hkm : k < m
      · obtain ⟨C, rfl, rc⟩ := (unhide HLC).resolve_left (by omega)
        have c4 := rc.cell (j := k) (by rw [unhide HTL]; exact hkm)
        have g := g1 hkm
        clear g1 g2 rc
        generalize (addTo ps ts m).getD (k * 2) 0 = n0 at *
        generalize (addTo ps ts m).getD (k * 2 + 1) 0 = n1 at *
        generalize ps.getD (k * 2) 0 = a at *
        generalize ps.getD (k * 2 + 1) 0 = b at *
        generalize ts.getD k 0 = t at *
        have hkm' : (k : Int) < m := by omega
        have hd3 : decide ((m : Int) ≤ (k : Int)) = false := decide_eq_false (by omega)
        have b1 : (FloatKind.f64.format.order n0 n1 == some .lt || FloatKind.f64.format.order n0 n1 == some .eq) = true := g.b1
        have b2 : (FloatKind.f64.format.order n0 a == some .lt || FloatKind.f64.format.order n0 a == some .eq) = true := g.b2
        have b3 : (FloatKind.f64.format.order n1 b == some .lt || FloatKind.f64.format.order n1 b == some .eq) = true := g.b3
        obtain ⟨nn0, nn1⟩ := leB_num g.b1
        by_cases hN : Num t
        · have bN := num_b hN
          have b4 : (FloatKind.f64.format.order n0 t == some .lt || FloatKind.f64.format.order n0 t == some .eq) = true := g.b4 hN
          have M0 := hide g.m0
          have M1 := hide g.m1
          have NA := hide na
          have NB := hide nb
          have NT := hide hN
          have N0 := hide nn0
          have N1 := hide nn1
          clear g na nb hN nn0 nn1 hle
          go_wp2_with fail
          refine (isNaN_any _ _).mono ?_
          rintro e wx ⟨rfl, hwx⟩
          subst hwx
          go_wp2_with fail
          refine (same_any _ _ _ (unhide N0) (unhide NA)).mono ?_
          rintro e wx ⟨⟨s1, rfl⟩, hs1, hwx⟩
          subst hwx
          cases s1
          · have E0 := hide ((unhide M0).resolve_left (not_said hs1))
            clear hs1
            go_wp2_with fail
            refine (same_t (unhide E0) (unhide N0)).mono ?_
            rintro e wx ⟨rfl, hwx⟩
            subst hwx
            go_wp2_with fail
            refine (same_any _ _ _ (unhide N1) (unhide NA)).mono ?_
            rintro e wx ⟨⟨s2, rfl⟩, hs2, hwx⟩
            subst hwx
            cases s2
            · have M2 := hide ((unhide M1).resolve_left (not_said hs2))
              clear hs2
              go_wp2_with fail
              refine (same_any _ _ _ (unhide N1) (unhide NB)).mono ?_
              rintro e wx ⟨⟨s3, rfl⟩, hs3, hwx⟩
              subst hwx
              cases s3
              · have E1 := hide ((unhide M2).resolve_left (not_said hs3))
                clear hs3
                go_wp2_with fail
                refine (same_t (unhide E1) (unhide N1)).mono ?_
                rintro e wx ⟨rfl, hwx⟩
                subst hwx
                go_wp2
                go_round
                case rel => exact ⟨k + 1, by omega, by go_num⟩
                case measure => simp [intOf]; omega
              · clear hs3
                go_wp2
                go_round
                case rel => exact ⟨k + 1, by omega, by go_num⟩
                case measure => simp [intOf]; omega
            · clear hs2
              go_wp2
              go_round
              case rel => exact ⟨k + 1, by omega, by go_num⟩
              case measure => simp [intOf]; omega
          · clear hs1
            go_wp2_with fail
            refine (same_any _ _ _ (unhide N1) (unhide NA)).mono ?_
            rintro e wx ⟨⟨s2, rfl⟩, hs2, hwx⟩
            subst hwx
            cases s2
            · have M2 := hide ((unhide M1).resolve_left (not_said hs2))
              clear hs2
              go_wp2_with fail
              refine (same_any _ _ _ (unhide N1) (unhide NB)).mono ?_
              rintro e wx ⟨⟨s3, rfl⟩, hs3, hwx⟩
              subst hwx
              cases s3
              · have E1 := hide ((unhide M2).resolve_left (not_said hs3))
                clear hs3
                go_wp2_with fail
                refine (same_t (unhide E1) (unhide N1)).mono ?_
                rintro e wx ⟨rfl, hwx⟩
                subst hwx
                go_wp2
                go_round
                case rel => exact ⟨k + 1, by omega, by go_num⟩
                case measure => simp [intOf]; omega
              · clear hs3
                go_wp2
                go_round
                case rel => exact ⟨k + 1, by omega, by go_num⟩
                case measure => simp [intOf]; omega
            · clear hs2
              go_wp2
              go_round
              case rel => exact ⟨k + 1, by omega, by go_num⟩
              case measure => simp [intOf]; omega
        · have bN := nan_b hN
          obtain ⟨e0, e1⟩ := g.nan hN
          have E0 := hide e0
          have E1 := hide e1
          have N0 := hide nn0
          have N1 := hide nn1
          clear g na nb hN nn0 nn1 hle e0 e1
          go_wp2_with fail
          refine (isNaN_any _ _).mono ?_
          rintro e wx ⟨rfl, hwx⟩
          subst hwx
          go_wp2_with fail
          refine (same_t (unhide E0) (unhide N0)).mono ?_
          rintro e wx ⟨rfl, hwx⟩
          subst hwx
          go_wp2_with fail
          refine (same_t (unhide E1) (unhide N1)).mono ?_
          rintro e wx ⟨rfl, hwx⟩
          subst hwx
          go_wp2
          go_round
          case rel => exact ⟨k + 1, by omega, by go_num⟩
          case measure => simp [intOf]; omega
      · obtain ⟨e0, e1⟩ := g2 hkm
        rw [e0] at c2'
        rw [e1] at c3
        clear g1 g2 e0 e1
        generalize ps.getD (k * 2) 0 = a at *
        generalize ps.getD (k * 2 + 1) 0 = b at *
        have hd3 : decide ((m : Int) ≤ (k : Int)) = true := decide_eq_true (by omega)
        have b1 : (FloatKind.f64.format.order a b == some .lt || FloatKind.f64.format.order a b == some .eq) = true := hle
        have b2 : (FloatKind.f64.format.order a a == some .lt || FloatKind.f64.format.order a a == some .eq) = true := leB_refl na
        have b3 : (FloatKind.f64.format.order b b == some .lt || FloatKind.f64.format.order b b == some .eq) = true := leB_refl nb
        have NA := hide na
        have NB := hide nb
        clear na nb hle
        go_wp2_with fail
        refine (same_t rfl (unhide NA)).mono ?_
        rintro e wx ⟨rfl, hwx⟩
        subst hwx
        go_wp2_with fail
        refine (same_t rfl (unhide NB)).mono ?_
        rintro e wx ⟨rfl, hwx⟩
        subst hwx
        go_wp2
        go_round
        case rel => exact ⟨k + 1, by omega, by go_num⟩
        case measure => simp [intOf]; omega
    · go_wp2
      go_ret
      exact ⟨rfl, unhide HBW⟩
end Go.Proofs.Qxb6600036aMods.Hold
