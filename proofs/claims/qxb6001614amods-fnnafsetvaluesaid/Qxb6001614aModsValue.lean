/-
  THE WALK OF FnNafSetValue (function 3). (An AI prover, Nov 15 2026.)
-/
import Derived.Test.Qxb6001614aModsSmall
import Derived.Test.Qxb6001614aModsAdd
import Derived.Test.Qxb6001614aModsSum
namespace Go.Proofs.Qxb6001614aMods.Naf
open Go.ChangeShapes Go.WideShapes Go.ChangeAt Go.RowKit Go.Proofs.Qxb6001614aMods.Plain

/-- The memory of FnNafSetValue while it adds: the digits, the two sums, the copy of the key. -/
structure Mem (W0 : World) (B : Nat) (d gp gn ks : List Int) (a1 : Option Addr) (len : Nat) (wr : World) : Prop where
  below : Below W0.heap.size W0 wr
  base : W0.heap.size ≤ B
  digits : Rw wr B .i8 d
  pos : Rw wr (B + 1) .u8 gp
  neg : Rw wr (B + 1 + 1) .u8 gn
  key : len = 0 ∨ ∃ kb, a1 = some ⟨kb, 0, none⟩ ∧ kb < B ∧ Rw wr kb .u8 ks

theorem Mem.size {W0 : World} {B : Nat} {d gp gn ks : List Int} {a1 : Option Addr} {len : Nat} {wr : World} (h : Mem W0 B d gp gn ks a1 len wr) : B + 1 + 1 < wr.heap.size := h.neg.lt

theorem Mem.posSet {W0 : World} {B : Nat} {d gp gn ks : List Int} {a1 : Option Addr} {len : Nat} {wr w' : World} (h : Mem W0 B d gp gn ks a1 len wr) (hg : wr.grownBy w' (some (B + 1))) {gp' : List Int} (hr : Rw w' (B + 1) .u8 gp') :
    Mem W0 B d gp' gn ks a1 len w' := by
  have hb := h.base
  have hs := h.size
  refine ⟨h.below.grown hg (by omega) (by simp; omega), hb, h.digits.grown hg (by omega), hr, h.neg.grown hg (by omega), ?_⟩
  rcases h.key with h0 | ⟨kb, h1, h2, h3⟩
  · exact .inl h0
  · exact .inr ⟨kb, h1, h2, h3.grown hg (by omega)⟩

theorem Mem.negSet {W0 : World} {B : Nat} {d gp gn ks : List Int} {a1 : Option Addr} {len : Nat} {wr w' : World} (h : Mem W0 B d gp gn ks a1 len wr) (hg : wr.grownBy w' (some (B + 1 + 1))) {gn' : List Int} (hr : Rw w' (B + 1 + 1) .u8 gn') :
    Mem W0 B d gp gn' ks a1 len w' := by
  have hb := h.base
  have hs := h.size
  refine ⟨h.below.grown hg (by omega) (by simp; omega), hb, h.digits.grown hg (by omega), h.pos.grown hg (by omega), hr, ?_⟩
  rcases h.key with h0 | ⟨kb, h1, h2, h3⟩
  · exact .inl h0
  · exact .inr ⟨kb, h1, h2, h3.grown hg (by omega)⟩

/-- Another row is written, or made. -/
theorem Mem.sumSet {W0 : World} {B : Nat} {d gp gn ks : List Int} {a1 : Option Addr} {len : Nat} {wr w' : World} (h : Mem W0 B d gp gn ks a1 len wr) {S : Nat} (hS : B + 1 + 1 < S) (hg : wr.grownBy w' (some S)) :
    Mem W0 B d gp gn ks a1 len w' := by
  have hb := h.base
  have hs := h.size
  refine ⟨h.below.grown hg (by omega) (by simp; omega), hb, h.digits.grown hg (by omega), h.pos.grown hg (by omega), h.neg.grown hg (by omega), ?_⟩
  rcases h.key with h0 | ⟨kb, h1, h2, h3⟩
  · exact .inl h0
  · exact .inr ⟨kb, h1, h2, h3.grown hg (by omega)⟩

theorem grown_drew {w w' : World} {r : Option Nat} (h : w.grownBy w' r) : w.grownBy w'.drew r := ⟨h.os, h.tape, h.output, h.size, h.block⟩

theorem grown_drewN (w : World) (n : Nat) (r : Option Nat) : w.grownBy (w.drewN n) r := ⟨rfl, rfl, rfl, Nat.le_refl _, fun _ _ _ => rfl⟩
theorem Rw.drewN {w : World} {g : Nat} {k : IntKind} {zs : List Int} (h : Rw w g k zs) (n : Nat) : Rw (w.drewN n) g k zs := h

theorem start_mem (W w2 w3 : World) (d ks : List Int) (a1 : Option Addr) (len : Nat) (c1 c2 : Array Value) (e1 : c1 = ((List.replicate 40 (0 : Int)).map (Value.int .u8)).toArray) (e2 : c2 = ((List.replicate 40 (0 : Int)).map (Value.int .u8)).toArray)
    (r0 : Rw w3 w2.heap.size .i8 d) (s0 : w3.heap.size = w2.heap.size + 1) (b0 : Below W.heap.size W w3) (k0 : len = 0 ∨ ∃ kb, a1 = some ⟨kb, 0, none⟩ ∧ kb < w2.heap.size ∧ Rw w3 kb .u8 ks) (hB : W.heap.size ≤ w2.heap.size) :
    Mem W w2.heap.size d (List.replicate 40 0) (List.replicate 40 0) ks a1 len ((w3.alloc (.cells c1 30)).alloc (.cells c2 30)) := by
  have p1 := Rw.new w3 .u8 (List.replicate 40 0) 30 c1 e1
  have p2 := Rw.new (w3.alloc (.cells c1 30)) .u8 (List.replicate 40 0) 30 c2 e2
  have s1 : (w3.alloc (.cells c1 30)).heap.size = w2.heap.size + 1 + 1 := by simp [s0]
  rw [s0] at p1
  rw [s1] at p2
  refine ⟨(b0.alloc (by omega) _).alloc (by omega) _, hB, (r0.alloc _).alloc _, p1.alloc _, p2, ?_⟩
  rcases k0 with h | ⟨kb, h1, h2, h3⟩
  · exact .inl h
  · exact .inr ⟨kb, h1, h2, (h3.alloc _).alloc _⟩

theorem sum_lt (x y : Int) (D i : Nat) (hi : i < 257) (hD : D ≤ 127) (hx : x = y) (hy : 0 ≤ y ∧ y ≤ 127 * 2 ^ i) : x + D * 2 ^ i < 256 ^ 40 := by
  have h1 := big_lt i (by omega)
  have h2 := two_pow_pos' i
  have h3 : (D : Int) * 2 ^ i ≤ 127 * 2 ^ i := Int.mul_le_mul_of_nonneg_right (by omega) (by omega)
  omega

set_option maxRecDepth 100000 in
set_option maxHeartbeats 1000000 in
theorem value_core (ao : Option Addr) (len cap : Nat) (z : List Int) (w : Nat) (W : World) (h32 : len ≤ 32) (hw : 2 ≤ w) (hw8 : w ≤ 8)
    (hrow : (ao = none ∧ len = 0 ∧ cap = 0 ∧ z = []) ∨ ∃ x, ao = some x ∧ len ≤ cap ∧ cap ≤ maxLen ∧ z.length = cap ∧ (∀ i, i < z.length → W.cell? (x.add i) = some (.int .u8 (z.getD i 0))) ∧ ∀ n ∈ z, (Lit.int .u8 n).wf = true) :
    Calls Trym.prog 3 #[.slice ao len cap, .int .u64 w] W fun e w' => e = .returned (.bool true) ∧ Below W.heap.size W w' := by
  obtain ⟨Z1, hz1, he1⟩ := zero27
  have hd1 : decide ((32 : Int) < (len : Int)) = false := decide_eq_false (by omega)
  have hd2 : decide ((w : Int) < 2) = false := decide_eq_false (by omega)
  have hd3 : decide ((8 : Int) < (w : Int)) = false := decide_eq_false (by omega)
  have HR := hide hrow
  clear hrow
  go_enter Trym.func3, Trym.ntmps3
  go_wp2_with fail
  refine (bytes5_yes ao len cap w _ (by omega)).mono ?_
  rintro e W ⟨rfl, rfl⟩
  go_wp2_with fail
  refine (clone_any ao len cap z _ h32 (unhide HR)).mono ?_
  rintro e w1 ⟨a1, ks, rfl, hb1, hks, hby, hk1⟩
  have HKS := hide hks
  have HK1 := hide hk1
  have HB1 := hide hb1
  clear hks hk1 hb1 HR
  go_wp2_with fail
  refine (zznaf_any a1 len len w ks _ h32 (unhide HKS) hw hw8 ?hk2 hby).mono ?_
  case hk2 =>
    rcases unhide HK1 with h | ⟨kb, h1, h2, h3⟩
    · exact .inl h
    · exact .inr ⟨kb, h1, h3⟩
  rintro e w2 ⟨L, d, D, rfl, hD, hnaf, hb2⟩
  have HB2 := hide hb2
  clear hb2
  have hdl := hnaf.len
  have hl : Hid (d.length = (List.replicate 257 (0 : Int)).length) := by unfold Hid; rw [List.length_replicate, hdl]
  have hs27 : Hid ((Trym.prog.info? 27).map (·.size) = some d.length) := by unfold Hid; rw [hdl]; exact size27
  have HNAF := hide hnaf
  clear hdl hnaf
  go_wp2_with (refine wpList_store_Rw rfl 27 (.tmp 5) (.tmp 35) rfl w2.heap.size D rfl rfl (Rw.new w2 .i8 (List.replicate 257 0) 27 Z1 (unhide he1)) d hD hl hs27 ?_)
  have hbd : ∀ i, -127 ≤ d.getD i 0 ∧ d.getD i 0 ≤ 127 := by
    intro i
    have hp : 2 ^ (w - 1) ≤ 2 ^ 7 := Nat.pow_le_pow_right (by decide) (by omega)
    rcases (unhide HNAF).odd i with h | h <;> omega
  have HBD := hide hbd
  clear hbd
  have HB0 : Hid (W.heap.size ≤ w2.heap.size) := hide (Nat.le_trans (unhide HB1).size (unhide HB2).size)
  have HBB : Hid (Below W.heap.size W w2) := hide ((unhide HB1).trans ((unhide HB2).mono (unhide HB1).size))
  have HKK : Hid (len = 0 ∨ ∃ kb, a1 = some ⟨kb, 0, none⟩ ∧ kb < w2.heap.size ∧ Rw w2 kb .u8 ks) := by
    rcases unhide HK1 with h | ⟨kb, h1, h2, h3⟩
    · exact .inl h
    · exact .inr ⟨kb, h1, Nat.lt_of_lt_of_le h3.lt (unhide HB2).size, h3.below (unhide HB2) h3.lt⟩
  clear HK1
  go_loopw [9] (fun ti wr => ∃ (i : Nat) (gp gn : List Int), i ≤ 257 ∧ ti = .int .i64 i ∧ Mem W w2.heap.size d gp gn ks a1 len wr ∧ gp.length = 40 ∧ gn.length = 40 ∧ Byt gp ∧ Byt gn ∧ ev 256 gp = P d i ∧ ev 256 gn = N d i)
    (fun ti _ => 257 - (intOf ti).toNat)
  case atStart =>
    refine ⟨0, List.replicate 40 0, List.replicate 40 0, by omega, rfl, ?_, rfl, rfl, Byt.zeros _, Byt.zeros _, ev_zeros _ _, ev_zeros _ _⟩
    have r0 : Rw ((w2.alloc (.cells Z1 27)).setRow w2.heap.size D) w2.heap.size .i8 d := (Rw.new w2 .i8 (List.replicate 257 0) 27 Z1 (unhide he1)).setRow D d (unhide hD)
    have s0 : ((w2.alloc (.cells Z1 27)).setRow w2.heap.size D).heap.size = w2.heap.size + 1 := by simp
    have b0 : Below W.heap.size W ((w2.alloc (.cells Z1 27)).setRow w2.heap.size D) := below_setRow' ((unhide HBB).alloc (unhide HB0) _) (unhide HB0) D
    have k0 : len = 0 ∨ ∃ kb, a1 = some ⟨kb, 0, none⟩ ∧ kb < w2.heap.size ∧ Rw ((w2.alloc (.cells Z1 27)).setRow w2.heap.size D) kb .u8 ks := by
      rcases unhide HKK with h | ⟨kb, h1, h2, h3⟩
      · exact .inl h
      · exact .inr ⟨kb, h1, h2, (h3.alloc _).setRow_other D (by omega)⟩
    generalize (w2.alloc (.cells Z1 27)).setRow w2.heap.size D = w3 at *
    exact start_mem W w2 w3 d ks a1 len _ _ rfl rfl r0 s0 b0 k0 (unhide HB0)
  case round =>
    obtain ⟨i, gp, gn, hi, rfl, hm, hgp, hgn, hbp, hbn, hP, hN⟩ := hrel
    have HGP := hide hgp
    have HGN := hide hgn
    have HP := hide hP
    have HN := hide hN
    clear hgp hgn hP hN
    by_cases hlt : i < 257
    · have hx := hm.digits.cell (j := i) (by rw [(unhide HNAF).len]; exact hlt)
      have hxb := unhide HBD i
      have hPs : P d (i + 1) = P d i + pp (d.getD i 0) * 2 ^ i := rfl
      have hNs : N d (i + 1) = N d i + nn (d.getD i 0) * 2 ^ i := rfl
      generalize d.getD i 0 = x at *
      have HPS := hide hPs
      have HNS := hide hNs
      clear hPs hNs
      have hlt' : (i : Int) < 257 := by omega
      by_cases h0 : 0 < x
      · obtain ⟨D', rfl⟩ := Int.eq_ofNat_of_zero_le (show 0 ≤ x by omega)
        have e1 : pp (D' : Int) = D' := by unfold pp; rw [if_pos h0]
        have e2 : nn (D' : Int) = 0 := by unfold nn; rw [if_neg (by omega)]
        have hPS := unhide HPS
        have hNS := unhide HNS
        rw [e1] at hPS
        rw [e2] at hNS
        have HPS' := hide hPS
        have HNS' := hide hNS
        clear e1 e2 hPS hNS HPS HNS
        go_wp2_with fail
        refine (add_any (w2.heap.size + 1) D' i gp _ (by omega) (by omega) hm.pos (unhide HGP) hbp (sum_lt _ _ D' i hlt (by omega) (unhide HP) (P_bd d (unhide HBD) i))).mono ?_
        rintro e w4 ⟨rfl, hg4, _, gp', hr4, hl4, hb4, hev4⟩
        have hm4 := hm.posSet hg4 hr4
        rw [unhide HP, ← unhide HPS'] at hev4
        have hN4 : ev 256 gn = N d (i + 1) := by rw [unhide HNS', unhide HN]; simp
        have HEV := hide hev4
        have HN4 := hide hN4
        have HL4 := hide hl4
        clear hev4 hN4 hl4 hg4 hr4 hx HP HN HPS' HNS' hm
        go_wp2
        go_roundw
        case rel => exact ⟨i + 1, gp', gn, by omega, by go_num, hm4, unhide HL4, unhide HGN, hb4, hbn, unhide HEV, unhide HN4⟩
        case measure => simp [intOf]; omega
      · by_cases h1 : x < 0
        · obtain ⟨D', rfl⟩ : ∃ D' : Nat, x = -(D' : Int) := ⟨(-x).toNat, by omega⟩
          have e1 : pp (-(D' : Int)) = 0 := by unfold pp; rw [if_neg h0]
          have e2 : nn (-(D' : Int)) = D' := by unfold nn; rw [if_pos h1]; omega
          have hPS := unhide HPS
          have hNS := unhide HNS
          rw [e1] at hPS
          rw [e2] at hNS
          have HPS' := hide hPS
          have HNS' := hide hNS
          clear e1 e2 hPS hNS HPS HNS
          go_wp2_with fail
          refine (add_any (w2.heap.size + 1 + 1) D' i gn _ (by omega) (by omega) hm.neg (unhide HGN) hbn (sum_lt _ _ D' i hlt (by omega) (unhide HN) (N_bd d (unhide HBD) i))).mono ?_
          rintro e w4 ⟨rfl, hg4, _, gn', hr4, hl4, hb4, hev4⟩
          have hm4 := hm.negSet hg4 hr4
          rw [unhide HN, ← unhide HNS'] at hev4
          have hP4 : ev 256 gp = P d (i + 1) := by rw [unhide HPS', unhide HP]; simp
          have HEV := hide hev4
          have HP4 := hide hP4
          have HL4 := hide hl4
          clear hev4 hP4 hl4 hg4 hr4 hx HP HN HPS' HNS' hm
          go_wp2
          go_roundw
          case rel => exact ⟨i + 1, gp, gn', by omega, by go_num, hm4, unhide HGP, unhide HL4, hbp, hb4, unhide HP4, unhide HEV⟩
          case measure => simp [intOf]; omega
        · obtain rfl : x = 0 := by omega
          have hP4 : ev 256 gp = P d (i + 1) := by rw [unhide HPS, unhide HP]; simp [pp]
          have hN4 : ev 256 gn = N d (i + 1) := by rw [unhide HNS, unhide HN]; simp [nn]
          have HN4 := hide hN4
          have HP4 := hide hP4
          clear hP4 hN4 HP HN HPS HNS
          go_wp2
          go_roundw
          case rel => exact ⟨i + 1, gp, gn, by omega, by go_num, hm, unhide HGP, unhide HGN, hbp, hbn, unhide HP4, unhide HN4⟩
          case measure => simp [intOf]; omega
    · obtain rfl : i = 257 := by omega
      have hPN := PN d 257
      rw [List.take_of_length_le (by rw [(unhide HNAF).len]; omega), (unhide HNAF).val, ← unhide HP, ← unhide HN, kv_ev ks hby] at hPN
      have hPlt : ev 256 gp < 256 ^ 40 := by rw [← unhide HGP]; exact hbp.ev.2
      have hsum : ev 256 gn + ev 256 ks = ev 256 gp := by omega
      have HSUM := hide hsum
      have HPLT := hide hPlt
      clear hsum hPlt hPN HP HN
      go_wp2
      have hsz := hm.size
      generalize hS : wr.heap.size = S at *
      have HS := hide hS
      clear hS
      go_loopw [12, 13] (fun tc tj wq => ∃ (j : Nat) (c : Int) (s : List Int), j ≤ 40 ∧ tc = .int .i64 c ∧ tj = .int .i64 j ∧ 0 ≤ c ∧ c ≤ 1 ∧ Mem W w2.heap.size d gp gn ks a1 len wq ∧ Rw wq S .u8 s ∧ s.length = 40 ∧ Byt s ∧
          ev 256 (s.take j) + c * 256 ^ j = ev 256 (gn.take j) + ev 256 (ks.take j))
        (fun _ tj _ => 40 - (intOf tj).toNat)
      case atStart =>
        refine ⟨0, 0, List.replicate 40 0, by omega, rfl, rfl, by omega, by omega, hm.sumSet hsz (World.grownBy_alloc _ _ _), ?_, rfl, Byt.zeros _, by simp [ev]⟩
        have := Rw.new wr .u8 (List.replicate 40 0) 30 _ rfl
        rw [unhide HS] at this
        exact this
      case round =>
        clear hm
        obtain ⟨j, c, s, hj, rfl, rfl, hc0, hc1, hm, hrs, hsl, hbs, hev⟩ := hrel
        have HSL := hide hsl
        have HEV := hide hev
        clear hsl hev
        by_cases hlt2 : j < 40
        · have hcn := hm.neg.cell (j := j) (by rw [unhide HGN]; exact hlt2)
          have hcs := hrs.cell (j := j) (by rw [unhide HSL]; exact hlt2)
          have hfs := hrs.frozen j
          have hbn' := hbn j
          have hstep := sum_step s gn ks j (by rw [unhide HSL]; exact hlt2) c (unhide HEV)
          generalize s.getD j 0 = sv at hcs
          have h255 := i64_and255
          have hlt2' : (j : Int) < 40 := by omega
          by_cases hjl : j < len
          · obtain ⟨kb, hkb1, hkb2, hkb3⟩ := hm.key.resolve_left (by omega)
            subst hkb1
            have hck := hkb3.cell (j := j) (by rw [unhide HKS]; exact hjl)
            have hbk := hby (ks.getD j 0) (by rw [List.getD_eq_getElem?_getD, List.getElem?_eq_getElem (by rw [unhide HKS]; exact hjl)]; simp)
            generalize ks.getD j 0 = kv at *
            generalize gn.getD j 0 = nv at *
            have HSTEP := hide (hstep _ rfl)
            clear hstep
            go_wp2
            go_roundw
            case rel =>
              exact ⟨j + 1, _, _, by omega, rfl, by go_num, by omega, by omega, hm.sumSet hsz (grown_set (grown_refl _ _) j _), hrs.set j _, by rw [List.length_set]; exact unhide HSL, hbs.set j _ ⟨by omega, by omega⟩, unhide HSTEP⟩
            case measure => simp [intOf]; omega
          · have hk0 : ks.getD j 0 = 0 := by rw [List.getD_eq_getElem?_getD, List.getElem?_eq_none (by rw [unhide HKS]; omega)]; rfl
            rw [hk0] at hstep
            generalize gn.getD j 0 = nv at *
            have HSTEP := hide (hstep (nv + c) (by omega))
            clear hstep hk0
            go_wp2
            go_roundw
            case rel =>
              exact ⟨j + 1, _, _, by omega, rfl, by go_num, by omega, by omega, hm.sumSet hsz (grown_set (grown_refl _ _) j _), hrs.set j _, by rw [List.length_set]; exact unhide HSL, hbs.set j _ ⟨by omega, by omega⟩, unhide HSTEP⟩
            case measure => simp [intOf]; omega
        · obtain rfl : j = 40 := by omega
          have hfin := unhide HEV
          rw [List.take_of_length_le (by rw [unhide HSL]; omega), List.take_of_length_le (by rw [unhide HGN]; omega), List.take_of_length_le (by rw [unhide HKS]; omega), unhide HSUM] at hfin
          have hc : c = 0 := by
            have h1 := hbs.ev.1
            have h2 := unhide HPLT
            rcases (by omega : c = 0 ∨ c = 1) with h | h
            · exact h
            · subst h; omega
          subst hc
          have hsg : s = gp := Byt.inj hbs hbp (by rw [unhide HSL, unhide HGP]) (by omega)
          subst hsg
          clear hfin HEV
          go_wp2
          go_loopw [15] (fun tj wz => ∃ j : Nat, j ≤ 40 ∧ tj = .int .i64 j ∧ Mem W w2.heap.size d s gn ks a1 len wz ∧ Rw wz S .u8 s)
            (fun tj _ => 40 - (intOf tj).toNat)
          case atStart => exact ⟨0, by omega, rfl, hm, hrs⟩
          case round =>
            clear hm hrs
            obtain ⟨j, hj, rfl, hm, hrs⟩ := hrel
            by_cases hlt3 : j < 40
            · have hc1 := hm.pos.cell (j := j) (by rw [unhide HSL]; exact hlt3)
              have hc2 := hrs.cell (j := j) (by rw [unhide HSL]; exact hlt3)
              generalize s.getD j 0 = sv at *
              have hlt3' : (j : Int) < 40 := by omega
              go_wp2
              go_quiet (fail)
              go_wp2
              go_roundw
              case rel => exact ⟨j + 1, by omega, by go_num, hm.sumSet hsz (grown_drewN _ _ _), hrs.drewN _⟩
              case measure => simp [intOf]; omega
            · go_wp2
              go_ret
              exact ⟨rfl, hm.below⟩

/-! ### The early ways out -/
theorem value_big (ao : Option Addr) (len cap : Nat) (x : Int) (W : World) (h : ¬ len ≤ 1048576) :
    Calls Trym.prog 3 #[.slice ao len cap, .int .u64 x] W fun e w' => e = .returned (.bool true) ∧ w' = W := by
  go_enter Trym.func3, Trym.ntmps3
  go_wp2_with fail
  refine (bytes5_no ao len cap x _ h).mono ?_
  rintro e W ⟨rfl, rfl⟩
  go_wp2
  go_ret
  exact ⟨rfl, rfl⟩

theorem value_long (ao : Option Addr) (len cap : Nat) (x : Int) (W : World) (h : len ≤ 1048576) (h32 : ¬ len ≤ 32) :
    Calls Trym.prog 3 #[.slice ao len cap, .int .u64 x] W fun e w' => e = .returned (.bool true) ∧ w' = W := by
  go_enter Trym.func3, Trym.ntmps3
  go_wp2_with fail
  refine (bytes5_yes ao len cap x _ h).mono ?_
  rintro e W ⟨rfl, rfl⟩
  go_wp2
  go_ret
  exact ⟨rfl, rfl⟩

theorem value_narrow (ao : Option Addr) (len cap : Nat) (x : Int) (W : World) (h32 : len ≤ 32) (hx : x < 2) :
    Calls Trym.prog 3 #[.slice ao len cap, .int .u64 x] W fun e w' => e = .returned (.bool true) ∧ w' = W := by
  have hd2 : decide (x < 2) = true := decide_eq_true hx
  go_enter Trym.func3, Trym.ntmps3
  go_wp2_with fail
  refine (bytes5_yes ao len cap x _ (by omega)).mono ?_
  rintro e W ⟨rfl, rfl⟩
  go_wp2
  go_ret
  exact ⟨rfl, rfl⟩

theorem value_wide (ao : Option Addr) (len cap : Nat) (x : Int) (W : World) (h32 : len ≤ 32) (hx : ¬ x < 2) (hx8 : 8 < x) :
    Calls Trym.prog 3 #[.slice ao len cap, .int .u64 x] W fun e w' => e = .returned (.bool true) ∧ w' = W := by
  have hd2 : decide (x < 2) = false := decide_eq_false hx
  have hd3 : decide (8 < x) = true := decide_eq_true hx8
  go_enter Trym.func3, Trym.ntmps3
  go_wp2_with fail
  refine (bytes5_yes ao len cap x _ (by omega)).mono ?_
  rintro e W ⟨rfl, rfl⟩
  go_wp2
  go_ret
  exact ⟨rfl, rfl⟩
end Go.Proofs.Qxb6001614aMods.Naf
