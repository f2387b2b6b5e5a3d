/-
  THE WALKS OF bitLen (function 10) AND FnNafSetShape (function 4). (An AI prover, Nov 15 2026.)
-/
import Derived.Test.Qxb6001614aModsSmall
import Derived.Test.Qxb6001614aModsSum
namespace Go.Proofs.Qxb6001614aMods.Naf
open Go.ChangeShapes Go.WideShapes Go.ChangeAt Go.RowKit Go.Proofs.Qxb6001614aMods.Plain

/-! ### The plain part of bitLen -/
theorem kv_take_succ (ks : List Int) (m : Nat) (h : m < ks.length) : kv (ks.take (m + 1)) = 2 ^ (8 * m) * (ks.getD m 0).toNat + kv (ks.take m) := by
  rw [List.take_succ_eq_append_getElem h, kv_snoc, List.length_take_of_le (by omega), pow256]
  simp [List.getD_eq_getElem?_getD, List.getElem?_eq_getElem h]

theorem kv_take_lt (ks : List Int) (hby : ∀ x ∈ ks, 0 ≤ x ∧ x < 256) (m : Nat) (h : m ≤ ks.length) : kv (ks.take m) < 2 ^ (8 * m) := by
  have := kv_lt (ks.take m) (fun x hx => hby x (List.mem_of_mem_take hx))
  rw [List.length_take_of_le h, pow256] at this
  exact this

theorem len_top (m l x r : Nat) (hx : x < 2 ^ l) (hr : r < 2 ^ (8 * m)) : 2 ^ (8 * m) * x + r < 2 ^ (8 * m + l) := by
  rw [Nat.pow_add]
  have : 2 ^ (8 * m) * (x + 1) ≤ 2 ^ (8 * m) * 2 ^ l := Nat.mul_le_mul_left _ hx
  rw [Nat.mul_add] at this
  omega

set_option maxHeartbeats 400000 in
theorem bitlen_any (ao : Option Addr) (len : Nat) (ks : List Int) (w : World) (h32 : len ≤ 32) (hl : ks.length = len) (hby : ∀ x ∈ ks, 0 ≤ x ∧ x < 256)
    (hk : len = 0 ∨ ∃ kb, ao = some ⟨kb, 0, none⟩ ∧ Rw w kb .u8 ks) :
    Calls Trym.prog 10 #[.slice ao len len] w fun e w' => ∃ bl : Nat, e = .returned (.int .i64 bl) ∧ w' = w ∧ kv ks < 2 ^ bl ∧ (bl = 0 ∨ 0 < kv ks) ∧ bl ≤ 300 := by
  have HL := hide hl
  clear hl
  go_enter Trym.func10, Trym.ntmps10
  go_wp2
  go_loop [3] (fun tj => ∃ m : Nat, m ≤ len ∧ tj = .int .i64 ((m : Int) - 1) ∧ kv ks = kv (ks.take m)) (fun tj => (intOf tj + 1).toNat)
  case atStart => exact ⟨len, Nat.le_refl _, rfl, by rw [List.take_of_length_le (by rw [unhide HL]; omega)]⟩
  case round =>
    obtain ⟨m, hm, rfl, hkv⟩ := hrel
    have HKV := hide hkv
    clear hkv
    match m, hm, HKV with
    | 0, hm, HKV =>
      go_wp2
      go_ret
      have h0 : kv ks = 0 := by rw [unhide HKV]; rfl
      exact ⟨0, rfl, rfl, by rw [h0]; decide, .inl rfl, by omega⟩
    | m + 1, hm, HKV =>
      obtain ⟨kb, rfl, hrw⟩ := hk.resolve_left (by omega)
      have hc := hrw.cell (j := m) (by rw [unhide HL]; omega)
      have hxb := hby (ks.getD m 0) (by rw [List.getD_eq_getElem?_getD, List.getElem?_eq_getElem (by rw [unhide HL]; omega)]; simp)
      have hsu := kv_take_succ ks m (by rw [unhide HL]; omega)
      have hlt := kv_take_lt ks hby m (by rw [unhide HL]; omega)
      have hK := unhide HKV
      rw [hsu] at hK
      generalize ks.getD m 0 = x at *
      obtain ⟨x, rfl⟩ := Int.eq_ofNat_of_zero_le hxb.1
      rw [Int.toNat_natCast] at hK
      have HK := hide hK
      have HLT := hide hlt
      clear hK hlt hsu HKV
      have em : ((m + 1 : Nat) : Int) - 1 = m := by omega
      rw [em]
      have hmi : (m : Int) < len := by omega
      by_cases hx0 : x = 0
      · subst hx0
        go_wp2
        go_round
        case rel => exact ⟨m, by omega, rfl, by rw [unhide HK]; simp⟩
        case measure => simp [intOf]
      · have hne : ((x : Int) == 0) = false := by simp; omega
        have hne' : ((x : Int) != 0) = true := by simp; omega
        go_wp2
        go_loop [4, 5] (fun tb tl => ∃ l : Nat, l ≤ 8 ∧ tl = .int .i64 l ∧ tb = .int .u8 ((x / 2 ^ l : Nat) : Int)) (fun _ tl => 8 - (intOf tl).toNat)
        case atStart => exact ⟨0, by omega, rfl, by simp⟩
        case round =>
          obtain ⟨l, hl8, rfl, rfl⟩ := hrel
          have hs : x / 2 ^ (l + 1) = x / 2 ^ l / 2 := by rw [Nat.pow_succ, Nat.div_div_eq_div_mul]
          have hle : x / 2 ^ l ≤ x := Nat.div_le_self _ _
          have h8 : l = 8 → x / 2 ^ l = 0 := by
            intro h
            subst h
            exact Nat.div_eq_of_lt (by omega)
          have hz : x / 2 ^ l = 0 → x < 2 ^ l := fun h => by
            rcases Nat.div_eq_zero_iff.1 h with h' | h'
            · exact absurd h' (by have := Nat.two_pow_pos l; omega)
            · exact h'
          have HSS := hide hs
          generalize x / 2 ^ l = y at *
          have H8 := hide h8
          have HZ := hide hz
          clear hs h8 hz
          by_cases hy0 : y = 0
          · have hxl := unhide HZ hy0
            subst hy0
            go_wp2
            go_ret
            refine ⟨8 * m + l, ?_, rfl, ?_, .inr ?_, by omega⟩
            · go_num
            · rw [unhide HK]; exact len_top m l x _ hxl (unhide HLT)
            · rw [unhide HK]
              have := Nat.mul_le_mul_left (2 ^ (8 * m)) (show 1 ≤ x by omega)
              have := Nat.two_pow_pos (8 * m)
              omega
          · have hney : ((y : Int) == 0) = false := by simp; omega
            have hney' : ((y : Int) != 0) = true := by simp; omega
            have hl7 : l < 8 := by
              rcases (by omega : l = 8 ∨ l < 8) with h | h
              · exact absurd (unhide H8 h) hy0
              · exact h
            go_wp2
            go_round
            case rel => exact ⟨l + 1, by omega, by go_num, by rw [unhide HSS]; go_num⟩
            case measure => simp [intOf]; omega

theorem ev_all0 (b : Int) : ∀ l : List Int, (∀ i, l.getD i 0 = 0) → ev b l = 0
  | [], _ => rfl
  | x :: r, h => by
    have h0 : x = 0 := by simpa using h 0
    have := ev_all0 b r (fun i => by simpa using h (i + 1))
    simp [ev, h0, this]

/-- What the length says of the key's highest bit. -/
theorem naf_len {K w L bl : Nat} {d : List Int} (h : Naf K w L d) (h1 : K < 2 ^ bl) (h2 : bl = 0 ∨ 0 < K) : (L = 0 ↔ bl = 0) ∧ L ≤ bl + 1 := by
  have hK0 : bl = 0 → K = 0 := fun e => by subst e; simpa using h1
  rcases h.top with h0 | ⟨ht, hp⟩
  · subst h0
    have hev := ev_all0 2 d (fun i => h.zero i (by omega))
    have hv := h.val
    refine ⟨⟨fun _ => ?_, fun _ => rfl⟩, by omega⟩
    rcases h2 with h2 | h2
    · exact h2
    · omega
  · have hKpos : 0 < K := by have := Nat.two_pow_pos (L - 1); omega
    have hLz : L ≠ 0 := by
      intro e
      subst e
      exact ht (h.zero _ (by omega))
    refine ⟨⟨fun e => absurd e hLz, fun e => by have := hK0 e; omega⟩, ?_⟩
    have hlt : 2 ^ (L - 1) < 2 ^ (bl + 1) := by rw [Nat.pow_succ]; omega
    have := (Nat.pow_lt_pow_iff_right (by decide)).1 hlt
    omega

set_option maxRecDepth 100000 in
set_option maxHeartbeats 1000000 in
theorem shape_core (ao : Option Addr) (len cap : Nat) (z : List Int) (w : Nat) (W : World) (h32 : len ≤ 32) (hw : 2 ≤ w) (hw8 : w ≤ 8)
    (hrow : (ao = none ∧ len = 0 ∧ cap = 0 ∧ z = []) ∨ ∃ x, ao = some x ∧ len ≤ cap ∧ cap ≤ maxLen ∧ z.length = cap ∧ (∀ i, i < z.length → W.cell? (x.add i) = some (.int .u8 (z.getD i 0))) ∧ ∀ n ∈ z, (Lit.int .u8 n).wf = true) :
    Calls Trym.prog 4 #[.slice ao len cap, .int .u64 w] W fun e w' => e = .returned (.bool true) ∧ Below W.heap.size W w' := by
  obtain ⟨Z1, hz1, he1⟩ := zero27
  have hd1 : decide ((32 : Int) < (len : Int)) = false := decide_eq_false (by omega)
  have hd2 : decide ((w : Int) < 2) = false := decide_eq_false (by omega)
  have hd3 : decide ((8 : Int) < (w : Int)) = false := decide_eq_false (by omega)
  have HR := hide hrow
  clear hrow
  go_enter Trym.func4, Trym.ntmps4
  go_wp2_with fail
  refine (bytes9_yes ao len cap w _ (by omega)).mono ?_
  rintro e W ⟨rfl, rfl⟩
  go_wp2_with fail
  refine (clone_any ao len cap z _ h32 (unhide HR)).mono ?_
  rintro e w1 ⟨a1, ks, rfl, hb1, hks, hby, hk1⟩
  have HKS := hide hks
  have HK1 := hide hk1
  have HB1 := hide hb1
  clear hks hk1 hb1 HR
  go_wp2_with fail
  refine (zznaf_any a1 len len w ks _ h32 (unhide HKS) hw hw8 ?hk2 hby).mono ?_
  case hk2 =>
    rcases unhide HK1 with h | ⟨kb, h1, h2, h3⟩
    · exact .inl h
    · exact .inr ⟨kb, h1, h3⟩
  rintro e w2 ⟨L, d, D, rfl, hD, hnaf, hb2⟩
  have HB2 := hide hb2
  have hdl := hnaf.len
  have hl : Hid (d.length = (List.replicate 257 (0 : Int)).length) := by unfold Hid; rw [List.length_replicate, hdl]
  have hs27 : Hid ((Trym.prog.info? 27).map (·.size) = some d.length) := by unfold Hid; rw [hdl]; exact size27
  have hL := hnaf.lle
  have HNAF := hide hnaf
  clear hdl hnaf hb2
  have hd4 : decide ((L : Int) < 0) = false := decide_eq_false (by omega)
  have hd5 : decide ((257 : Int) < (L : Int)) = false := decide_eq_false (by omega)
  go_wp2_with (refine wpList_store_Rw rfl 27 (.tmp 5) (.tmp 31) rfl w2.heap.size D rfl rfl (Rw.new w2 .i8 (List.replicate 257 0) 27 Z1 (unhide he1)) d hD hl hs27 ?_)
  have r0 : Rw ((w2.alloc (.cells Z1 27)).setRow w2.heap.size D) w2.heap.size .i8 d := (Rw.new w2 .i8 (List.replicate 257 0) 27 Z1 (unhide he1)).setRow D d (unhide hD)
  have hB0 : W.heap.size ≤ w2.heap.size := Nat.le_trans (unhide HB1).size (unhide HB2).size
  have b0 : Below W.heap.size W ((w2.alloc (.cells Z1 27)).setRow w2.heap.size D) :=
    below_setRow' (((unhide HB1).trans ((unhide HB2).mono (unhide HB1).size)).alloc hB0 _) hB0 D
  have k0 : len = 0 ∨ ∃ kb, a1 = some ⟨kb, 0, none⟩ ∧ Rw ((w2.alloc (.cells Z1 27)).setRow w2.heap.size D) kb .u8 ks := by
    rcases unhide HK1 with h | ⟨kb, h1, h2, h3⟩
    · exact .inl h
    · have := h3.lt
      have := (unhide HB2).size
      exact .inr ⟨kb, h1, ((h3.below (unhide HB2) h3.lt).alloc _).setRow_other D (by omega)⟩
  generalize (w2.alloc (.cells Z1 27)).setRow w2.heap.size D = w3 at *
  have HB3 := hide b0
  have HK3 := hide k0
  clear b0 k0 HK1 HB1 HB2 hz1 he1 hl hs27 hD
  have hq7 : 2 ^ (w - 1) ≤ 2 ^ 7 := Nat.pow_le_pow_right (by decide) (by omega)
  have hqw : wrap64 (2 ^ (w - 1)) = ((2 ^ (w - 1) : Nat) : Int) := by
    have e : (2 : Int) ^ (w - 1) = ((2 ^ (w - 1) : Nat) : Int) := by rw [Int.natCast_pow]; rfl
    rw [e]
    generalize 2 ^ (w - 1) = Q at *
    exact IntWalk.wrap64_in _ ⟨by omega, by omega⟩
  have hodd := (unhide HNAF).odd
  rw [hqw]
  generalize 2 ^ (w - 1) = Q at *
  have HODD := hide hodd
  have HGAP := hide (unhide HNAF).gap
  clear hodd hqw
  go_loop [8, 9] (fun tl ti => ∃ i q : Nat, i ≤ 257 ∧ q ≤ i ∧ ti = .int .i64 i ∧ tl = .int .i64 ((q : Int) - 1) ∧ (q = 0 ∨ d.getD (q - 1) 0 ≠ 0) ∧ ∀ j, q ≤ j → j < i → d.getD j 0 = 0)
    (fun _ ti => 257 - (intOf ti).toNat)
  case atStart => exact ⟨0, 0, by omega, by omega, rfl, rfl, .inl rfl, fun j _ h => absurd h (by omega)⟩
  case round =>
    obtain ⟨i, q, hi, hq, rfl, rfl, hq1, hq2⟩ := hrel
    have HQ1 := hide hq1
    have HQ2 := hide hq2
    clear hq1 hq2
    by_cases hlt : i < 257
    · have hc := r0.cell (j := i) (by rw [(unhide HNAF).len]; exact hlt)
      have hlt' : (i : Int) < 257 := by omega
      have hand := i64_and1
      by_cases hx0 : d.getD i 0 = 0
      · have HX0 := hide hx0
        rw [hx0] at hc
        clear hx0
        go_wp2
        go_round
        case rel =>
          refine ⟨i + 1, q, by omega, by omega, by go_num, rfl, unhide HQ1, fun j h1 h2 => ?_⟩
          rcases (by omega : j = i ∨ j < i) with h | h
          · subst h; exact unhide HX0
          · exact unhide HQ2 j h1 h
        case measure => simp [intOf]; omega
      · have hodd := (unhide HODD i).resolve_left hx0
        have hgap : q = 0 ∨ q - 1 + w ≤ i := by
          rcases unhide HQ1 with h | h
          · exact .inl h
          · rcases Nat.eq_zero_or_pos q with h0 | h0
            · exact .inl h0
            · exact .inr (unhide HGAP (q - 1) i (by omega) h hx0)
        have HDI := hide hx0
        obtain ⟨x, hxi⟩ : ∃ x, x = d.getD i 0 := ⟨_, rfl⟩
        rw [← hxi] at hc hodd hx0
        clear hxi
        have hxe : (x == 0) = false := by simp [hx0]
        have hx2 : x % 2 = 1 := hodd.1
        have hg1 : decide ((Q : Int) ≤ x) = false := decide_eq_false (by omega)
        have hg2 : decide ((Q : Int) ≤ -x) = false := decide_eq_false (by omega)
        rcases Nat.eq_zero_or_pos q with h0 | h0
        · subst h0
          have hg3 : decide ((0 : Int) ≤ ((0 : Nat) : Int) - 1) = false := by decide
          go_wp2
          go_round
          case rel => exact ⟨i + 1, i + 1, by omega, by omega, by go_num, by go_num, .inr (unhide HDI), fun j h1 h2 => absurd h2 (by omega)⟩
          case measure => simp [intOf]; omega
        · have hg3 : decide ((0 : Int) ≤ (q : Int) - 1) = true := decide_eq_true (by omega)
          have hg4 : decide ((i : Int) - ((q : Int) - 1) < (w : Int)) = false := decide_eq_false (by omega)
          go_wp2
          go_round
          case rel => exact ⟨i + 1, i + 1, by omega, by omega, by go_num, by go_num, .inr (unhide HDI), fun j h1 h2 => absurd h2 (by omega)⟩
          case measure => simp [intOf]; omega
    · obtain rfl : i = 257 := by omega
      have hqL : q = L := by
        have hz := (unhide HNAF).zero
        have ht := (unhide HNAF).top
        rcases Nat.lt_trichotomy q L with h | h | h
        · rcases ht with h0 | ⟨h1, _⟩
          · omega
          · exact absurd (unhide HQ2 (L - 1) (by omega) (by omega)) h1
        · exact h
        · rcases unhide HQ1 with h0 | h1
          · omega
          · exact absurd (hz (q - 1) (by omega)) h1
      subst hqL
      have hbne : ((q : Int) != (q : Int) - 1 + 1) = false := by simp
      go_wp2_with fail
      refine (bitlen_any a1 len ks _ h32 (unhide HKS) hby (unhide HK3)).mono ?_
      rintro e w4 ⟨bl, rfl, rfl, hk1, hk2, hk3⟩
      have htop := naf_len (unhide HNAF) hk1 hk2
      clear hk1 hk2
      by_cases hq0 : q = 0
      · have hb0 : bl = 0 := htop.1.1 hq0
        subst hq0
        subst hb0
        go_wp2
        go_ret
        exact ⟨rfl, unhide HB3⟩
      · have hb0 : ((bl : Int) == 0) = false := by simp; exact fun h => hq0 (htop.1.2 (by omega))
        have hq0' : ((q : Int) == 0) = false := by simp; omega
        have hle := htop.2
        clear htop
        go_wp2
        go_ret
        exact ⟨rfl, unhide HB3⟩

/-! ### The early ways out -/
theorem shape_big (ao : Option Addr) (len cap : Nat) (x : Int) (W : World) (h : ¬ len ≤ 1048576) :
    Calls Trym.prog 4 #[.slice ao len cap, .int .u64 x] W fun e w' => e = .returned (.bool true) ∧ w' = W := by
  go_enter Trym.func4, Trym.ntmps4
  go_wp2_with fail
  refine (bytes9_no ao len cap x _ h).mono ?_
  rintro e W ⟨rfl, rfl⟩
  go_wp2
  go_ret
  exact ⟨rfl, rfl⟩

theorem shape_long (ao : Option Addr) (len cap : Nat) (x : Int) (W : World) (h : len ≤ 1048576) (h32 : ¬ len ≤ 32) :
    Calls Trym.prog 4 #[.slice ao len cap, .int .u64 x] W fun e w' => e = .returned (.bool true) ∧ w' = W := by
  go_enter Trym.func4, Trym.ntmps4
  go_wp2_with fail
  refine (bytes9_yes ao len cap x _ h).mono ?_
  rintro e W ⟨rfl, rfl⟩
  go_wp2
  go_ret
  exact ⟨rfl, rfl⟩

theorem shape_narrow (ao : Option Addr) (len cap : Nat) (x : Int) (W : World) (h32 : len ≤ 32) (hx : x < 2) :
    Calls Trym.prog 4 #[.slice ao len cap, .int .u64 x] W fun e w' => e = .returned (.bool true) ∧ w' = W := by
  have hd2 : decide (x < 2) = true := decide_eq_true hx
  go_enter Trym.func4, Trym.ntmps4
  go_wp2_with fail
  refine (bytes9_yes ao len cap x _ (by omega)).mono ?_
  rintro e W ⟨rfl, rfl⟩
  go_wp2
  go_ret
  exact ⟨rfl, rfl⟩

theorem shape_wide (ao : Option Addr) (len cap : Nat) (x : Int) (W : World) (h32 : len ≤ 32) (hx : ¬ x < 2) (hx8 : 8 < x) :
    Calls Trym.prog 4 #[.slice ao len cap, .int .u64 x] W fun e w' => e = .returned (.bool true) ∧ w' = W := by
  have hd2 : decide (x < 2) = false := decide_eq_false hx
  have hd3 : decide (8 < x) = true := decide_eq_true hx8
  go_enter Trym.func4, Trym.ntmps4
  go_wp2_with fail
  refine (bytes9_yes ao len cap x _ (by omega)).mono ?_
  rintro e W ⟨rfl, rfl⟩
  go_wp2
  go_ret
  exact ⟨rfl, rfl⟩
end Go.Proofs.Qxb6001614aMods.Naf
