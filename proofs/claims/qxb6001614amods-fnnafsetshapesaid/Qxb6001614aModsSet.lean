/-
  THE CONTRACT OF '(*naf).set' (function 11). (An AI prover, Nov 15 2026.)
-/
import Derived.Test.Qxb6001614aModsBase
import Derived.Test.Qxb6001614aModsBits
namespace Go.Proofs.Qxb6001614aMods.Naf
open Go.RowKit Go.Proofs.Qxb6001614aMods.Plain

/-- 257 zeros, behind a name. -/
def Z257 : Array Value := (Array.replicate 257 (Value.int .i8 0))
theorem built34 : Trym.prog.built 34 [] = some Z257 := by kernel_rfl
theorem built34' : ∃ Z, Hid (Trym.prog.built 34 [] = some Z) ∧ Hid (Z = ((List.replicate 257 (0 : Int)).map (Value.int .i8)).toArray) := ⟨Z257, built34, by unfold Hid Z257; rw [List.map_replicate, List.toArray_replicate]⟩
theorem size34 : (Trym.prog.info? 34).map (·.size) = some 257 := by kernel_rfl
theorem size34' : Hid ((Trym.prog.info? 34).map (·.size) = some (List.replicate 257 (0 : Int)).length) := by unfold Hid; rw [List.length_replicate]; exact size34

theorem wpList_naf0 {Z : Array Value} (hZ : Hid (Trym.prog.built 34 [] = some Z)) {ops : Array Oper} {rest : List Oper} {o : Oper} {a : Act} {w : World} {Q : Exit → Act → World → Prop} (hg : o.guard = none) (ho : o.op = .build 34 #[])
    (h : wpList Trym.prog ops Q rest (a.put o.dst (.agg Z)) w) : wpList Trym.prog ops Q (o :: rest) a w := by
  have hZ' := hZ.out
  refine wpList_build hg 34 #[] ho ?_ ?_
  · simp [hZ']
  · simpa [hZ'] using h

set_option maxRecDepth 100000 in
set_option maxHeartbeats 1000000 in
theorem set_any (nb : Nat) (ao : Option Addr) (n cap w : Nat) (zs old : List Int) (wd : World) (hnb : wd.heap.size = nb + 1) (hn : n ≤ 32) (hz : zs.length = n)
    (hw : 2 ≤ w) (hw8 : w ≤ 8) (hk : n = 0 ∨ ∃ kb, ao = some ⟨kb, 0, none⟩ ∧ kb < nb ∧ Rw wd kb .u8 zs) (hby : ∀ x ∈ zs, 0 ≤ x ∧ x < 256) (hN : Rw wd nb .i8 old) (hold : old.length = 257) :
    Calls Trym.prog 11 #[.pointer (some ⟨nb, 0, none⟩), .slice ao n cap, .int .u64 w] wd fun e w' => ∃ (L : Nat) (d : List Int), e = .returned (.int .i64 L) ∧ Naf (kv zs) w L d ∧ Below nb wd w' ∧ Rw w' nb .i8 d := by
  have hkv : kv zs < 2 ^ (8 * n) := by rw [← pow256, ← hz]; exact kv_lt zs hby
  have HZ : Hid (zs.length = n) := hz
  have HS : Hid (wd.heap.size = nb + 1) := hnb
  have HO : Hid (old.length = 257) := hold
  clear hz hnb hold
  obtain ⟨Z, hZ, hZe⟩ := built34'
  go_enter Trym.func11, Trym.ntmps11
  go_wp2
  go_loopw [20, 8, 9] (fun i _ _ wr => ∃ k : Nat, k ≤ n ∧ i = .int .i64 k ∧ Below wd.heap.size wd wr ∧ Rw wr wd.heap.size .u64 (wordsOf (kv (zs.take k))))
     (fun i _ _ _ => n - (intOf i).toNat)
  case atStart =>
    refine ⟨0, Nat.zero_le _, rfl, (Below.refl _ _).alloc (Nat.le_refl _) _, ?_⟩
    exact Rw.new wd .u64 _ _ _ (by simp [kv, wordsOf_zero, List.replicate])
  case round =>
    obtain ⟨k, hkn, rfl, hb, hwd⟩ := hrel
    by_cases hlt : k < n
    · obtain ⟨kb, rfl, hkb, hkr⟩ := hk.resolve_left (by omega)
      have hzl := HZ.out
      have hx := (hkr.below hb (by rw [HS.out]; omega)).cell (j := k) (by omega)
      have hxb := hby (zs.getD k 0) (by rw [List.getD_eq_getElem?_getD, List.getElem?_eq_getElem (by omega)]; simp)
      have htk : zs.take (k + 1) = zs.take k ++ [zs.getD k 0] := by
        rw [List.take_succ_eq_append_getElem (by omega)]
        simp [List.getD_eq_getElem?_getD, List.getElem?_eq_getElem (show k < zs.length by omega)]
      have hKk : kv (zs.take k) < 2 ^ (8 * k) := by
        have := kv_lt (zs.take k) (fun x hx => hby x (List.mem_of_mem_take hx))
        rw [List.length_take_of_le (by omega), pow256] at this
        exact this
      have hsn := kv_snoc (zs.take k) (zs.getD k 0)
      rw [← htk, List.length_take_of_le (by omega), pow256] at hsn
      generalize zs.getD k 0 = x at *
      obtain ⟨x, rfl⟩ := Int.eq_ofNat_of_zero_le hxb.1
      have hx256 : x < 256 := by omega
      have hst := words_step (kv (zs.take k)) k x hKk hx256
      have hor := word_or (kv (zs.take k)) k x hx256
      rw [Int.toNat_natCast] at hsn
      rw [← hsn, ← hor] at hst
      have HST : Hid ((wordsOf (kv (zs.take k))).set (k / 8) (bits .or .u64 ((kv (zs.take k) / 2 ^ (64 * (k / 8)) % 2 ^ 64 : Nat) : Int) (IntKind.u64.wrap ((x : Int) * 2 ^ (8 * (k % 8))))) = wordsOf (kv (zs.take (k + 1)))) := hst
      clear hst hor hsn htk hzl hKk
      have q0 := hwd.cell (j := k / 8) (by rw [wordsOf_length]; omega)
      rw [wordsOf_get _ (k / 8) (by omega)] at q0
      have qf := hwd.frozen (k / 8)
      have b0 := lt_of_mod64 (kv (zs.take k) / 2 ^ (64 * (k / 8)))
      generalize kv (zs.take k) / 2 ^ (64 * (k / 8)) % 2 ^ 64 = y at *
      have hlt' : (k : Int) / 8 < 6 := by omega
      have hwd' := hwd.set (k / 8) (bits .or .u64 (y : Int) (IntKind.u64.wrap ((x : Int) * 2 ^ (8 * (k % 8)))))
      rw [HST.out] at hwd'
      have HWD : Hid (Rw (wr.setCell ⟨wd.heap.size, k / 8, none⟩ (.int .u64 (bits .or .u64 (y : Int) (IntKind.u64.wrap ((x : Int) * 2 ^ (8 * (k % 8))))))) wd.heap.size .u64 (wordsOf (kv (zs.take (k + 1))))) := hwd'
      clear hwd' HST
      go_wp2
      go_region
      go_wp2
      go_roundw
      case rel => exact ⟨k + 1, by omega, by go_num, (hb.setCell (Nat.le_refl _) _).drew, HWD.out⟩
      case measure => simp [intOf]; omega
    · have hNr : Rw wr nb .i8 old := hN.below hb (by rw [HS.out]; omega)
      have HL : Hid ((List.replicate 257 (0 : Int)).length = old.length) := by unfold Hid; rw [List.length_replicate, HO.out]
      go_wp2_with (first | (refine wpList_naf0 hZ rfl rfl ?_) | (refine wpList_store_Rw rfl 34 (.tmp 40) (.tmp 39) rfl nb Z rfl rfl hNr _ hZe HL size34' ?_))
      obtain rfl : k = n := by omega
      have hz := HZ.out
      rw [← hz, List.take_length] at hwd
      have hw0 : Rw (wr.setRow nb Z) wd.heap.size .u64 (wordsOf (kv zs)) := hwd.setRow_other Z (by rw [HS.out]; omega)
      have hN0 : Rw (wr.setRow nb Z) nb .i8 (List.replicate 257 (0 : Int)) := hNr.setRow Z _ hZe
      have hb0 : Below nb wd (wr.setRow nb Z) := below_setRow' (hb.mono (by rw [HS.out]; omega)) (Nat.le_refl _) Z
      clear hz hwd hNr hb
      generalize wr.setRow nb Z = w1 at *
      have hinv0 := inv_start (kv zs) w
      generalize List.replicate 257 (0 : Int) = d0 at *
      generalize hKe : kv zs = K at *
      have HKe : Hid (kv zs = K) := hKe
      clear hKe
      obtain ⟨W, hW⟩ : ∃ W : Int, IntKind.u64.wrap (2 ^ w) = W := ⟨_, rfl⟩
      have hp8 := pow_le_256 w hw8
      have hp2 : 2 ^ 2 ≤ 2 ^ w := Nat.pow_le_pow_right (by decide) hw
      have hWw : W = (2 ^ w : Nat) := by
        rw [← hW]
        have := wrap_cast 1 w
        simp only [Int.natCast_one, Int.one_mul, Nat.one_mul] at this
        rw [this, Nat.mod_eq_of_lt (by rw [two64]; omega)]
      have hW4 : 4 ≤ W := by omega
      have hW256 : W ≤ 256 := by omega
      rw [hW]
      have HW : Hid (W = (2 ^ w : Nat)) := hWw
      have HK : Hid (K < 2 ^ (8 * k)) := hkv
      clear hW hWw hkv hkn hlt hk HZ HL hZe hZ hN hp8 hp2
      go_loopw [13, 12, 11] (fun tp tc tl wr => ∃ (pos c L : Nat) (d : List Int), tp = .int .i64 pos ∧ tc = .int .u64 c ∧ tl = .int .i64 L ∧ pos ≤ 8 * k + 8 ∧ Plain.Inv K w pos c L d ∧ Below nb wd wr ∧ Rw wr nb .i8 d ∧ Rw wr wd.heap.size .u64 (wordsOf K))
        (fun tp _ _ _ => 300 - (intOf tp).toNat)
      case atStart => exact ⟨0, 0, 0, d0, rfl, rfl, rfl, by omega, hinv0, hb0, hN0, hw0⟩
      case round =>
        clear hinv0 hN0 hw0 hb0
        obtain ⟨pos, c, L, d, rfl, rfl, rfl, hpos, hinv, hb, hd, hwo⟩ := hrel
        have hc1 := hinv.c01
        have hL := hinv.lle
        by_cases hlt : pos ≤ 8 * k
        · have hp256 : pos ≤ 256 := by omega
          have q0 := hwo.cell (j := pos / 64) (by rw [wordsOf_length]; omega)
          rw [wordsOf_get K (pos / 64) (by omega)] at q0
          have q1 := hwo.cell (j := pos / 64 + 1) (by rw [wordsOf_length]; omega)
          rw [wordsOf_get K (pos / 64 + 1) (by omega)] at q1
          have m0 := win_one K pos w hw8
          have m1 := win_two K pos w hw8
          have b0 := lt_of_mod64 (K / 2 ^ (64 * (pos / 64)))
          have b1 := lt_of_mod64 (K / 2 ^ (64 * (pos / 64 + 1)))
          have hml : K / 2 ^ pos % 2 ^ w < 2 ^ w := Nat.mod_lt _ (Nat.two_pow_pos w)
          have se := @step_even K w pos c L d hinv (by omega)
          have so := @step_odd K w pos c L d hinv hw hp256 _ rfl
          generalize hm : K / 2 ^ pos % 2 ^ w = m at *
          generalize K / 2 ^ (64 * (pos / 64)) % 2 ^ 64 = y0 at *
          generalize K / 2 ^ (64 * (pos / 64 + 1)) % 2 ^ 64 = y1 at *
          have hmW : (m : Int) < W := by rw [HW.out]; omega
          have hdp := hd.cell (j := pos) (by rw [hinv.len]; omega)
          have hdf := hd.frozen pos
          generalize d.getD pos 0 = dv at hdp
          have hA : ¬ 64 < pos % 64 + w → bits .and .u64 ((y0 : Int) / 2 ^ (pos % 64)) (W - 1) = m := fun h => m0 h W HW.out
          have hB : 64 < pos % 64 + w → bits .and .u64 (bits .or .u64 ((y0 : Int) / 2 ^ (pos % 64)) (IntKind.u64.wrap ((y1 : Int) * 2 ^ (64 - pos % 64)))) (W - 1) = m := fun h => m1 h W HW.out
          have hpar := and_one ((m : Int) + c) (by omega) (by omega)
          have SE : Hid ((m + c) % 2 = 0 → Plain.Inv K w (pos + 1) c L d) := se
          have SO : Hid ((m + c) % 2 = 1 → ∀ c' : Nat, (c' = if 2 ^ (w - 1) ≤ m + c then 1 else 0) → Plain.Inv K w (pos + w) c' (pos + 1) (d.set pos ((m : Int) + c - c' * (2 ^ w : Nat)))) := so
          have hW2 : W / 2 = (2 ^ (w - 1) : Nat) := by rw [HW.out, pow_pred w (by omega)]; omega
          have HW2 : Hid (W / 2 = (2 ^ (w - 1) : Nat)) := hW2
          clear se so m0 m1 hm hml hinv hW2
          rcases (by omega : (m + c) % 2 = 0 ∨ (m + c) % 2 = 1) with hev | hod
          · have hz : bits .and .u64 ((m : Int) + c) 1 = 0 := by omega
            have I' := SE.out hev
            clear hpar SE SO hev
            by_cases hs : 64 < pos % 64 + w
            · have h1 := hB hs
              clear hA hB
              go_wp2
              go_roundw
              case rel => exact ⟨pos + 1, c, L, d, by go_num, rfl, rfl, by omega, I', hb, hd, hwo⟩
              case measure => simp [intOf]; omega
            · have h1 := hA hs
              clear hA hB
              go_wp2
              go_roundw
              case rel => exact ⟨pos + 1, c, L, d, by go_num, rfl, rfl, by omega, I', hb, hd, hwo⟩
              case measure => simp [intOf]; omega
          · have hz : bits .and .u64 ((m : Int) + c) 1 = 1 := by omega
            have I' := SO.out hod
            clear hpar SE SO
            by_cases hg : W / 2 ≤ (m : Int) + c
            · have I2 := I' 1 (by rw [if_pos]; have := HW2.out; omega)
              have hval : (m : Int) + c - (1 : Nat) * (2 ^ w : Nat) = (m : Int) + c - W := by rw [HW.out]; omega
              rw [hval] at I2
              clear I' hval
              by_cases hs : 64 < pos % 64 + w
              · have h1 := hB hs
                clear hA hB
                go_wp2
                go_roundw
                case rel => exact ⟨pos + w, 1, pos + 1, _, by go_num, rfl, by go_num, by omega, I2, hb.setCell (Nat.le_refl _) _, hd.set pos _, hwo.other (by rw [HS.out]; simp) _⟩
                case measure => simp [intOf]; omega
              · have h1 := hA hs
                clear hA hB
                go_wp2
                go_roundw
                case rel => exact ⟨pos + w, 1, pos + 1, _, by go_num, rfl, by go_num, by omega, I2, hb.setCell (Nat.le_refl _) _, hd.set pos _, hwo.other (by rw [HS.out]; simp) _⟩
                case measure => simp [intOf]; omega
            · have I2 := I' 0 (by rw [if_neg]; have := HW2.out; omega)
              have hval : (m : Int) + c - (0 : Nat) * (2 ^ w : Nat) = (m : Int) + c := by omega
              rw [hval] at I2
              clear I' hval
              by_cases hs : 64 < pos % 64 + w
              · have h1 := hB hs
                clear hA hB
                go_wp2
                go_roundw
                case rel => exact ⟨pos + w, 0, pos + 1, _, by go_num, rfl, by go_num, by omega, I2, hb.setCell (Nat.le_refl _) _, hd.set pos _, hwo.other (by rw [HS.out]; simp) _⟩
                case measure => simp [intOf]; omega
              · have h1 := hA hs
                clear hA hB
                go_wp2
                go_roundw
                case rel => exact ⟨pos + w, 0, pos + 1, _, by go_num, rfl, by go_num, by omega, I2, hb.setCell (Nat.le_refl _) _, hd.set pos _, hwo.other (by rw [HS.out]; simp) _⟩
                case measure => simp [intOf]; omega
        · have hN := inv_done hinv (by omega : 8 * k < pos) HK.out
          clear hinv
          go_wp2
          go_ret
          exact ⟨L, d, rfl, by rw [HKe.out]; exact hN, hb, hd⟩
end Go.Proofs.Qxb6001614aMods.Naf
