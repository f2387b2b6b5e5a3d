/-
  THE CONTRACT OF addShifted (function 8). (An AI prover, Nov 15 2026.)
-/
import Derived.Test.Qxb6001614aModsBase
import Derived.Test.Qxb6001614aModsBits
namespace Go.Proofs.Qxb6001614aMods.Naf
open Go.ChangeShapes Go.WideShapes Go.ChangeAt Go.RowKit Go.Proofs.Qxb6001614aMods.Plain

theorem Rw.grown {w w' : World} {g b : Nat} {k : IntKind} {zs : List Int} (h : Rw w g k zs) (hg : w.grownBy w' (some b)) (hne : g ≠ b) : Rw w' g k zs := by
  have hl := h.lt
  obtain ⟨t, ht⟩ := h
  exact ⟨t, by rw [hg.block g hl (by simpa using hne)]; exact ht⟩

theorem grown_refl (w : World) (b : Nat) : w.grownBy w (some b) := ⟨rfl, rfl, rfl, Nat.le_refl _, fun _ _ _ => rfl⟩

theorem grown_set {w w' : World} {b : Nat} (h : w.grownBy w' (some b)) (j : Nat) (v : Value) : w.grownBy (w'.setCell ⟨b, j, none⟩ v) (some b) :=
  ⟨h.os, h.tape, h.output, by simpa [World.setCell] using h.size, fun k hk hne => by
    rw [heap_setCell_other w' ⟨b, j, none⟩ k v (by simpa using hne)]; exact h.block k hk hne⟩

theorem sz_set {w : World} {a : Addr} {v : Value} : (w.setCell a v).heap.size = w.heap.size := by simp [World.setCell]

set_option maxRecDepth 100000 in
set_option maxHeartbeats 400000 in
theorem add_any (b D i : Nat) (g : List Int) (w : World) (hD : D ≤ 127) (hi : i ≤ 256) (hg : Rw w b .u8 g) (hl : g.length = 40) (hby : Byt g) (hT : ev 256 g + D * 2 ^ i < 256 ^ 40) :
    Calls Trym.prog 8 #[.pointer (some ⟨b, 0, none⟩), .int .u64 D, .int .i64 i] w fun e w' => e = .returned (.tuple #[]) ∧ w.grownBy w' (some b) ∧ w'.heap.size = w.heap.size ∧
      ∃ g', Rw w' b .u8 g' ∧ g'.length = 40 ∧ Byt g' ∧ ev 256 g' = ev 256 g + D * 2 ^ i := by
  have hpw : 2 ^ (i % 8) ≤ 2 ^ 7 := Nat.pow_le_pow_right (by decide) (by omega)
  have hmul : D * 2 ^ (i % 8) ≤ 127 * 2 ^ 7 := Nat.mul_le_mul hD hpw
  have hsh : IntKind.u64.wrap ((D : Int) * 2 ^ (i % 8)) = ((D * 2 ^ (i % 8) : Nat) : Int) := by
    rw [wrap_cast, Nat.mod_eq_of_lt (by omega)]
  have hst := add_start D i
  generalize hv0 : D * 2 ^ (i % 8) = v0 at *
  generalize hTT : ev 256 g + (D : Int) * 2 ^ i = T at *
  have hval : ev 256 g + v0 * 256 ^ (i / 8) = T := by rw [hst]; exact hTT
  have HL : Hid (g.length = 40) := hl
  have HT : Hid (T < 256 ^ 40) := hT
  have HV : Hid (ev 256 g + v0 * 256 ^ (i / 8) = T) := hval
  clear hst hTT hval hl hv0 hpw hT
  go_enter Trym.func8, Trym.ntmps8
  go_wp2
  go_loopw [6, 7] (fun tv tj wr => ∃ (v j : Nat) (h : List Int), tv = .int .u64 v ∧ tj = .int .i64 j ∧ v ≤ 20000 ∧ j ≤ 40 ∧ w.grownBy wr (some b) ∧ wr.heap.size = w.heap.size ∧ Rw wr b .u8 h ∧ h.length = 40 ∧ Byt h ∧ ev 256 h + v * 256 ^ j = T)
    (fun _ tj _ => 40 - (intOf tj).toNat)
  case atStart => exact ⟨v0, i / 8, g, by rw [hsh], by go_num, by omega, by omega, grown_refl _ _, rfl, hg, HL.out, hby, HV.out⟩
  case round =>
    obtain ⟨v, j, h, rfl, rfl, hv, hj, hgr, hsz, hrw, hhl, hbt, hev⟩ := hrel
    have HSZ : Hid (wr.heap.size = w.heap.size) := hsz
    have HHL : Hid (h.length = 40) := hhl
    have HEV : Hid (ev 256 h + v * 256 ^ j = T) := hev
    clear hsz hhl hev hsh
    by_cases hv0 : v = 0
    · subst hv0
      go_wp2
      go_end0
      refine ⟨rfl, hgr, HSZ.out, h, hrw, HHL.out, hbt, ?_⟩
      have := HEV.out
      rw [← this]
      simp
    · have hvne : ((v : Int) == 0) = false := by simp; omega
      have hvne' : ((v : Int) != 0) = true := by simp; omega
      by_cases hj40 : j < 40
      · have hc := hrw.cell (j := j) (by rw [HHL.out]; exact hj40)
        have hf := hrw.frozen j
        have hb := hbt j
        obtain ⟨a, ha⟩ := Int.eq_ofNat_of_zero_le hb.1
        have hstep := add_step h j v (by rw [HHL.out]; exact hj40) T HEV.out a ha
        rw [ha] at hc hb
        have h255 := and_255 v (by omega)
        have hmod : (((a + v % 256) % 256 : Nat) : Int) = ((a : Int) + v) % 256 := by omega
        rw [hmod] at hstep
        have HST : Hid (ev 256 (h.set j (((a : Int) + v) % 256)) + ((v / 256 + (a + v % 256) / 256 : Nat) : Int) * 256 ^ (j + 1) = T) := hstep
        clear hstep hmod ha
        go_wp2
        go_roundw
        case rel =>
          exact ⟨v / 256 + (a + v % 256) / 256, j + 1, _, by go_num, by go_num, by omega, by omega, grown_set hgr j _, by rw [sz_set]; exact HSZ.out, hrw.set j _, by rw [List.length_set]; exact HHL.out,
            hbt.set j _ ⟨by omega, by omega⟩, HST.out⟩
        case measure => simp [intOf]; omega
      · exfalso
        obtain rfl : j = 40 := by omega
        have h1 := HEV.out
        have h2 := HT.out
        have h3 := hbt.ev.1
        have h4 : (1 : Int) * 256 ^ 40 ≤ v * 256 ^ 40 := Int.mul_le_mul_of_nonneg_right (by omega) (by decide)
        omega
end Go.Proofs.Qxb6001614aMods.Naf
