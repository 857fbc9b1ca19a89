import Derived.Test.Qxb6609005aDoorRows
import Derived.Test.Qxb6609005aDoorKit
import Derived.WalkKit
import Derived.ProofKit
import Derived.WalkSpells
import Derived.WalkSmall
import Derived.Laws.Bits64b
import Derived.Laws.BitsAllLaws
import Derived.Lib.TrailingZeros
import Derived.Deep.RegionWith
import Derived.BigQuiet
import Derived.Deep.QuietTactic
namespace Go.Proofs.Qxb6609005aDoor
open Go.RowKit Go.Kx
theorem tz_core (x k idx : Nat) (w : World) (hx0 : ((x : Int) == 0) = false)
    (key : IntKind.u64.wrap (bits BinOp.and IntKind.u64 (x : Int) (IntKind.u64.wrap (-(x : Int))) * 285870213051353865) / 288230376151711744 = (idx : Int))
    (hi : idx < 64) (hk : k < 64) (hcell : w.cell? ⟨0, idx, none⟩ = some (.int .u8 k)) :
    Calls Tryd.prog 12 #[.int .u64 x] w fun e w' => e = .returned (.int .i64 k) ∧ w' = w := by
  go_enter Tryd.func12, Tryd.ntmps12
  go_wp2_with (simp only [key])
  go_ret
  exact ⟨rfl, rfl⟩
theorem bit_of (x s : Nat) (hx : x < 18446744073709551616) : (bits BinOp.and IntKind.u64 ((x : Int) / 2 ^ s) 1 == 1) = x.testBit s := by
  have e : ((x : Int) / 2 ^ s) = ((x / 2 ^ s : Nat) : Int) := by
    rw [Int.natCast_ediv, Int.natCast_pow]; rfl
  have hlt : x / 2 ^ s < 18446744073709551616 := Nat.lt_of_le_of_lt (Nat.div_le_self _ _) hx
  have h1 := bits_and_u64_nat (x / 2 ^ s) 1 hlt (by decide)
  rw [e]
  have h2 : bits BinOp.and IntKind.u64 ((x / 2 ^ s : Nat) : Int) 1 = ((x / 2 ^ s &&& 1 : Nat) : Int) := h1
  rw [h2, Nat.and_one_is_mod, Nat.testBit_eq_decide_div_mod_eq, Bool.eq_iff_iff]
  simp
  omega
theorem marked_any (b off L C : Nat) (z : Nat → Nat) (j : Nat) (w : World) (hz : z (j / 64) < 18446744073709551616) (hj : j / 64 < L) (hL : L ≤ 131072) (hc : w.cell? ⟨b, off + j / 64, none⟩ = some (.int .u64 (z (j / 64)))) :
    Calls Tryd.prog 7 #[.slice (some ⟨b, off, none⟩) L C, .int .i64 j] w fun e w' => e = .returned (.bool ((z (j / 64)).testBit (j % 64))) ∧ w' = w := by
  have HB : Hid ((bits BinOp.and IntKind.u64 ((z (j / 64) : Int) / 2 ^ (j % 64)) 1 == 1) = (z (j / 64)).testBit (j % 64)) := bit_of _ _ hz
  go_enter Tryd.func7, Tryd.ntmps7
  go_wp2
  go_ret
  refine ⟨?_, rfl⟩
  rw [← HB.out]
  rfl
theorem tz_key (x a : Nat) (hx : x < 18446744073709551616) (hx0 : x ≠ 0) (hlow : x &&& (18446744073709551616 - x) = a) :
    IntKind.u64.wrap (bits BinOp.and IntKind.u64 (x : Int) (IntKind.u64.wrap (-(x : Int))) * 285870213051353865) / 288230376151711744 = ((a * 285870213051353865 % 18446744073709551616 / 288230376151711744 : Nat) : Int) := by
  have e1 : IntKind.u64.wrap (-(x : Int)) = ((18446744073709551616 - x : Nat) : Int) := by rw [IntKind.wrap_u64]; omega
  rw [e1, bits_and_u64_nat x _ hx (by omega), hlow, IntKind.wrap_u64]
  omega
/-- The table of math/bits in its variable. -/
def Tab (w : World) : Prop := ∀ j, j < 64 → w.cell? ⟨0, j, none⟩ = some (.int .u8 (Lib.deBruijn64tab.getD j 0))
theorem ctz_bits (x : Nat) (hx0 : x ≠ 0) (hx : x < 2 ^ 64) : x.testBit (Lib.ctz 64 x) = true ∧ ∀ i, i < Lib.ctz 64 x → x.testBit i = false := by
  obtain ⟨m, hm, hk⟩ := Lib.ctzFrom_spec 64 x (by omega) hx
  have e : Lib.ctz 64 x = Lib.ctzFrom 64 x := by simp [Lib.ctz, hx0]
  rw [e]
  generalize Lib.ctzFrom 64 x = k at *
  subst hm
  rw [Nat.mul_comm]
  constructor
  · rw [Nat.testBit_mul_two_pow]; simp
  · intro i hi
    rw [Nat.testBit_mul_two_pow]; simp; omega
/-- math/bits.TrailingZeros64 of a number that is not 0. -/
theorem tz_any (x : Nat) (hx0 : x ≠ 0) (hx : x < 18446744073709551616) : ∃ k, k < 64 ∧ x.testBit k = true ∧ (∀ i, i < k → x.testBit i = false) ∧
    ∀ w : World, Tab w → Calls Tryd.prog 12 #[.int .u64 x] w fun e w' => e = .returned (.int .i64 k) ∧ w' = w := by
  obtain ⟨hlow, hk⟩ := Lib.lowest_bit 64 x hx0 hx
  obtain ⟨hb, hl⟩ := ctz_bits x hx0 hx
  refine ⟨Lib.ctz 64 x, hk, hb, hl, fun w hT => ?_⟩
  obtain ⟨hi, htab⟩ := Lib.deBruijn64_at _ hk
  have hcell := hT _ hi
  rw [htab] at hcell
  exact tz_core x _ _ w (by simp; omega) (tz_key x _ hx hx0 hlow) hi hk hcell
/-- 'x &^ (1<<s - 1)'. -/
theorem mask_eq (x s : Nat) (hx : x < 18446744073709551616) (hs : s < 64) : ∃ X : Nat, X < 18446744073709551616 ∧ (∀ k, k < 64 → X.testBit k = (x.testBit k && decide (s ≤ k))) ∧
    bits BinOp.andNot IntKind.u64 (x : Int) (IntKind.u64.wrap (IntKind.u64.wrap (2 ^ s) - 1)) = (X : Int) := by
  have hp : 2 ^ s < 18446744073709551616 := Nat.pow_lt_pow_right (by decide : 1 < 2) hs
  have hp1 : 1 ≤ 2 ^ s := Nat.one_le_two_pow
  have e0 : IntKind.u64.wrap ((2 : Int) ^ s) = ((2 ^ s : Nat) : Int) := by
    have h : ((2 : Int) ^ s) = ((2 ^ s : Nat) : Int) := by rw [Int.natCast_pow]; rfl
    rw [h, IntKind.wrap_u64]; omega
  have e1 : IntKind.u64.wrap (IntKind.u64.wrap (2 ^ s) - 1) = ((2 ^ s - 1 : Nat) : Int) := by
    rw [e0, IntKind.wrap_u64]; omega
  refine ⟨x &&& (18446744073709551615 - (2 ^ s - 1)), Nat.lt_of_le_of_lt Nat.and_le_left hx, fun k hk => ?_, ?_⟩
  · rw [Nat.testBit_and]
    have e2 : 18446744073709551615 - (2 ^ s - 1) = 2 ^ 64 - ((2 ^ s - 1) + 1) := by omega
    rw [e2, Nat.testBit_two_pow_sub_succ (by show _ < 2 ^ 64; omega), Nat.testBit_two_pow_sub_one]
    congr 1
    by_cases h : s ≤ k
    · simp [h, hk]
    · simp [h]; omega
  · rw [e1]
    exact u64_andNot_nat x (2 ^ s - 1) hx (by omega)
/-- Bit j of the row. -/
def M (z : Nat → Nat) (j : Nat) : Bool := (z (j / 64)).testBit (j % 64)
/-- r is the least marked position from ps on, before lm; lm where there is none. -/
def IsNext (z : Nat → Nat) (L : Nat) (fr ps lm r : Int) : Prop :=
  (r = lm ∧ ∀ j : Nat, j < 64 * L → ps ≤ fr + j → fr + j < lm → M z j = false) ∨
  ∃ j : Nat, j < 64 * L ∧ r = fr + j ∧ ps ≤ fr + j ∧ fr + j < lm ∧ M z j = true ∧ ∀ i : Nat, i < j → ps ≤ fr + i → M z i = false
def NextPost (z : Nat → Nat) (L : Nat) (fr ps lm : Int) (w : World) (e : Ending) (w' : World) : Prop := ∃ r, e = .returned (.int .i64 r) ∧ IsNext z L fr ps lm r ∧ ∃ k, w' = w.drewN k
set_option maxHeartbeats 2000000 in
theorem next_pos (B b off L C : Nat) (rb rf rn rc : Nat) (z : Nat → Nat) (fr ps lm : Int) (pc I : Nat) (w : World) (hpi : ps - fr = (I : Int)) (h1 : -536870912 ≤ fr) (h2 : fr ≤ 536870912) (h3 : ps ≤ 546870912) (h4 : -536870912 ≤ lm) (h5 : lm ≤ 536870912) (hL : L ≤ 131072)
    (c0 : w.cell? ⟨B, 0, none⟩ = some (.int .i64 fr)) (c1 : w.cell? ⟨B, 1, none⟩ = some (.slice (some ⟨b, off, none⟩) rn rc)) (hpc : pc < rn) (c2 : w.cell? ⟨b, off + pc, none⟩ = some (.slice (some ⟨rb, rf, none⟩) L C))
    (hz : ∀ i, i < L → z i < 18446744073709551616) (hc : ∀ i, i < L → w.cell? ⟨rb, rf + i, none⟩ = some (.int .u64 (z i))) (hT : Tab w) :
    Calls Tryd.prog 11 #[.pointer (some ⟨B, 0, none⟩), .int .i64 pc, .int .i64 ps, .int .i64 lm] w (NextPost z L fr ps lm w) := by
  have HTab : Hid (Tab w) := hT
  clear hT
  go_enter Tryd.func11, Tryd.ntmps11
  go_wp2
  go_loop [11, 12] (fun u _ => ∃ W : Nat, u = .int .u64 W ∧ I / 64 ≤ W ∧ (W ≤ L ∨ W = I / 64) ∧ ∀ j : Nat, I ≤ j → j < 64 * W → M z j = false) (fun u _ => L - (intOf u).toNat)
  case atStart => exact ⟨I / 64, by go_num, Nat.le_refl _, Or.inr rfl, fun j h1 h2 => by omega⟩
  case round =>
    obtain ⟨W, rfl, hIW, hWL, hinv⟩ := hrel
    have HI : Hid (∀ j : Nat, I ≤ j → j < 64 * W → M z j = false) := hinv
    clear hinv
    by_cases hW : W < L
    · by_cases hlm : fr + 64 * (W : Int) < lm
      · have cW := hc W hW
        have zW := hz W hW
        clear hc hz hWL
        have hX : ∃ X : Nat, X < 18446744073709551616 ∧ (∀ k, k < 64 → X.testBit k = ((z W).testBit k && decide (I ≤ 64 * W + k))) ∧
            ((W ≤ I / 64 ∧ bits BinOp.andNot IntKind.u64 (z W : Int) (IntKind.u64.wrap (IntKind.u64.wrap (2 ^ (I % 64)) - 1)) = (X : Int)) ∨ (¬ W ≤ I / 64 ∧ X = z W)) := by
          by_cases hWI : W ≤ I / 64
          · obtain ⟨X, a1, a2, a3⟩ := mask_eq (z W) (I % 64) zW (by omega)
            refine ⟨X, a1, fun k hk => ?_, Or.inl ⟨hWI, a3⟩⟩
            rw [a2 k hk]
            congr 1
            rw [decide_eq_decide]
            omega
          · refine ⟨z W, zW, fun k hk => ?_, Or.inr ⟨hWI, rfl⟩⟩
            rw [decide_eq_true (by omega), Bool.and_true]
        obtain ⟨X, hXlt, hXb, hX⟩ := hX
        have HXb : Hid (∀ k, k < 64 → X.testBit k = ((z W).testBit k && decide (I ≤ 64 * W + k))) := hXb
        clear hXb
        by_cases hX0 : X = 0
        · have hM : ∀ j : Nat, I ≤ j → j < 64 * (W + 1) → M z j = false := fun j h1 h2 => by
            by_cases h3 : j < 64 * W
            · exact HI.out j h1 h3
            · have := HXb.out (j - 64 * W) (by omega)
              rw [hX0, Nat.zero_testBit, decide_eq_true (by omega), Bool.and_true] at this
              unfold M
              rw [show j / 64 = W from by omega, show j % 64 = j - 64 * W from by omega]
              exact this.symm
          have HM : Hid (∀ j : Nat, I ≤ j → j < 64 * (W + 1) → M z j = false) := hM
          clear hM HI HXb
          subst hX0
          rcases hX with ⟨hWI, hm⟩ | ⟨hWI, hm⟩
          · have hm' : bits BinOp.andNot IntKind.u64 (z W : Int) (IntKind.u64.wrap (IntKind.u64.wrap (2 ^ (I % 64)) - 1)) = 0 := hm
            clear hm
            go_wp2
            go_round
            case rel => exact ⟨W + 1, by go_num, by omega, Or.inl (by omega), HM.out⟩
            case measure => simp [intOf]; omega
          · have hm' : ((z W : Nat) : Int) = 0 := by omega
            clear hm
            go_wp2
            go_round
            case rel => exact ⟨W + 1, by go_num, by omega, Or.inl (by omega), HM.out⟩
            case measure => simp [intOf]; omega
        · obtain ⟨k, hk, hb, hl, HC⟩ := tz_any X hX0 hXlt
          have hJ : M z (64 * W + k) = true ∧ I ≤ 64 * W + k := by
            have := HXb.out k hk
            rw [hb] at this
            have h2 := (Bool.and_eq_true _ _).mp this.symm
            refine ⟨?_, of_decide_eq_true h2.2⟩
            unfold M
            rw [show (64 * W + k) / 64 = W from by omega, show (64 * W + k) % 64 = k from by omega]
            exact h2.1
          have hlow : ∀ i : Nat, i < 64 * W + k → I ≤ i → M z i = false := fun i h1 h2 => by
            by_cases h3 : i < 64 * W
            · exact HI.out i h2 h3
            · have := HXb.out (i - 64 * W) (by omega)
              rw [hl (i - 64 * W) (by omega), decide_eq_true (by omega), Bool.and_true] at this
              unfold M
              rw [show i / 64 = W from by omega, show i % 64 = i - 64 * W from by omega]
              exact this.symm
          have HC' : Hid (∀ w : World, Tab w → Calls Tryd.prog 12 #[.int .u64 X] w fun e w' => e = .returned (.int .i64 k) ∧ w' = w) := HC
          have HJ : Hid (M z (64 * W + k) = true) := hJ.1
          have hJ2 := hJ.2
          have HL : Hid (∀ i : Nat, i < 64 * W + k → I ≤ i → M z i = false) := hlow
          clear hJ hlow HC hb hl HXb HI
          have hXb : ((X : Int) != 0) = true := by rw [bne_iff_ne]; omega
          have w1 : IntKind.i64.wrap (W : Int) = W := by rw [IntKind.wrap_i64]; omega
          have w2 : IntKind.i64.wrap (64 * (W : Int)) = 64 * W := by rw [IntKind.wrap_i64]; omega
          have w3 : IntKind.i64.wrap (fr + 64 * (W : Int)) = fr + 64 * W := by rw [IntKind.wrap_i64]; omega
          have w4 : IntKind.i64.wrap (fr + 64 * (W : Int) + k) = fr + 64 * W + k := by rw [IntKind.wrap_i64]; omega
          by_cases hend : fr + 64 * (W : Int) + (k : Int) < lm
          · have HE : Hid (∀ n, NextPost z L fr ps lm w (.returned (.int .i64 (fr + 64 * (W : Int) + (k : Int)))) (w.drewN n)) := fun n =>
              ⟨_, rfl, Or.inr ⟨64 * W + k, by omega, by omega, by omega, by omega, HJ.out, fun i h1 h2 => HL.out i h1 (by omega)⟩, n, rfl⟩
            clear HJ HL
            rcases hX with ⟨hWI, hm⟩ | ⟨hWI, rfl⟩
            · go_wp2
              go_quiet ((go_at_call 12; exact Calls.quiet_of_same (HC'.out _ HTab.out)))
              go_wp2
              go_ret
              exact HE.out _
            · go_wp2
              go_quiet ((go_at_call 12; exact Calls.quiet_of_same (HC'.out _ HTab.out)))
              go_wp2
              go_ret
              exact HE.out _
          · have hsum : lm < fr + 64 * (W : Int) + (k : Int) ∨ fr + 64 * (W : Int) + (k : Int) = lm := by omega
            have HE : Hid (∀ n, NextPost z L fr ps lm w (.returned (.int .i64 lm)) (w.drewN n)) := fun n =>
              ⟨_, rfl, Or.inl ⟨rfl, fun i h1 h2 h3 => HL.out i (by omega) (by omega)⟩, n, rfl⟩
            clear HJ HL
            rcases hsum with hsum | hsum
            · rcases hX with ⟨hWI, hm⟩ | ⟨hWI, rfl⟩
              · go_wp2
                go_quiet ((go_at_call 12; exact Calls.quiet_of_same (HC'.out _ HTab.out)))
                go_wp2
                go_ret
                exact HE.out _
              · go_wp2
                go_quiet ((go_at_call 12; exact Calls.quiet_of_same (HC'.out _ HTab.out)))
                go_wp2
                go_ret
                exact HE.out _
            · rcases hX with ⟨hWI, hm⟩ | ⟨hWI, rfl⟩
              · go_wp2
                go_quiet ((go_at_call 12; exact Calls.quiet_of_same (HC'.out _ HTab.out)))
                go_wp2
                go_ret
                exact HE.out _
              · go_wp2
                go_quiet ((go_at_call 12; exact Calls.quiet_of_same (HC'.out _ HTab.out)))
                go_wp2
                go_ret
                exact HE.out _
      · clear hc hz
        go_wp2
        go_ret
        refine ⟨lm, rfl, Or.inl ⟨rfl, fun j hj hp hl => HI.out j (by omega) (by omega)⟩, 0, rfl⟩
    · clear hc hz
      go_wp2
      go_ret
      refine ⟨lm, rfl, Or.inl ⟨rfl, fun j hj hp hl => HI.out j (by omega) (by omega)⟩, 0, rfl⟩

end Go.Proofs.Qxb6609005aDoor
