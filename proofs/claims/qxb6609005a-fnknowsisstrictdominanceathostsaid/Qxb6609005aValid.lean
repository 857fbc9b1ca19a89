import Derived.Test.Qxb6609005aBuild
import Derived.WalkKit
import Derived.ProofKit
import Derived.WalkSpells
import Derived.WalkSmall
import Derived.BigQuiet
import Derived.Deep.QuietTactic
namespace Go.Proofs.Qxb6609005a
open Go.RowKit Go.Kx Go.Kn
/-- What validClock asks of entry t. -/
def VOK (n : Nat) (c : Ck) (t : Nat) : Prop := c.kh t < n ∧ c.kh t ≠ c.own ∧ c.kn t ≠ 0 ∧ (0 < t → c.kh (t - 1) < c.kh t)
def Val (n : Nat) (z : Bool) (c : Ck) : Prop := z = true ∨ (c.own < n ∧ ∀ t, t < c.kl → VOK n c t)
theorem valid_zero (n : Nat) (s : ByteArray) (lam : Int) (c : Ck) (ka : Option Addr) (kc : Nat) (w : World) :
    Calls Try.prog 11 #[.int .i64 n, Evv s lam true c ka kc] w (Iff' (Val n true c) w) := by
  have HV : Hid (Val n true c) := .inl rfl
  unfold Evv
  go_enter Try.func11, Try.ntmps11
  go_wp2
  go_ret
  exact iff_yes HV.out (below_alloc _ _)
set_option maxRecDepth 100000 in
set_option maxHeartbeats 2000000 in
theorem valid_some (n : Nat) (s : ByteArray) (lam : Int) (c : Ck) (ka : Option Addr) (kc : Nat) (w : World) (_hn : n ≤ 1048576) (hf : Fits c) (hk : Knw w ka c) :
    Calls Try.prog 11 #[.int .i64 n, Evv s lam false c ka kc] w (Iff' (Val n false c) w) := by
  have HY : Hid (c.own < n → (∀ t, t < c.kl → VOK n c t) → Val n false c) := fun h1 h2 => .inr ⟨h1, h2⟩
  have HNo : Hid (¬ c.own < n → ¬ Val n false c) := fun h h' => h'.elim (fun h => by cases h) (fun h' => h h'.1)
  have HNt : Hid (∀ t, t < c.kl → ¬ VOK n c t → ¬ Val n false c) := fun t ht h h' => h'.elim (fun h => by cases h) (fun h' => h (h'.2 t ht))
  have HK : Hid (Knw w ka c) := hk
  have hkl := hf.kl
  have how := hf.own
  have HFh : Hid (∀ t, t < c.kl → c.kh t < 4294967296) := hf.kh
  have HFn : Hid (∀ t, t < c.kl → c.kn t < 4294967296) := hf.kn
  clear hk hf
  by_cases ho : c.own < n
  · have HO := HY.out ho
    have HOO : Hid ((∀ t, t < c.kl → VOK n c t) → Val n false c) := HO
    clear HO HY HNo
    have hdec : decide (n ≤ c.own) = false := decide_eq_false (by omega)
    unfold Evv
    go_enter Try.func11, Try.ntmps11
    go_wp2
    go_loopw [5, 6] (fun kk _ wr => ∃ k : Nat, kk = .int .i64 k ∧ k ≤ c.kl ∧ (∀ t, t < k → VOK n c t) ∧ wr = w.alloc (.cells #[.string s, .int .u64 lam, .bool false, .int .u32 c.own, .int .u32 c.cn, .slice ka c.kl kc] 27)) (fun kk _ _ => c.kl - (intOf kk).toNat)
    case atStart => exact ⟨0, rfl, Nat.zero_le _, fun t h => absurd h (Nat.not_lt_zero _), rfl⟩
    case round =>
      obtain ⟨k, rfl, hk, hok, rfl⟩ := hrel
      have HOK : Hid (∀ t, t < k → VOK n c t) := hok
      clear hok
      by_cases hlt : k < c.kl
      · obtain ⟨b, off, rfl, hB, hc⟩ := (HK.out.below (below_alloc w (.cells #[.string s, .int .u64 lam, .bool false, .int .u32 c.own, .int .u32 c.cn, .slice ka c.kl kc] 27))).at (by omega)
        obtain ⟨x0, x1⟩ := hc k hlt
        have b0 := HFh.out k hlt
        have b1 := HFn.out k hlt
        have HNk : Hid (¬ VOK n c k → ¬ Val n false c) := HNt.out k hlt
        by_cases h1 : c.kh k < n
        · by_cases h2 : c.kh k = c.own
          · have HN : Hid (¬ Val n false c) := HNk.out (fun h => h.2.1 h2)
            have h2b : ((c.kh k : Int) == (c.own : Int)) = true := beq_iff_eq.2 (by omega)
            clear hc h2 HNk HNt HK
            go_wp2
            go_ret
            exact iff_no HN.out (below_alloc _ _)
          · have h2b : ((c.kh k : Int) == (c.own : Int)) = false := beq_eq_false_iff_ne.2 (by omega)
            by_cases h3 : c.kn k = 0
            · have HN : Hid (¬ Val n false c) := HNk.out (fun h => h.2.2.1 h3)
              clear hc h2 HNk HNt HK
              go_wp2
              go_ret
              exact iff_no HN.out (below_alloc _ _)
            · have h3b : ((c.kn k : Int) == 0) = false := beq_eq_false_iff_ne.2 (by omega)
              by_cases h4 : k = 0
              · subst h4
                have HO2 : Hid (∀ t, t < 0 + 1 → VOK n c t) := allS HOK.out ⟨h1, h2, h3, fun h => absurd h (Nat.lt_irrefl _)⟩
                simp only [Nat.zero_mul, Nat.add_zero] at x0 x1
                clear hc h2 HNk HNt HK h3
                go_wp2
                go_roundw
                case rel => exact ⟨1, by go_num, by omega, HO2.out, trivial⟩
                case measure => simp [intOf]; omega
              · obtain ⟨y0, _⟩ := hc (k - 1) (by omega)
                have e1 : IntKind.i64.wrap ((k : Int) - 1) = ((k - 1 : Nat) : Int) := by simp [IntKind.wrap, IntKind.bits, IntKind.signed]; omega
                obtain ⟨p, hp⟩ : ∃ p, p = k - 1 := ⟨_, rfl⟩
                rw [← hp] at y0 e1
                have y9 := HFh.out p (by omega)
                have i1 : (0 : Int) ≤ (p : Int) := by omega
                have i2 : (p : Int) < (c.kl : Int) := by omega
                by_cases h5 : c.kh p < c.kh k
                · have HO2 : Hid (∀ t, t < k + 1 → VOK n c t) := allS HOK.out ⟨h1, h2, h3, fun _ => hp ▸ h5⟩
                  clear hc h2 HNk HNt HK h3 hp
                  go_wp2
                  go_roundw
                  case rel => exact ⟨k + 1, by go_num, by omega, HO2.out, trivial⟩
                  case measure => simp [intOf]; omega
                · have HN : Hid (¬ Val n false c) := HNk.out (fun h => h5 (hp ▸ h.2.2.2 (by omega)))
                  clear hc h2 HNk HNt HK h3 hp
                  go_wp2
                  go_ret
                  exact iff_no HN.out (below_alloc _ _)
        · have HN : Hid (¬ Val n false c) := HNk.out (fun h => h1 h.1)
          clear hc HNk HNt HK
          go_wp2
          go_ret
          exact iff_no HN.out (below_alloc _ _)
      · obtain rfl : k = c.kl := by omega
        have HV : Hid (Val n false c) := HOO.out HOK.out
        clear HNt HK
        go_wp2
        go_ret
        exact iff_yes HV.out (below_alloc _ _)
  · have HN : Hid (¬ Val n false c) := HNo.out ho
    clear HY HNo HNt HK
    unfold Evv
    go_enter Try.func11, Try.ntmps11
    go_wp2
    go_ret
    exact iff_no HN.out (below_alloc _ _)
end Go.Proofs.Qxb6609005a
