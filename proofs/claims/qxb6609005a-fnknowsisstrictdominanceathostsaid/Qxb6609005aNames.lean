import Derived.Test.Qxb6609005aBuild
import Derived.WalkKit
import Derived.ProofKit
import Derived.WalkSpells
import Derived.WalkSmall
import Derived.BigQuiet
import Derived.Deep.QuietTactic
import Derived.Sort.Walk0
namespace Go.Proofs.Qxb6609005a
open Go.RowKit Go.Kx Go.Kn
/-- The names rise. -/
def Srt (n : Nat) (nm : Nat → ByteArray) : Prop := ∀ i, 0 < i → i < n → Op.bytesLess (nm (i - 1)).toList (nm i).toList = true
set_option maxHeartbeats 1000000 in
theorem sorted_any (na : Option Addr) (n nc : Nat) (nm : Nat → ByteArray) (w : World) (hn : n ≤ 1048576) (hN : Nms w na n nm) :
    Calls Try.prog 10 #[.slice na n nc] w (Iff' (Srt n nm) w) := by
  have HNo : Hid (∀ i, 0 < i → i < n → Op.bytesLess (nm (i - 1)).toList (nm i).toList = false → ¬ Srt n nm) := fun i h1 h2 h3 h => by rw [h i h1 h2] at h3; cases h3
  go_enter Try.func10, Try.ntmps10
  go_wp2
  go_loopw [3] (fun kk wr => ∃ k m : Nat, kk = .int .i64 k ∧ 0 < k ∧ (k ≤ n ∨ k = 1) ∧ (∀ i, 0 < i → i < k → Op.bytesLess (nm (i - 1)).toList (nm i).toList = true) ∧ wr = w.drewN m) (fun kk _ => n - (intOf kk).toNat)
  case atStart => exact ⟨1, 0, rfl, by omega, .inr rfl, fun i h1 h2 => by omega, rfl⟩
  case round =>
    obtain ⟨k, m, rfl, hk0, hk, hok, rfl⟩ := hrel
    have HOK : Hid (∀ i, 0 < i → i < k → Op.bytesLess (nm (i - 1)).toList (nm i).toList = true) := hok
    clear hok
    have hB : Hid (∀ q, Below w.heap.size w (w.drewN q)) := fun q => below_drewN (Below.refl _ _) q
    by_cases hlt : k < n
    · obtain ⟨b, off, rfl, hc⟩ := hN k hlt
      obtain ⟨b', off', e, hc'⟩ := hN (k - 1) (by omega)
      cases e
      have HNk : Hid (Op.bytesLess (nm (k - 1)).toList (nm k).toList = false → ¬ Srt n nm) := HNo.out k hk0 hlt
      have e1 : IntKind.i64.wrap ((k : Int) - 1) = ((k - 1 : Nat) : Int) := by simp [IntKind.wrap, IntKind.bits, IntKind.signed]; omega
      obtain ⟨p, hp⟩ : ∃ p, p = k - 1 := ⟨_, rfl⟩
      rw [← hp] at hc' e1 HNk
      have i1 : (0 : Int) ≤ (p : Int) := by omega
      have i2 : (p : Int) < (n : Int) := by omega
      have j1 : (0 : Int) ≤ (k : Int) := by omega
      have j2 : (k : Int) < (n : Int) := by omega
      cases hv : Op.bytesLess (nm p).toList (nm k).toList with
      | true =>
        have HO2 : Hid (∀ i, 0 < i → i < k + 1 → Op.bytesLess (nm (i - 1)).toList (nm i).toList = true) := fun i h1 h2 => by
          by_cases e : i < k
          · exact HOK.out i h1 e
          · obtain rfl : i = k := by omega
            rw [← hp]; exact hv
        clear hN hp HNo HNk HOK
        go_wp2
        go_quiet (fail)
        go_wp2
        go_roundw
        case rel => exact ⟨k + 1, _, by go_num, by omega, .inl (by omega), HO2.out, rfl⟩
        case measure => simp [intOf]; omega
      | false =>
        have HN : Hid (¬ Srt n nm) := HNk.out hv
        clear hN hp HNo HNk HOK
        go_wp2
        go_quiet (fail)
        go_wp2
        go_ret
        exact iff_no HN.out (below_drewN (hB.out _) _)
    · have HF : Hid (Srt n nm) := fun i h1 h2 => HOK.out i h1 (by omega)
      clear hN HNo HOK
      go_wp2
      go_ret
      exact iff_yes HF.out (hB.out _)
/-- indexOf: the first index of the name, or -1. -/
def IdxPost (n : Nat) (nm : Nat → ByteArray) (s : ByteArray) (w : World) (e : Ending) (w' : World) : Prop :=
  w' = w ∧ ((∃ k, k < n ∧ nm k = s ∧ e = .returned (.int .i64 (k : Nat))) ∨ ((∀ i, i < n → nm i ≠ s) ∧ e = .returned (.int .i64 (-1))))
set_option maxHeartbeats 1000000 in
theorem indexOf_any (na : Option Addr) (n nc : Nat) (nm : Nat → ByteArray) (s : ByteArray) (w : World) (hn : n ≤ 1048576) (hN : Nms w na n nm) :
    Calls Try.prog 30 #[.slice na n nc, .string s] w (IdxPost n nm s w) := by
  go_enter Try.func30, Try.ntmps30
  go_wp2
  go_loopw [5] (fun kk wr => ∃ k : Nat, kk = .int .i64 k ∧ k ≤ n ∧ (∀ i, i < k → nm i ≠ s) ∧ wr = w) (fun kk _ => n - (intOf kk).toNat)
  case atStart => exact ⟨0, rfl, by omega, fun i h => absurd h (Nat.not_lt_zero _), rfl⟩
  case round =>
    obtain ⟨k, rfl, hk, hok, rfl⟩ := hrel
    have HOK : Hid (∀ i, i < k → nm i ≠ s) := hok
    clear hok
    by_cases hlt : k < n
    · obtain ⟨b, off, rfl, hc⟩ := hN k hlt
      by_cases hv : nm k = s
      · have HF : Hid (IdxPost n nm s wr (.returned (.int .i64 (k : Nat))) wr) := ⟨rfl, .inl ⟨k, hlt, hv, rfl⟩⟩
        clear hN HOK
        rw [hv] at hc
        clear hv
        go_wp2
        go_ret
        exact HF.out
      · have HO2 : Hid (∀ i, i < k + 1 → nm i ≠ s) := allS HOK.out hv
        have hvb : ((nm k).toList == s.toList) = false := beq_eq_false_iff_ne.2 (fun h => hv (by rw [Lib.toList_data, Lib.toList_data] at h; cases hx : nm k; cases s; rw [hx] at h; simp_all))
        clear hN HOK
        go_wp2
        go_roundw
        case rel => exact ⟨k + 1, by go_num, by omega, HO2.out, trivial⟩
        case measure => simp [intOf]; omega
    · have HF : Hid (IdxPost n nm s wr (.returned (.int .i64 (-1))) wr) := ⟨rfl, .inr ⟨fun i hi => HOK.out i (by omega), rfl⟩⟩
      clear hN HOK
      go_wp2
      go_ret
      exact HF.out
end Go.Proofs.Qxb6609005a
