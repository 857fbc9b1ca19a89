import Derived.Test.Qxb6609020aCells
import Derived.WalkKit
import Derived.ProofKit
import Derived.WalkSpells
import Derived.WalkSmall
namespace Go.Proofs.Qxb6609020a
open Go.RowKit Go.Kx
/-- The budget's test: where it says yes p holds. -/
def BytesPost (p : Prop) (w : World) (e : Ending) (w' : World) : Prop := ∃ r, e = .returned (.bool r) ∧ (r = true → p) ∧ w' = w
theorem bytes_no {p : Prop} {w : World} : BytesPost p w (.returned (.bool false)) w := ⟨false, rfl, (fun h => absurd h (by decide)), rfl⟩
set_option maxRecDepth 100000 in
set_option maxHeartbeats 4000000 in
theorem bytes9_any (fa : Option Addr) (fl fc : Nat) (ka : Option Addr) (n kc : Nat) (KA : Nat → Option Addr) (KL KC : Nat → Nat) (km : Nat → Nat → ByteArray) (va : Option Addr) (m vc : Nat) (VA : Nat → Option Addr) (VL VC : Nat → Nat) (s : ByteArray) (cut : Int) (w : World) (hfl : fl ≤ maxLen) (hn : n ≤ maxLen) (hm : m ≤ maxLen) (hs : s.size ≤ maxLen)
    (hK : Rw w ka n KA KL KC) (hN : ∀ i, i < n → Nms w (KA i) (KL i) (km i)) (hKl : ∀ i, i < n → KL i ≤ maxLen) (hKs : ∀ i j, i < n → j < KL i → (km i j).size ≤ maxLen)
    (hV : Rw w va m VA VL VC) (hVl : ∀ i, i < m → VL i ≤ maxLen) :
    Calls Try.prog 9 #[.slice fa fl fc, .slice ka n kc, .slice va m vc, .string s, .int .i64 cut] w (BytesPost (n ≤ 1048576) w) := by
  have HV : Hid (∀ i, i < m → VL i ≤ maxLen) := hVl
  have HVR : Hid (Rw w va m VA VL VC) := hV
  have HKR : Hid (Rw w ka n KA KL KC) := hK
  have HN : Hid (∀ i, i < n → Nms w (KA i) (KL i) (km i)) := hN
  have HKl : Hid (∀ i, i < n → KL i ≤ maxLen) := hKl
  have HKs : Hid (∀ i j, i < n → j < KL i → (km i j).size ≤ maxLen) := hKs
  clear hN hKl hKs hVl hV hK
  unfold maxLen at hfl hn hm hs
  by_cases g0 : 1048576 < fl
  · go_enter Try.func9, Try.ntmps9
    go_wp2
    go_ret
    exact bytes_no
  have a0 : decide ((1048576 : Int) < (fl : Int)) = false := decide_eq_false (by omega)
  have a0' : decide (1048576 < fl) = false := decide_eq_false g0
  by_cases g1 : 1048576 < n
  · go_enter Try.func9, Try.ntmps9
    go_wp2
    go_ret
    exact bytes_no
  have a1 : decide ((1048576 : Int) < (n : Int)) = false := decide_eq_false (by omega)
  have a1' : decide (1048576 < n) = false := decide_eq_false g1
  by_cases g2 : 1048576 < fl + n
  · go_enter Try.func9, Try.ntmps9
    go_wp2
    go_ret
    exact bytes_no
  have a2 : decide ((1048576 : Int) < (fl : Int) + (n : Int)) = false := decide_eq_false (by omega)
  have a2' : decide (1048576 < fl + n) = false := decide_eq_false g2
  go_enter Try.func9, Try.ntmps9
  go_wp2
  go_loopw [11, 12] (fun tt kk wr => ∃ t k : Nat, tt = .int .i64 t ∧ kk = .int .i64 k ∧ t ≤ 1048576 ∧ k ≤ n ∧ wr = w) (fun _ kk _ => n - (intOf kk).toNat)
  case atStart => exact ⟨fl + n, 0, by go_num, rfl, by omega, by omega, rfl⟩
  case round =>
    obtain ⟨t, k, rfl, rfl, ht, hk, rfl⟩ := hrel
    by_cases hlt : k < n
    · obtain ⟨b, off, rfl, hc⟩ := HKR.out k hlt
      have hkl : KL k ≤ 2 ^ 63 - 1 := HKl.out k hlt
      have HNk : Hid (Nms wr (KA k) (KL k) (km k)) := HN.out k hlt
      have HSk : Hid (∀ j, j < KL k → (km k j).size ≤ maxLen) := fun j hj => HKs.out k j hlt hj
      clear HV HVR HKR HN HKl HKs
      generalize KL k = kl at *
      generalize KA k = kk at *
      generalize KC k = kd at *
      generalize km k = kmk at *
      by_cases e1 : 1048576 < kl
      · go_wp2
        go_ret
        exact bytes_no
      by_cases e2 : 1048576 < t + kl
      · go_wp2
        go_ret
        exact bytes_no
      have d1 : decide ((1048576 : Int) < (kl : Int)) = false := decide_eq_false (by omega)
      have d1' : decide (1048576 < kl) = false := decide_eq_false e1
      have d2 : decide ((1048576 : Int) < (t : Int) + (kl : Int)) = false := decide_eq_false (by omega)
      have d2' : decide (1048576 < t + kl) = false := decide_eq_false e2
      go_wp2
      obtain ⟨wo, rfl⟩ : ∃ wo : World, wo = wr := ⟨_, rfl⟩
      go_loopw [11, 13] (fun tt jj wx => ∃ t j : Nat, tt = .int .i64 t ∧ jj = .int .i64 j ∧ t ≤ 1048576 ∧ j ≤ kl ∧ wx = wo) (fun _ jj _ => kl - (intOf jj).toNat)
      case atStart => exact ⟨t + kl, 0, by go_num, rfl, by omega, by omega, rfl⟩
      case round =>
        obtain ⟨t2, j, rfl, rfl, ht2, hj, rfl⟩ := hrel
        by_cases hjl : j < kl
        · obtain ⟨b2, off2, rfl, hc2⟩ := HNk.out j hjl
          have hsz : (kmk j).size ≤ 2 ^ 63 - 1 := HSk.out j hjl
          clear HNk HSk
          generalize kmk j = u at *
          by_cases f1 : 1048576 < u.size
          · go_wp2
            go_ret
            exact bytes_no
          by_cases f2 : 1048576 < t2 + u.size
          · go_wp2
            go_ret
            exact bytes_no
          go_wp2
          go_roundw
          case rel => exact ⟨t2 + u.size, j + 1, by go_num, by go_num, by omega, by omega, trivial⟩
          case measure => simp [intOf]; omega
        · clear HNk HSk
          go_wp2
          go_roundw
          case rel => exact ⟨t2, k + 1, rfl, by go_num, by omega, by omega, trivial⟩
          case measure => simp [intOf]; omega
    · clear HKR HN HKl HKs
      by_cases e1 : 1048576 < m
      · go_wp2
        go_ret
        exact bytes_no
      by_cases e2 : 1048576 < t + m
      · go_wp2
        go_ret
        exact bytes_no
      have d1 : decide ((1048576 : Int) < (m : Int)) = false := decide_eq_false (by omega)
      have d1' : decide (1048576 < m) = false := decide_eq_false e1
      have d2 : decide ((1048576 : Int) < (t : Int) + (m : Int)) = false := decide_eq_false (by omega)
      have d2' : decide (1048576 < t + m) = false := decide_eq_false e2
      go_wp2
      obtain ⟨wo, rfl⟩ : ∃ wo : World, wo = wr := ⟨_, rfl⟩
      go_loopw [11, 14] (fun tt jj wx => ∃ t j : Nat, tt = .int .i64 t ∧ jj = .int .i64 j ∧ t ≤ 1048576 ∧ j ≤ m ∧ wx = wo) (fun _ jj _ => m - (intOf jj).toNat)
      case atStart => exact ⟨t + m, 0, by go_num, rfl, by omega, by omega, rfl⟩
      case round =>
        obtain ⟨t2, j, rfl, rfl, ht2, hj, rfl⟩ := hrel
        by_cases hjl : j < m
        · obtain ⟨b2, off2, rfl, hc2⟩ := HVR.out j hjl
          have hsz : VL j ≤ 2 ^ 63 - 1 := HV.out j hjl
          clear HV HVR
          generalize VL j = u at *
          by_cases f1 : 1048576 < u
          · go_wp2
            go_ret
            exact bytes_no
          by_cases f2 : 1048576 < t2 + u
          · go_wp2
            go_ret
            exact bytes_no
          go_wp2
          go_roundw
          case rel => exact ⟨t2 + u, j + 1, by go_num, by go_num, by omega, by omega, trivial⟩
          case measure => simp [intOf]; omega
        · clear HV HVR
          by_cases f1 : 1048576 < s.size
          · go_wp2
            go_ret
            exact bytes_no
          by_cases f2 : 1048576 < t2 + s.size
          · go_wp2
            go_ret
            exact bytes_no
          go_wp2
          go_ret
          exact ⟨true, rfl, fun _ => by omega, rfl⟩
end Go.Proofs.Qxb6609020a
