import Derived.Test.Qxb6609020aCells
import Derived.WalkKit
import Derived.ProofKit
import Derived.WalkSpells
import Derived.WalkSmall
namespace Go.Proofs.Qxb6609020a
open Go.RowKit Go.Kx
/-- Some integer that is no great one; nothing turns. -/
def SomeInt (w : World) (e : Ending) (w' : World) : Prop := ∃ x : Nat, e = .returned (.int .i64 x) ∧ x ≤ 100000000 ∧ w' = w
set_option maxHeartbeats 1000000 in
theorem strsBytes_any (t0 : Nat) (na : Option Addr) (n nc : Nat) (nm : Nat → ByteArray) (w : World) (ht0 : t0 ≤ 2097152) (hn : n ≤ maxLen) (hs : ∀ i, i < n → (nm i).size ≤ maxLen) (hN : Nms w na n nm) :
    Calls Try.prog 16 #[.int .i64 t0, .slice na n nc] w (SomeInt w) := by
  unfold maxLen at hs hn
  go_enter Try.func16, Try.ntmps16
  go_wp2
  go_loopw [0, 5] (fun tt kk wr => ∃ t k : Nat, tt = .int .i64 t ∧ kk = .int .i64 k ∧ t ≤ 2097152 ∧ k ≤ n ∧ wr = w) (fun _ kk _ => n - (intOf kk).toNat)
  case atStart => exact ⟨t0, 0, rfl, rfl, by omega, by omega, rfl⟩
  case round =>
    obtain ⟨t, k, rfl, rfl, ht, hk, rfl⟩ := hrel
    by_cases hlt : k < n
    · obtain ⟨b, off, rfl, hc⟩ := hN k hlt
      have hsz := hs k hlt
      clear hs hN
      generalize nm k = u at *
      by_cases h1 : 1048576 < u.size
      · go_wp2
        go_ret
        exact ⟨1048577, rfl, by omega, rfl⟩
      · by_cases h2 : 1048576 < t + (16 + u.size)
        · go_wp2
          go_ret
          exact ⟨t + (16 + u.size), by go_num, by omega, rfl⟩
        · go_wp2
          go_roundw
          case rel => exact ⟨t + (16 + u.size), k + 1, by go_num, by go_num, by omega, by omega, trivial⟩
          case measure => simp [intOf]; omega
    · clear hs hN
      go_wp2
      go_ret
      exact ⟨t, rfl, by omega, rfl⟩
set_option maxRecDepth 100000 in
set_option maxHeartbeats 1000000 in
theorem censusBytes_any (t0 : Nat) (fa : Option Addr) (fl fc : Nat) (ka : Option Addr) (n kc : Nat) (KA : Nat → Option Addr) (KL KC : Nat → Nat) (km : Nat → Nat → ByteArray) (va : Option Addr) (m vc : Nat) (VA : Nat → Option Addr) (VL VC : Nat → Nat) (w : World) (ht0 : t0 ≤ 1048576) (hfl : fl ≤ maxLen) (hn : n ≤ maxLen) (hm : m ≤ maxLen)
    (hK : Rw w ka n KA KL KC) (hN : ∀ i, i < n → Nms w (KA i) (KL i) (km i)) (hKl : ∀ i, i < n → KL i ≤ maxLen) (hKs : ∀ i j, i < n → j < KL i → (km i j).size ≤ maxLen)
    (hV : Rw w va m VA VL VC) (hVl : ∀ i, i < m → VL i ≤ maxLen) :
    Calls Try.prog 10 #[.int .i64 t0, .slice fa fl fc, .slice ka n kc, .slice va m vc] w (SomeInt w) := by
  have C16 : Hid (∀ i t, i < n → t ≤ 2097152 → Calls Try.prog 16 #[.int .i64 (t : Nat), .slice (KA i) (KL i) (KC i)] w (SomeInt w)) := fun i t hi ht => strsBytes_any t (KA i) (KL i) (KC i) (km i) w ht (hKl i hi) (fun j hj => hKs i j hi hj) (hN i hi)
  have HV : Hid (∀ i, i < m → VL i ≤ maxLen) := hVl
  have HVR : Hid (Rw w va m VA VL VC) := hV
  have HKR : Hid (Rw w ka n KA KL KC) := hK
  clear hN hKl hKs hVl hV hK
  unfold maxLen at hfl hn hm
  have HQ : Hid (∀ t : Nat, t ≤ 1048576 → ∃ q : Nat, ((1048576 : Int) - (t : Int)).tdiv 8 = (q : Int) ∧ 8 * q ≤ 1048576 - t) := fun t ht => ⟨(1048576 - t) / 8, by rw [Int.tdiv_eq_ediv_of_nonneg (by omega)]; omega, by omega⟩
  obtain ⟨q, hq, hq8⟩ := HQ.out t0 ht0
  have hd1 : decide ((1048576 : Int) < (t0 : Int)) = false := decide_eq_false (by omega)
  by_cases hf : q < fl
  · have hd2 : decide ((q : Int) < (fl : Int)) = true := decide_eq_true (by omega)
    go_enter Try.func10, Try.ntmps10
    go_wp2
    go_ret
    exact ⟨1048577, rfl, by omega, rfl⟩
  · have hd2 : decide ((q : Int) < (fl : Int)) = false := decide_eq_false (by omega)
    have hd3 : decide (q < fl) = false := decide_eq_false hf
    go_enter Try.func10, Try.ntmps10
    go_wp2
    go_loopw [0, 9] (fun tt kk wr => ∃ t k : Nat, tt = .int .i64 t ∧ kk = .int .i64 k ∧ t ≤ 1048576 ∧ k ≤ n ∧ wr = w) (fun _ kk _ => n - (intOf kk).toNat)
    case atStart => exact ⟨t0 + 8 * fl, 0, by go_num, rfl, by omega, by omega, rfl⟩
    case round =>
      obtain ⟨t, k, rfl, rfl, ht, hk, rfl⟩ := hrel
      by_cases hlt : k < n
      · obtain ⟨b, off, rfl, hc⟩ := HKR.out k hlt
        have HC : Hid (Calls Try.prog 16 #[.int .i64 ((t : Int) + 24), .slice (KA k) (KL k) (KC k)] wr (SomeInt wr)) := C16.out k (t + 24) hlt (by omega)
        clear C16 HV HVR HKR
        go_wp2_with fail
        refine Calls.mono HC.out ?_
        rintro e w2 ⟨x, rfl, hx, rfl⟩
        by_cases hx1 : 1048576 < x
        · go_wp2
          go_ret
          exact ⟨x, rfl, hx, rfl⟩
        · go_wp2
          go_roundw
          case rel => exact ⟨x, k + 1, rfl, by go_num, by omega, by omega, trivial⟩
          case measure => simp [intOf]; omega
      · clear HKR C16
        go_wp2
        go_loopw [0, 10] (fun tt kk wx => ∃ t k : Nat, tt = .int .i64 t ∧ kk = .int .i64 k ∧ t ≤ 1048576 ∧ k ≤ m ∧ wx = wr) (fun _ kk _ => m - (intOf kk).toNat)
        case atStart => exact ⟨t, 0, rfl, rfl, by omega, by omega, rfl⟩
        case round =>
          obtain ⟨t, j, rfl, rfl, ht, hj, rfl⟩ := hrel
          by_cases hjl : j < m
          · obtain ⟨b, off, rfl, hc⟩ := HVR.out j hjl
            have hvl : VL j ≤ 2 ^ 63 - 1 := HV.out j hjl
            obtain ⟨q2, hq2, hq28⟩ := HQ.out t ht
            clear HV HVR HQ
            generalize VL j = vl at *
            by_cases hv : q2 < vl
            · go_wp2
              go_ret
              exact ⟨1048577, rfl, by omega, rfl⟩
            · by_cases h2 : 1048576 < t + (24 + 8 * vl)
              · go_wp2
                go_ret
                exact ⟨t + (24 + 8 * vl), by go_num, by omega, rfl⟩
              · go_wp2
                go_roundw
                case rel => exact ⟨t + (24 + 8 * vl), j + 1, by go_num, by go_num, by omega, by omega, trivial⟩
                case measure => simp [intOf]; omega
          · clear HV HVR
            go_wp2
            go_ret
            exact ⟨t, rfl, by omega, rfl⟩
end Go.Proofs.Qxb6609020a
