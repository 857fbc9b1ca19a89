import Derived.Test.Qxb6609020aBytes
import Derived.WalkKit
import Derived.ProofKit
import Derived.WalkSpells
import Derived.WalkSmall
namespace Go.Proofs.Qxb6609020a
open Go.RowKit Go.Kx
set_option maxRecDepth 100000 in
set_option maxHeartbeats 4000000 in
theorem bytes18_any (xa : Option Addr) (xl xc : Nat) (xm : Nat → ByteArray) (ha : Option Addr) (n hc : Nat) (pa : Option Addr) (pl pc : Nat) (pm : Nat → ByteArray) (ta : Option Addr) (tl tc : Nat) (ver rul : Int) (s : ByteArray) (t16 v8 : Int) (w : World)
    (hxl : xl ≤ maxLen) (hn : n ≤ maxLen) (hpl : pl ≤ maxLen) (htl : tl ≤ maxLen) (hs : s.size ≤ maxLen) (hXN : Nms w xa xl xm) (hXs : ∀ i, i < xl → (xm i).size ≤ maxLen) (hPN : Nms w pa pl pm) (hPs : ∀ i, i < pl → (pm i).size ≤ maxLen) :
    Calls Try.prog 18 #[.slice xa xl xc, .slice ha n hc, .slice pa pl pc, .slice ta tl tc, .int .u64 ver, .int .u8 rul, .string s, .int .u16 t16, .int .u8 v8] w (BytesPost (pl ≤ 1048576 ∧ s.size + n + tl ≤ 1048576) w) := by
  have HX : Hid (Nms w xa xl xm) := hXN
  have HXs : Hid (∀ i, i < xl → (xm i).size ≤ maxLen) := hXs
  have HP : Hid (Nms w pa pl pm) := hPN
  have HPs : Hid (∀ i, i < pl → (pm i).size ≤ maxLen) := hPs
  clear hXN hXs hPN hPs
  unfold maxLen at hxl hn hpl htl hs
  by_cases g0 : 1048576 < xl
  · go_enter Try.func18, Try.ntmps18
    go_wp2
    go_ret
    exact bytes_no
  have a0 : decide ((1048576 : Int) < (xl : Int)) = false := decide_eq_false (by omega)
  have a0' : decide (1048576 < xl) = false := decide_eq_false g0
  go_enter Try.func18, Try.ntmps18
  go_wp2
  go_loopw [19, 20] (fun tt kk wr => ∃ t k : Nat, tt = .int .i64 t ∧ kk = .int .i64 k ∧ t ≤ 1048576 ∧ k ≤ xl ∧ wr = w) (fun _ kk _ => xl - (intOf kk).toNat)
  case atStart => exact ⟨xl, 0, by go_num, rfl, by omega, by omega, rfl⟩
  case round =>
    obtain ⟨t, k, rfl, rfl, ht, hk, rfl⟩ := hrel
    by_cases hlt : k < xl
    · obtain ⟨b, off, rfl, hc⟩ := HX.out k hlt
      have hkl : (xm k).size ≤ 2 ^ 63 - 1 := HXs.out k hlt
      clear HX HXs HP HPs
      generalize xm k = u at *
      by_cases f1 : 1048576 < u.size
      · go_wp2
        go_ret
        exact bytes_no
      by_cases f2 : 1048576 < t + u.size
      · go_wp2
        go_ret
        exact bytes_no
      go_wp2
      go_roundw
      case rel => exact ⟨t + u.size, k + 1, by go_num, by go_num, by omega, by omega, trivial⟩
      case measure => simp [intOf]; omega
    · clear HX HXs
      by_cases e1 : 1048576 < n
      · go_wp2
        go_ret
        exact bytes_no
      by_cases e2 : 1048576 < t + n
      · go_wp2
        go_ret
        exact bytes_no
      have d1 : decide ((1048576 : Int) < (n : Int)) = false := decide_eq_false (by omega)
      have d1' : decide (1048576 < n) = false := decide_eq_false e1
      have d2 : decide ((1048576 : Int) < (t : Int) + (n : Int)) = false := decide_eq_false (by omega)
      have d2' : decide (1048576 < t + n) = false := decide_eq_false e2
      by_cases e3 : 1048576 < pl
      · go_wp2
        go_ret
        exact bytes_no
      by_cases e4 : 1048576 < t + n + pl
      · go_wp2
        go_ret
        exact bytes_no
      have d3 : decide ((1048576 : Int) < (pl : Int)) = false := decide_eq_false (by omega)
      have d3' : decide (1048576 < pl) = false := decide_eq_false e3
      have d4 : decide ((1048576 : Int) < (t : Int) + (n : Int) + (pl : Int)) = false := decide_eq_false (by omega)
      have d4' : decide (1048576 < t + n + pl) = false := decide_eq_false e4
      go_wp2
      obtain ⟨wo, rfl⟩ : ∃ wo : World, wo = wr := ⟨_, rfl⟩
      go_loopw [19, 21] (fun tt jj wx => ∃ t2 j : Nat, tt = .int .i64 t2 ∧ jj = .int .i64 j ∧ t2 ≤ 1048576 ∧ n ≤ t2 ∧ j ≤ pl ∧ wx = wo) (fun _ jj _ => pl - (intOf jj).toNat)
      case atStart => exact ⟨t + n + pl, 0, by go_num, rfl, by omega, by omega, by omega, rfl⟩
      case round =>
        obtain ⟨t2, j, rfl, rfl, ht2, hnt, hj, rfl⟩ := hrel
        by_cases hjl : j < pl
        · obtain ⟨b2, off2, rfl, hc2⟩ := HP.out j hjl
          have hsz : (pm j).size ≤ 2 ^ 63 - 1 := HPs.out j hjl
          clear HP HPs
          generalize pm j = u at *
          by_cases f1 : 1048576 < u.size
          · go_wp2
            go_ret
            exact bytes_no
          by_cases f2 : 1048576 < t2 + u.size
          · go_wp2
            go_ret
            exact bytes_no
          go_wp2
          go_roundw
          case rel => exact ⟨t2 + u.size, j + 1, by go_num, by go_num, by omega, by omega, by omega, trivial⟩
          case measure => simp [intOf]; omega
        · clear HP HPs
          by_cases f1 : 1048576 < tl
          · go_wp2
            go_ret
            exact bytes_no
          by_cases f2 : 1048576 < t2 + tl
          · go_wp2
            go_ret
            exact bytes_no
          have d5 : decide ((1048576 : Int) < (tl : Int)) = false := decide_eq_false (by omega)
          have d5' : decide (1048576 < tl) = false := decide_eq_false f1
          have d6 : decide ((1048576 : Int) < (t2 : Int) + (tl : Int)) = false := decide_eq_false (by omega)
          have d6' : decide (1048576 < t2 + tl) = false := decide_eq_false f2
          by_cases f3 : 1048576 < s.size
          · go_wp2
            go_ret
            exact bytes_no
          by_cases f4 : 1048576 < t2 + tl + s.size
          · go_wp2
            go_ret
            exact bytes_no
          go_wp2
          go_ret
          exact ⟨true, rfl, fun _ => ⟨by omega, by omega⟩, rfl⟩
end Go.Proofs.Qxb6609020a
