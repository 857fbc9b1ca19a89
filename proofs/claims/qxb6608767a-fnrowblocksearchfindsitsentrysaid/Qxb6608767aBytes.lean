import Derived.Test.Qxb6608767aLayout
import Derived.WalkKit
import Derived.ProofKit
import Derived.WalkSpells
import Derived.WalkSmall
namespace Go.Proofs.Qxb6608767a
open Go.RowKit Go.Kx
/-- Some bool, and the world as it was. -/
def SomeBool (p : Prop) (w : World) (e : Ending) (w' : World) : Prop := ∃ r, e = .returned (.bool r) ∧ w = w' ∧ (r = true → p)
theorem someBool {p : Prop} (w : World) : SomeBool p w (.returned (.bool false)) w := ⟨false, rfl, rfl, fun h => absurd h (by decide)⟩
theorem someTrue {p : Prop} (w : World) (h : p) : SomeBool p w (.returned (.bool true)) w := ⟨true, rfl, rfl, fun _ => h⟩
set_option maxHeartbeats 2000000 in
theorem zzBytes_pos (b off n nc : Nat) (nm : Nat → ByteArray) (va oa : Option Addr) (vl vc ol oc : Nat) (j : Int) (w : World) (hs : ∀ i, i < n → (nm i).size ≤ maxLen)
    (hc : ∀ i, i < n → w.cell? ⟨b, off + i, none⟩ = some (.string (nm i))) (bn : n ≤ maxLen) (bv : vl ≤ maxLen) (bo : ol ≤ maxLen) :
    Calls Try.prog 10 #[.slice (some ⟨b, off, none⟩) n nc, .slice va vl vc, .slice oa ol oc, .int .i64 j] w (SomeBool (∀ i, i < n → (nm i).size ≤ 1048576) w) := by
  unfold maxLen at bn bv bo hs
  by_cases h1 : n ≤ 1048576
  · go_enter Try.func10, Try.ntmps10
    go_wp2
    go_loop [9, 10] (fun t i => ∃ (k : Nat) (s : Nat), i = .int .i64 k ∧ k ≤ n ∧ t = .int .i64 s ∧ s ≤ 1048576 ∧ ∀ x, x < k → (nm x).size ≤ 1048576) (fun _ i => n - (intOf i).toNat)
    case atStart => exact ⟨0, n, rfl, Nat.zero_le _, rfl, h1, fun x h => absurd h (Nat.not_lt_zero _)⟩
    case round =>
      obtain ⟨k, s, rfl, hk, rfl, hsm, hall⟩ := hrel
      by_cases hlt : k < n
      · have c := hc k hlt
        have sz := hs k hlt
        clear hc hs
        by_cases h2 : (nm k).size ≤ 1048576
        · by_cases h3 : s + (nm k).size ≤ 1048576
          · go_wp2
            go_round
            case rel => exact ⟨k + 1, s + (nm k).size, by go_num, by omega, by go_num, h3, all_succ hall h2⟩
            case measure => simp [intOf]; omega
          · go_wp2
            go_ret
            exact someBool _
        · go_wp2
          go_ret
          exact someBool _
      · clear hc hs
        by_cases h2 : vl ≤ 1048576
        · by_cases h3 : s + vl ≤ 1048576
          · by_cases h4 : ol ≤ 1048576
            · by_cases h5 : s + vl + ol ≤ 1048576
              · go_wp2
                go_ret
                exact someTrue _ (fun i hi => hall i (by omega))
              · go_wp2
                go_ret
                exact someBool _
            · go_wp2
              go_ret
              exact someBool _
          · go_wp2
            go_ret
            exact someBool _
        · go_wp2
          go_ret
          exact someBool _
  · go_enter Try.func10, Try.ntmps10
    go_wp2
    go_ret
    exact someBool _

set_option maxHeartbeats 2000000 in
theorem zzBytes_zero {p : Prop} (hp : p) (na : Option Addr) (nc : Nat) (va oa : Option Addr) (vl vc ol oc : Nat) (j : Int) (w : World) (bv : vl ≤ maxLen) (bo : ol ≤ maxLen) :
    Calls Try.prog 10 #[.slice na 0 nc, .slice va vl vc, .slice oa ol oc, .int .i64 j] w (SomeBool p w) := by
  unfold maxLen at bv bo
  go_enter Try.func10, Try.ntmps10
  go_wp2
  go_loop [9, 10] (fun t i => i = .int .i64 0 ∧ t = .int .i64 0) (fun _ _ => 0)
  case atStart => exact ⟨rfl, rfl⟩
  case round =>
    obtain ⟨rfl, rfl⟩ := hrel
    by_cases h2 : vl ≤ 1048576
    · by_cases h4 : ol ≤ 1048576
      · by_cases h5 : vl + ol ≤ 1048576
        · go_wp2
          go_ret
          exact someTrue _ hp
        · go_wp2
          go_ret
          exact someBool _
      · go_wp2
        go_ret
        exact someBool _
    · go_wp2
      go_ret
      exact someBool _

end Go.Proofs.Qxb6608767a
