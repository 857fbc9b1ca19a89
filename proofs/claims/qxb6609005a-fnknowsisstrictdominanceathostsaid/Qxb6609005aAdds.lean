import Derived.Test.Qxb6609005aBuild
import Derived.WalkKit
import Derived.ProofKit
import Derived.WalkSpells
import Derived.WalkSmall
import Derived.BigQuiet
import Derived.Deep.QuietTactic
import Derived.Sort.Walk0
namespace Go.Proofs.Qxb6609005a
open Go.RowKit Go.Kx Go.Kn
/-- Some integer that is no great one; nothing old has turned. -/
def SomeInt (w : World) (e : Ending) (w' : World) : Prop := ∃ x : Nat, e = .returned (.int .i64 x) ∧ x ≤ 100000000 ∧ Below w.heap.size w w'
set_option maxHeartbeats 1000000 in
theorem addNames_any (na : Option Addr) (n nc : Nat) (nm : Nat → ByteArray) (w : World) (hn : n ≤ 1048576) (hs : ∀ i, i < n → (nm i).size ≤ maxLen) (hN : Nms w na n nm) :
    Calls Try.prog 8 #[.int .i64 0, .slice na n nc] w (SomeInt w) := by
  unfold maxLen at hs
  go_enter Try.func8, Try.ntmps8
  go_wp2
  go_loopw [0, 5] (fun tt kk wr => ∃ t k : Nat, tt = .int .i64 t ∧ kk = .int .i64 k ∧ t ≤ 1048576 ∧ k ≤ n ∧ wr = w) (fun _ kk _ => n - (intOf kk).toNat)
  case atStart => exact ⟨0, 0, rfl, rfl, by omega, by omega, rfl⟩
  case round =>
    obtain ⟨t, k, rfl, rfl, ht, hk, rfl⟩ := hrel
    by_cases hlt : k < n
    · obtain ⟨b, off, rfl, hc⟩ := hN k hlt
      have hsz := hs k hlt
      clear hs hN
      generalize nm k = u at *
      by_cases h1 : 1048576 < u.size
      · go_wp2
        go_ret
        exact ⟨1048577, rfl, by omega, Below.refl _ _⟩
      · by_cases h2 : 1048576 < t + (8 + u.size)
        · go_wp2
          go_ret
          exact ⟨t + (8 + u.size), by go_num, by omega, Below.refl _ _⟩
        · go_wp2
          go_roundw
          case rel => exact ⟨t + (8 + u.size), k + 1, by go_num, by go_num, by omega, by omega, trivial⟩
          case measure => simp [intOf]; omega
    · clear hs hN
      go_wp2
      go_ret
      exact ⟨t, rfl, by omega, Below.refl _ _⟩
set_option maxHeartbeats 1000000 in
theorem addEvent_any (t : Nat) (s : ByteArray) (lam : Int) (z : Bool) (c : Ck) (ka : Option Addr) (kc : Nat) (w : World) (ht : t ≤ 1048576) (hs : s.size ≤ maxLen) (hf : c.kl ≤ maxLen) :
    Calls Try.prog 9 #[.int .i64 t, Evv s lam z c ka kc] w (SomeInt w) := by
  unfold maxLen at hs hf
  unfold Evv
  have hd0 : decide ((1048576 : Int) < (t : Int)) = false := decide_eq_false (by omega)
  by_cases h1 : 1048576 < s.size
  · go_enter Try.func9, Try.ntmps9
    go_wp2
    go_ret
    exact ⟨1048577, rfl, by omega, below_alloc _ _⟩
  · by_cases h2 : 1048576 < c.kl
    · go_enter Try.func9, Try.ntmps9
      go_wp2
      go_ret
      exact ⟨1048577, rfl, by omega, below_alloc _ _⟩
    · go_enter Try.func9, Try.ntmps9
      go_wp2
      go_ret
      exact ⟨t + s.size + 8 * c.kl, by go_num, by omega, below_alloc _ _⟩
end Go.Proofs.Qxb6609005a
