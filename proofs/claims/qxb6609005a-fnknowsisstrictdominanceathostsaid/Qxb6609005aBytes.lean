import Derived.Test.Qxb6609005aBuild
import Derived.WalkKit
import Derived.ProofKit
import Derived.WalkSpells
import Derived.WalkSmall
namespace Go.Proofs.Qxb6609005a
open Go.RowKit Go.Kx Go.Kn
/-- The budget's test: where it says yes the three lengths are small. -/
def BytesPost (n k1 k2 : Nat) (w : World) (e : Ending) (w' : World) : Prop := ∃ r, e = .returned (.bool r) ∧ (r = true → n ≤ 1048576 ∧ k1 ≤ 1048576 ∧ k2 ≤ 1048576) ∧ Below w.heap.size w w'
theorem bytes_no {n k1 k2 : Nat} {w w' : World} (hb : Below w.heap.size w w') : BytesPost n k1 k2 w (.returned (.bool false)) w' := ⟨false, rfl, (fun h => absurd h (by decide)), hb⟩
set_option maxRecDepth 100000 in
set_option maxHeartbeats 2000000 in
theorem bytes_any (na : Option Addr) (n nc : Nat) (nm : Nat → ByteArray) (s1 s2 : ByteArray) (l1 l2 : Int) (z1 z2 : Bool) (c d : Ck) (ka1 ka2 : Option Addr) (kc1 kc2 : Nat) (w : World) (hs : ∀ i, i < n → (nm i).size ≤ maxLen) (hN : Nms w na n nm)
    (hn : n ≤ maxLen) (h1 : s1.size ≤ maxLen) (h2 : s2.size ≤ maxLen) (k1 : c.kl ≤ maxLen) (k2 : d.kl ≤ maxLen) :
    Calls Try.prog 7 #[.slice na n nc, Evv s1 l1 z1 c ka1 kc1, Evv s2 l2 z2 d ka2 kc2] w (BytesPost n c.kl d.kl w) := by
  have hb0 : Hid (∀ a b, Below w.heap.size w ((w.alloc a).alloc b)) := fun a b => below2 w a b
  have HN : Hid (Nms ((w.alloc (.cells #[.string s1, .int .u64 l1, .bool z1, .int .u32 c.own, .int .u32 c.cn, .slice ka1 c.kl kc1] 27)).alloc (.cells #[.string s2, .int .u64 l2, .bool z2, .int .u32 d.own, .int .u32 d.cn, .slice ka2 d.kl kc2] 27)) na n nm) := hN.below (below2 _ _ _)
  have HS : Hid (∀ i, i < n → (nm i).size ≤ maxLen) := hs
  clear hN hs
  unfold maxLen at *
  unfold Evv
  by_cases g0 : 1048576 < n
  · go_enter Try.func7, Try.ntmps7
    go_wp2
    go_ret
    exact bytes_no (hb0.out _ _)
  · have hdec : decide ((1048576 : Int) < (n : Int)) = false := decide_eq_false (by omega)
    have hdec' : decide (1048576 < n) = false := decide_eq_false (by omega)
    go_enter Try.func7, Try.ntmps7
    go_wp2
    go_loopw [7, 8] (fun tt kk wr => ∃ t k : Nat, tt = .int .i64 t ∧ kk = .int .i64 k ∧ t ≤ 1048576 ∧ k ≤ n ∧ wr = ((w.alloc (.cells #[.string s1, .int .u64 l1, .bool z1, .int .u32 c.own, .int .u32 c.cn, .slice ka1 c.kl kc1] 27)).alloc (.cells #[.string s2, .int .u64 l2, .bool z2, .int .u32 d.own, .int .u32 d.cn, .slice ka2 d.kl kc2] 27))) (fun _ kk _ => n - (intOf kk).toNat)
    case atStart => exact ⟨n, 0, by go_num, rfl, by omega, by omega, rfl⟩
    case round =>
      obtain ⟨t, k, rfl, rfl, ht, hk, rfl⟩ := hrel
      by_cases hlt : k < n
      · obtain ⟨b, off, rfl, hc⟩ := HN.out k hlt
        have hsz := HS.out k hlt
        clear HS HN
        generalize nm k = u at *
        by_cases e1 : 1048576 < u.size
        · go_wp2
          go_ret
          exact bytes_no (hb0.out _ _)
        · by_cases e2 : 1048576 < t + u.size
          · go_wp2
            go_ret
            exact bytes_no (hb0.out _ _)
          · go_wp2
            go_roundw
            case rel => exact ⟨t + u.size, k + 1, by go_num, by go_num, by omega, by omega, trivial⟩
            case measure => simp [intOf]; omega
      · clear HS HN
        by_cases a1 : 1048576 < s1.size
        · go_wp2
          go_ret
          exact bytes_no (hb0.out _ _)
        by_cases a2 : 1048576 < t + s1.size
        · go_wp2
          go_ret
          exact bytes_no (hb0.out _ _)
        by_cases a3 : 1048576 < c.kl
        · go_wp2
          go_ret
          exact bytes_no (hb0.out _ _)
        by_cases a4 : 1048576 < t + s1.size + c.kl
        · go_wp2
          go_ret
          exact bytes_no (hb0.out _ _)
        by_cases a5 : 1048576 < s2.size
        · go_wp2
          go_ret
          exact bytes_no (hb0.out _ _)
        by_cases a6 : 1048576 < t + s1.size + c.kl + s2.size
        · go_wp2
          go_ret
          exact bytes_no (hb0.out _ _)
        by_cases a7 : 1048576 < d.kl
        · go_wp2
          go_ret
          exact bytes_no (hb0.out _ _)
        by_cases a8 : 1048576 < t + s1.size + c.kl + s2.size + d.kl
        · go_wp2
          go_ret
          exact bytes_no (hb0.out _ _)
        · go_wp2
          go_ret
          exact ⟨true, rfl, fun _ => ⟨by omega, by omega, by omega⟩, hb0.out _ _⟩
end Go.Proofs.Qxb6609005a
