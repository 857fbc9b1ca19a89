import Derived.Test.Qxb6609005aDoorNext
import Derived.WalkKit
import Derived.ProofKit
import Derived.WalkSpells
import Derived.WalkSmall
namespace Go.Proofs.Qxb6609005aDoor
open Go.RowKit Go.Kx
theorem next_zero (B b off C : Nat) (ro : Option Addr) (rn rc : Nat) (z : Nat → Nat) (fr ps lm : Int) (pc I : Nat) (w : World) (hpi : ps - fr = (I : Int)) (h1 : -536870912 ≤ fr) (h2 : fr ≤ 536870912) (h3 : ps ≤ 546870912)
    (c0 : w.cell? ⟨B, 0, none⟩ = some (.int .i64 fr)) (c1 : w.cell? ⟨B, 1, none⟩ = some (.slice (some ⟨b, off, none⟩) rn rc)) (hpc : pc < rn) (c2 : w.cell? ⟨b, off + pc, none⟩ = some (.slice ro 0 C)) :
    Calls Tryd.prog 11 #[.pointer (some ⟨B, 0, none⟩), .int .i64 pc, .int .i64 ps, .int .i64 lm] w (NextPost z 0 fr ps lm w) := by
  go_enter Tryd.func11, Tryd.ntmps11
  go_wp2
  go_loop [11, 12] (fun u _ => u = .int .u64 ((I : Int) / 64)) (fun _ _ => 0)
  case atStart => rfl
  case round =>
    subst hrel
    go_wp2
    go_ret
    exact ⟨lm, rfl, Or.inl ⟨rfl, fun j hj => absurd hj (by omega)⟩, 0, rfl⟩
/-- A slice whose n elements are f. -/
def Sl (w : World) (ao : Option Addr) (n : Nat) (f : Nat → Value) : Prop := ∀ i, i < n → ∃ b off, ao = some ⟨b, off, none⟩ ∧ w.cell? ⟨b, off + i, none⟩ = some (f i)
theorem znext_any (B b off L C : Nat) (ro : Option Addr) (rn rc : Nat) (z : Nat → Nat) (fr ps lm : Int) (pc I : Nat) (w : World) (hpi : ps - fr = (I : Int)) (h1 : -536870912 ≤ fr) (h2 : fr ≤ 536870912) (h3 : ps ≤ 546870912) (h4 : -536870912 ≤ lm) (h5 : lm ≤ 536870912) (hL : L ≤ 131072)
    (c0 : w.cell? ⟨B, 0, none⟩ = some (.int .i64 fr)) (c1 : w.cell? ⟨B, 1, none⟩ = some (.slice (some ⟨b, off, none⟩) rn rc)) (hpc : pc < rn) (c2 : w.cell? ⟨b, off + pc, none⟩ = some (.slice ro L C))
    (hz : ∀ i, i < L → z i < 18446744073709551616) (hc : Sl w ro L (fun i => .int .u64 (z i))) (hT : Tab w) :
    Calls Tryd.prog 9 #[.pointer (some ⟨B, 0, none⟩), .int .i64 pc, .int .i64 ps, .int .i64 lm] w (NextPost z L fr ps lm w) := by
  have H : Calls Tryd.prog 11 #[.pointer (some ⟨B, 0, none⟩), .int .i64 pc, .int .i64 ps, .int .i64 lm] w (NextPost z L fr ps lm w) := by
    by_cases hL0 : L = 0
    · subst hL0
      exact next_zero B b off C ro rn rc z fr ps lm pc I w hpi h1 h2 h3 c0 c1 hpc c2
    · obtain ⟨rb, rf, rfl, _⟩ := hc 0 (by omega)
      exact next_pos B b off L C rb rf rn rc z fr ps lm pc I w hpi h1 h2 h3 h4 h5 hL c0 c1 hpc c2 hz (fun i hi => by
        obtain ⟨rb', rf', e, hh⟩ := hc i hi
        cases e
        exact hh) hT
  have HH : Hid _ := H
  clear H hc hz hT
  go_enter Tryd.func9, Tryd.ntmps9
  go_wp2_with (go_at_call 11; refine Calls.mono HH.out ?_; rintro e w' ⟨r, rfl, hr, k, rfl⟩)
  go_ret
  exact ⟨r, rfl, hr, k, rfl⟩
theorem new_any (fr wd : Int) (ro : Option Addr) (rn rc : Nat) (w : World) :
    Calls Tryd.prog 8 #[.int .i64 fr, .slice ro rn rc, .int .i64 wd] w fun e w' => e = .returned (.pointer (some ⟨w.heap.size, 0, none⟩)) ∧ w' = w.alloc (.cells #[.int .i64 fr, .slice ro rn rc, .int .i64 wd] 33) := by
  go_enter Tryd.func8, Tryd.ntmps8
  go_wp2
  go_ret
  exact ⟨rfl, rfl⟩
theorem all_succ {P : Nat → Prop} {k : Nat} (h : ∀ t, t < k → P t) (hk : P k) : ∀ t, t < k + 1 → P t := fun t ht => by
  by_cases e : t < k
  · exact h t e
  · obtain rfl : t = k := by omega
    exact hk
/-- Some bool, the world as it was; p where it is true. -/
def SomeBool (p : Prop) (w : World) (e : Ending) (w' : World) : Prop := ∃ r, e = .returned (.bool r) ∧ w = w' ∧ (r = true → p)
theorem someBool {p : Prop} (w : World) : SomeBool p w (.returned (.bool false)) w := ⟨false, rfl, rfl, fun h => absurd h (by decide)⟩
theorem someTrue {p : Prop} (w : World) (h : p) : SomeBool p w (.returned (.bool true)) w := ⟨true, rfl, rfl, fun _ => h⟩
/-- What the walk is told of the rows. -/
def Rws (w : World) (b off n : Nat) (A : Nat → Option Addr) (L C : Nat → Nat) : Prop := ∀ i, i < n → w.cell? ⟨b, off + i, none⟩ = some (.slice (A i) (L i) (C i)) ∧ L i ≤ maxLen

set_option maxHeartbeats 1000000 in
theorem zzBytes5_pos (b off n nc : Nat) (A : Nat → Option Addr) (L C : Nat → Nat) (fr wd pc ps lm : Int) (w : World) (hn : n ≤ maxLen) (hc : Rws w b off n A L C) :
    Calls Tryd.prog 5 #[.int .i64 fr, .slice (some ⟨b, off, none⟩) n nc, .int .i64 wd, .int .i64 pc, .int .i64 ps, .int .i64 lm] w (SomeBool True w) := by
  unfold maxLen at hn
  by_cases h1 : n ≤ 1048576
  · go_enter Tryd.func5, Tryd.ntmps5
    go_wp2
    go_loop [13, 14] (fun t i => ∃ (k : Nat) (s : Nat), i = .int .i64 k ∧ k ≤ n ∧ t = .int .i64 s ∧ s ≤ 1048576) (fun _ i => n - (intOf i).toNat)
    case atStart => exact ⟨0, n, rfl, Nat.zero_le _, rfl, h1⟩
    case round =>
      obtain ⟨k, s, rfl, hk, rfl, hsm⟩ := hrel
      by_cases hlt : k < n
      · obtain ⟨c, sz⟩ := hc k hlt
        unfold maxLen at sz
        clear hc
        by_cases h2 : L k ≤ 1048576
        · by_cases h3 : s + L k ≤ 1048576
          · go_wp2
            go_round
            case rel => exact ⟨k + 1, s + L k, by go_num, by omega, by go_num, h3⟩
            case measure => simp [intOf]; omega
          · go_wp2
            go_ret
            exact someBool _
        · go_wp2
          go_ret
          exact someBool _
      · clear hc
        go_wp2
        go_ret
        exact someTrue _ trivial
  · go_enter Tryd.func5, Tryd.ntmps5
    go_wp2
    go_ret
    exact someBool _
theorem zzBytes5_zero (ao : Option Addr) (nc : Nat) (fr wd pc ps lm : Int) (w : World) :
    Calls Tryd.prog 5 #[.int .i64 fr, .slice ao 0 nc, .int .i64 wd, .int .i64 pc, .int .i64 ps, .int .i64 lm] w (SomeBool True w) := by
  go_enter Tryd.func5, Tryd.ntmps5
  go_wp2
  go_loop [13, 14] (fun t i => t = .int .i64 0 ∧ i = .int .i64 0) (fun _ _ => 0)
  case atStart => exact ⟨rfl, rfl⟩
  case round =>
    obtain ⟨rfl, rfl⟩ := hrel
    go_wp2
    go_ret
    exact someTrue _ trivial

set_option maxHeartbeats 1000000 in
theorem zzBytes10_pos (b off n nc : Nat) (A : Nat → Option Addr) (L C : Nat → Nat) (fr wd pc ps lm : Int) (w : World) (hn : n ≤ maxLen) (hc : Rws w b off n A L C) :
    Calls Tryd.prog 10 #[.int .i64 fr, .slice (some ⟨b, off, none⟩) n nc, .int .i64 wd, .int .i64 pc, .int .i64 ps, .int .i64 lm] w (SomeBool True w) := by
  unfold maxLen at hn
  by_cases h1 : n ≤ 1048576
  · go_enter Tryd.func10, Tryd.ntmps10
    go_wp2
    go_loop [13, 14] (fun t i => ∃ (k : Nat) (s : Nat), i = .int .i64 k ∧ k ≤ n ∧ t = .int .i64 s ∧ s ≤ 1048576) (fun _ i => n - (intOf i).toNat)
    case atStart => exact ⟨0, n, rfl, Nat.zero_le _, rfl, h1⟩
    case round =>
      obtain ⟨k, s, rfl, hk, rfl, hsm⟩ := hrel
      by_cases hlt : k < n
      · obtain ⟨c, sz⟩ := hc k hlt
        unfold maxLen at sz
        clear hc
        by_cases h2 : L k ≤ 1048576
        · by_cases h3 : s + L k ≤ 1048576
          · go_wp2
            go_round
            case rel => exact ⟨k + 1, s + L k, by go_num, by omega, by go_num, h3⟩
            case measure => simp [intOf]; omega
          · go_wp2
            go_ret
            exact someBool _
        · go_wp2
          go_ret
          exact someBool _
      · clear hc
        go_wp2
        go_ret
        exact someTrue _ trivial
  · go_enter Tryd.func10, Tryd.ntmps10
    go_wp2
    go_ret
    exact someBool _
theorem zzBytes10_zero (ao : Option Addr) (nc : Nat) (fr wd pc ps lm : Int) (w : World) :
    Calls Tryd.prog 10 #[.int .i64 fr, .slice ao 0 nc, .int .i64 wd, .int .i64 pc, .int .i64 ps, .int .i64 lm] w (SomeBool True w) := by
  go_enter Tryd.func10, Tryd.ntmps10
  go_wp2
  go_loop [13, 14] (fun t i => t = .int .i64 0 ∧ i = .int .i64 0) (fun _ _ => 0)
  case atStart => exact ⟨rfl, rfl⟩
  case round =>
    obtain ⟨rfl, rfl⟩ := hrel
    go_wp2
    go_ret
    exact someTrue _ trivial

/-- What marksFit says of its arguments. -/
def Fit (n : Nat) (L : Nat → Nat) (fr pc ps lm : Int) : Prop := (-536870912 ≤ fr ∧ fr ≤ 536870912) ∧ (-536870912 ≤ ps ∧ ps ≤ 536870912) ∧ (-536870912 ≤ lm ∧ lm ≤ 536870912) ∧ (0 ≤ pc ∧ pc < n) ∧ fr ≤ ps ∧ ∀ i, i < n → L i ≤ 131072
set_option maxHeartbeats 1000000 in
theorem fit_pos (b off n nc : Nat) (A : Nat → Option Addr) (L C : Nat → Nat) (fr pc ps lm : Int) (w : World) (hn : n ≤ 131072) (hc : Rws w b off n A L C) :
    Calls Tryd.prog 6 #[.int .i64 fr, .slice (some ⟨b, off, none⟩) n nc, .int .i64 pc, .int .i64 ps, .int .i64 lm] w (SomeBool (Fit n L fr pc ps lm) w) := by
  go_enter Tryd.func6, Tryd.ntmps6
  go_wp2
  go_loop [11, 12] (fun t i => ∃ (k : Nat) (s : Nat), i = .int .i64 k ∧ k ≤ n ∧ t = .int .i64 s ∧ s ≤ 1048576 ∧ ∀ x, x < k → L x ≤ 131072) (fun _ i => n - (intOf i).toNat)
  case atStart => exact ⟨0, 0, rfl, Nat.zero_le _, rfl, by omega, fun x h => absurd h (Nat.not_lt_zero _)⟩
  case round =>
    obtain ⟨k, s, rfl, hk, rfl, hsm, hall⟩ := hrel
    by_cases hlt : k < n
    · obtain ⟨c, sz⟩ := hc k hlt
      unfold maxLen at sz
      clear hc
      by_cases h2 : L k ≤ 131072
      · by_cases h3 : s + (8 + 8 * L k) ≤ 1048576
        · go_wp2
          go_round
          case rel => exact ⟨k + 1, s + (8 + 8 * L k), by go_num, by omega, by go_num, h3, all_succ hall h2⟩
          case measure => simp [intOf]; omega
        · go_wp2
          go_ret
          exact someBool _
      · go_wp2
        go_ret
        exact someBool _
    · obtain rfl : k = n := by omega
      have HA : Hid (∀ x, x < k → L x ≤ 131072) := hall
      clear hc hall
      by_cases g1 : fr < -536870912
      · go_wp2
        go_ret
        exact someBool _
      by_cases g2 : 536870912 < fr
      · go_wp2
        go_ret
        exact someBool _
      by_cases g3 : ps < -536870912
      · go_wp2
        go_ret
        exact someBool _
      by_cases g4 : 536870912 < ps
      · go_wp2
        go_ret
        exact someBool _
      by_cases g5 : lm < -536870912
      · go_wp2
        go_ret
        exact someBool _
      by_cases g6 : 536870912 < lm
      · go_wp2
        go_ret
        exact someBool _
      by_cases g7 : pc < 0
      · go_wp2
        go_ret
        exact someBool _
      by_cases g8 : (k : Int) ≤ pc
      · go_wp2
        go_ret
        exact someBool _
      by_cases g9 : fr ≤ ps
      · have HF : Hid (Fit k L fr pc ps lm) := ⟨⟨by omega, by omega⟩, ⟨by omega, by omega⟩, ⟨by omega, by omega⟩, ⟨by omega, by omega⟩, g9, HA.out⟩
        go_wp2
        go_ret
        exact ⟨true, by simp, rfl, fun _ => HF.out⟩
      · go_wp2
        go_ret
        exact ⟨false, by simp, rfl, fun h => absurd h (by decide)⟩
theorem fit_zero (ao : Option Addr) (nc : Nat) (fr pc ps lm : Int) (p : Prop) (w : World) :
    Calls Tryd.prog 6 #[.int .i64 fr, .slice ao 0 nc, .int .i64 pc, .int .i64 ps, .int .i64 lm] w (SomeBool p w) := by
  go_enter Tryd.func6, Tryd.ntmps6
  go_wp2
  go_loop [11, 12] (fun t i => t = .int .i64 0 ∧ i = .int .i64 0) (fun _ _ => 0)
  case atStart => exact ⟨rfl, rfl⟩
  case round =>
    obtain ⟨rfl, rfl⟩ := hrel
    by_cases g1 : fr < -536870912
    · go_wp2
      go_ret
      exact someBool _
    by_cases g2 : 536870912 < fr
    · go_wp2
      go_ret
      exact someBool _
    by_cases g3 : ps < -536870912
    · go_wp2
      go_ret
      exact someBool _
    by_cases g4 : 536870912 < ps
    · go_wp2
      go_ret
      exact someBool _
    by_cases g5 : lm < -536870912
    · go_wp2
      go_ret
      exact someBool _
    by_cases g6 : 536870912 < lm
    · go_wp2
      go_ret
      exact someBool _
    by_cases g7 : pc < 0
    · go_wp2
      go_ret
      exact someBool _
    · go_wp2
      go_ret
      exact someBool _

end Go.Proofs.Qxb6609005aDoor
