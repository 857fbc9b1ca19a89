import Derived.Test.Qxb6609005aDoorFit
import Derived.WalkKit
import Derived.ProofKit
import Derived.WalkSpells
import Derived.WalkSmall
namespace Go.Proofs.Qxb6609005aDoor
open Go.RowKit Go.Kx
theorem IsNext.unique {z : Nat → Nat} {L : Nat} {fr ps lm r s : Int} (h : IsNext z L fr ps lm r) (k : IsNext z L fr ps lm s) : r = s := by
  rcases h with ⟨rfl, h⟩ | ⟨j, hj, rfl, h1, h2, h3, h4⟩
  · rcases k with ⟨rfl, k⟩ | ⟨i, hi, rfl, k1, k2, k3, k4⟩
    · rfl
    · rw [h i hi k1 k2] at k3; cases k3
  · rcases k with ⟨rfl, k⟩ | ⟨i, hi, rfl, k1, k2, k3, k4⟩
    · rw [k j hj h1 h2] at h3; cases h3
    · rcases Nat.lt_trichotomy j i with hlt | rfl | hlt
      · rw [k4 j hlt h1] at h3; cases h3
      · rfl
      · rw [h4 i hlt k1] at k3; cases k3
theorem Sl.below {w w' : World} {ao : Option Addr} {n : Nat} {f : Nat → Value} (h : Sl w ao n f) (hb : Below w.heap.size w w') : Sl w' ao n f := fun i hi => by
  obtain ⟨b, off, e, hc⟩ := h i hi
  exact ⟨b, off, e, (hb.cell (p := ⟨b, off + i, none⟩) (cell_lt hc)).trans hc⟩
theorem Tab.below {w w' : World} (h : Tab w) (hb : Below w.heap.size w w') : Tab w' := fun j hj =>
  (hb.cell (p := ⟨0, j, none⟩) (cell_lt (h j hj))).trans (h j hj)
/-- Calls of next on the marks that the law has just made. -/
theorem tail_next (b off n nc : Nat) (ro : Option Addr) (L C : Nat) (z : Nat → Nat) (fr ps lm wd : Int) (pc I : Nat) (w w1 : World) (hpi : ps - fr = (I : Int)) (h1 : -536870912 ≤ fr) (h2 : fr ≤ 536870912) (h3 : ps ≤ 546870912) (h4 : -536870912 ≤ lm) (h5 : lm ≤ 536870912) (hL : L ≤ 131072)
    (hpc : pc < n) (c2 : w.cell? ⟨b, off + pc, none⟩ = some (.slice ro L C)) (hz : ∀ i, i < L → z i < 18446744073709551616) (hc : Sl w ro L (fun i => .int .u64 (z i))) (hT : Tab w)
    (k1 : Nat) (hw : w1 = (w.alloc (.cells #[.int .i64 fr, .slice (some ⟨b, off, none⟩) n nc, .int .i64 wd] 33)).drewN k1) :
    Calls Tryd.prog 9 #[.pointer (some ⟨w.heap.size, 0, none⟩), .int .i64 pc, .int .i64 ps, .int .i64 lm] w1 (NextPost z L fr ps lm w1) := by
  subst hw
  have hb : Below w.heap.size w ((w.alloc (.cells #[.int .i64 fr, .slice (some ⟨b, off, none⟩) n nc, .int .i64 wd] 33)).drewN k1) := below_drewN (below_alloc _ _) _
  exact znext_any w.heap.size b off L C ro n nc z fr ps lm pc I _ hpi h1 h2 h3 h4 h5 hL (by simp) (by simp) hpc ((hb.cell (p := ⟨b, off + pc, none⟩) (cell_lt c2)).trans c2) hz (hc.below hb) (hT.below hb)
/-- The law's end: true, and nothing old has turned. -/
def Done (w : World) (e : Ending) (w' : World) : Prop := e = .returned (.bool true) ∧ Below w.heap.size w w'
theorem done {w w' : World} (h : Below w.heap.size w w') : Done w (.returned (.bool true)) w' := ⟨rfl, h⟩
set_option maxRecDepth 100000 in
set_option maxHeartbeats 2000000 in
theorem law3_main (b off n nc : Nat) (A : Nat → Option Addr) (L C : Nat → Nat) (z : Nat → Nat → Nat) (fr wd ps lm : Int) (pc : Nat) (w : World) (hn : n ≤ 131072) (hc : Rws w b off n A L C) (hz : ∀ i k, i < n → k < L i → z i k < 18446744073709551616)
    (hs : ∀ i, i < n → Sl w (A i) (L i) (fun k => .int .u64 (z i k))) (hT : Tab w)
    (hzz : Calls Tryd.prog 5 #[.int .i64 fr, .slice (some ⟨b, off, none⟩) n nc, .int .i64 wd, .int .i64 pc, .int .i64 ps, .int .i64 lm] w (SomeBool True w))
    (hft : Calls Tryd.prog 6 #[.int .i64 fr, .slice (some ⟨b, off, none⟩) n nc, .int .i64 pc, .int .i64 ps, .int .i64 lm] w (SomeBool (Fit n L fr pc ps lm) w)) (hF : Fit n L fr pc ps lm) (hpn : pc < n) (rb rf : Nat) (hra : A pc = some ⟨rb, rf, none⟩) :
    Calls Tryd.prog 3 #[.int .i64 fr, .slice (some ⟨b, off, none⟩) n nc, .int .i64 wd, .int .i64 pc, .int .i64 ps, .int .i64 lm] w (Done w) := by
  obtain ⟨⟨f1, f2⟩, ⟨f3, f4⟩, ⟨f5, f6⟩, _, f7, f8⟩ := hF
  obtain ⟨I, hI⟩ := Int.eq_ofNat_of_zero_le (show 0 ≤ ps - fr by omega)
  have hLb := f8 pc hpn
  have c2 := (hc pc hpn).1
  have hzp := fun k (hk : k < L pc) => hz pc k hpn hk
  have hsp := hs pc hpn
  rw [hra] at c2 hsp
  generalize L pc = l at *
  generalize hzg : z pc = zz at *
  clear hzg
  have cz : ∀ k, k < l → w.cell? ⟨rb, rf + k, none⟩ = some (.int .u64 (zz k)) := fun k hk => by
    obtain ⟨b', f', e, h⟩ := hsp k hk
    cases e
    exact h
  have HT := fun (w1 : World) (k1 : Nat) (hw : w1 = (w.alloc (.cells #[.int .i64 fr, .slice (some ⟨b, off, none⟩) n nc, .int .i64 wd] 33)).drewN k1) => tail_next b off n nc (some ⟨rb, rf, none⟩) l (C pc) zz fr ps lm wd pc I w w1 hI f1 f2 (by omega) f5 f6 hLb hpn c2 hzp hsp hT k1 hw
  have HT' : Hid (∀ (w1 : World) (k1 : Nat), w1 = (w.alloc (.cells #[.int .i64 fr, .slice (some ⟨b, off, none⟩) n nc, .int .i64 wd] 33)).drewN k1 → Calls Tryd.prog 9 #[.pointer (some ⟨w.heap.size, 0, none⟩), .int .i64 pc, .int .i64 ps, .int .i64 lm] w1 (NextPost zz l fr ps lm w1)) := HT
  clear HT hT hsp hz hs hc f8
  have hw2 : IntKind.i64.wrap (64 * (l : Int)) = 64 * l := by rw [IntKind.wrap_i64]; omega
  go_enter Tryd.func3, Tryd.ntmps3
  go_wp2_with (first | (go_at_call 5; refine Calls.mono hzz ?_; rintro e w' ⟨r, rfl, rfl, _⟩; cases r) | (go_at_call 6; refine Calls.mono hft ?_; rintro e w' ⟨r, rfl, rfl, _⟩; cases r))
  · go_ret
    exact done (Below.refl _ _)
  · go_ret
    exact done (Below.refl _ _)
  go_loop [14, 15, 16] (fun t i _ => ∃ k : Nat, i = .int .i64 k ∧ k ≤ 64 * l ∧ t = .int .i64 lm ∧ (∀ x : Nat, x < k → fr + x < lm) ∧ ∀ x : Nat, x < k → ps ≤ fr + x → M zz x = false) (fun _ i _ => 64 * l - (intOf i).toNat)
  case atStart => exact ⟨0, rfl, Nat.zero_le _, rfl, fun x h => absurd h (Nat.not_lt_zero _), fun x h => absurd h (Nat.not_lt_zero _)⟩
  case round =>
    obtain ⟨k, rfl, hk, rfl, hlt9, hno⟩ := hrel
    by_cases hkl : k < 64 * l
    · by_cases hlm : fr + (k : Int) < lm
      · by_cases hps : ps ≤ fr + (k : Int)
        · have ck := cz (k / 64) (by omega)
          have zk := hzp (k / 64) (by omega)
          cases hM : M zz k
          · have HLT : Hid (∀ x : Nat, x < k + 1 → fr + x < lm) := all_succ hlt9 (by simpa using hlm)
            have HNO : Hid (∀ x : Nat, x < k + 1 → ps ≤ fr + x → M zz x = false) := all_succ (P := fun x => ps ≤ fr + (x : Int) → M zz x = false) hno (fun _ => hM)
            have hMd : (zz (k / 64)).testBit (k % 64) = false := hM
            have hcm := marked_any rb rf l (C pc) zz k w zk (by omega) hLb ck
            rw [hMd] at hcm
            have HC : Hid _ := hcm
            clear hM hMd hno hlt9 cz hzp hcm
            go_wp2_with (go_at_call 7; refine Calls.mono HC.out ?_; rintro e w' ⟨rfl, rfl⟩)
            go_round
            case rel => exact ⟨k + 1, by go_num, by omega, rfl, HLT.out, HNO.out⟩
            case measure => simp [intOf]; omega
          · have HN : Hid (IsNext zz l fr ps lm (fr + (k : Int))) := Or.inr ⟨k, hkl, rfl, hps, hlm, hM, hno⟩
            have hMd : (zz (k / 64)).testBit (k % 64) = true := hM
            have hcm := marked_any rb rf l (C pc) zz k w zk (by omega) hLb ck
            rw [hMd] at hcm
            have HC : Hid _ := hcm
            clear hM hMd hno hlt9 cz hzp hcm
            go_wp2_with (first | (go_at_call 7; refine Calls.mono HC.out ?_; rintro e w' ⟨rfl, rfl⟩) | (go_at_call 8; refine (new_any _ _ _ _ _ _).mono ?_; rintro e w' ⟨rfl, rfl⟩))
            refine Calls.mono (HT'.out _ 0 rfl) ?_
            rintro e w2 ⟨r, rfl, hr, k2, rfl⟩
            have hrr := hr.unique HN.out
            subst hrr
            go_wp2
            go_ret
            exact done (below_drewN (below_alloc _ _) _)
        · have HLT : Hid (∀ x : Nat, x < k + 1 → fr + x < lm) := all_succ hlt9 (by simpa using hlm)
          have HNO : Hid (∀ x : Nat, x < k + 1 → ps ≤ fr + x → M zz x = false) := all_succ (P := fun x => ps ≤ fr + (x : Int) → M zz x = false) hno (fun h => absurd h hps)
          clear hno hlt9 cz hzp
          go_wp2
          go_round
          case rel => exact ⟨k + 1, by go_num, by omega, rfl, HLT.out, HNO.out⟩
          case measure => simp [intOf]; omega
      · have HN : Hid (IsNext zz l fr ps lm lm) := Or.inl ⟨rfl, fun j hj h1 h2 => hno j (by omega) h1⟩
        clear hno hlt9 cz hzp
        go_wp2_with (first | (go_at_call 8; refine (new_any _ _ _ _ _ _).mono ?_; rintro e w' ⟨rfl, rfl⟩) | fail)
        refine Calls.mono (HT'.out _ 0 rfl) ?_
        rintro e w2 ⟨r, rfl, hr, k2, rfl⟩
        have hrr := hr.unique HN.out
        subst hrr
        go_wp2
        go_ret
        exact done (below_drewN (below_alloc _ _) _)
    · have HN : Hid (IsNext zz l fr ps lm lm) := Or.inl ⟨rfl, fun j hj h1 h2 => hno j (by omega) h1⟩
      clear hno hlt9 cz hzp
      go_wp2_with (first | (go_at_call 8; refine (new_any _ _ _ _ _ _).mono ?_; rintro e w' ⟨rfl, rfl⟩) | fail)
      refine Calls.mono (HT'.out _ 0 rfl) ?_
      rintro e w2 ⟨r, rfl, hr, k2, rfl⟩
      have hrr := hr.unique HN.out
      subst hrr
      go_wp2
      go_ret
      exact done (below_drewN (below_alloc _ _) _)

set_option maxRecDepth 100000 in
set_option maxHeartbeats 2000000 in
theorem law3_nofit {p : Prop} (ao : Option Addr) (n nc : Nat) (fr wd ps lm pc : Int) (w : World) (bn : n ≤ maxLen)
    (hzz : Calls Tryd.prog 5 #[.int .i64 fr, .slice ao n nc, .int .i64 wd, .int .i64 pc, .int .i64 ps, .int .i64 lm] w (SomeBool True w))
    (hft : n ≤ 131072 → Calls Tryd.prog 6 #[.int .i64 fr, .slice ao n nc, .int .i64 pc, .int .i64 ps, .int .i64 lm] w (SomeBool p w)) (hp : ¬ p) :
    Calls Tryd.prog 3 #[.int .i64 fr, .slice ao n nc, .int .i64 wd, .int .i64 pc, .int .i64 ps, .int .i64 lm] w (Done w) := by
  unfold maxLen at bn
  by_cases hn : n ≤ 131072
  · have HF : Hid _ := hft hn
    clear hft
    go_enter Tryd.func3, Tryd.ntmps3
    go_wp2_with (first | (go_at_call 5; refine Calls.mono hzz ?_; rintro e w' ⟨r, rfl, rfl, _⟩; cases r) | (go_at_call 6; refine Calls.mono HF.out ?_; rintro e w' ⟨r, rfl, rfl, hr⟩; obtain rfl : r = false := (by cases r; rfl; exact absurd (hr rfl) hp)))
    all_goals go_ret
    all_goals exact done (Below.refl _ _)
  · clear hft
    go_enter Tryd.func3, Tryd.ntmps3
    go_wp2_with (go_at_call 5; refine Calls.mono hzz ?_; rintro e w' ⟨r, rfl, rfl, _⟩; cases r)
    all_goals go_ret
    all_goals exact done (Below.refl _ _)

set_option maxRecDepth 100000 in
set_option maxHeartbeats 2000000 in
theorem law3_zero (b off n nc : Nat) (ro : Option Addr) (rc : Nat) (fr wd ps lm : Int) (pc : Nat) (w : World) (hn : n ≤ 131072) (c2 : w.cell? ⟨b, off + pc, none⟩ = some (.slice ro 0 rc)) (hT : Tab w) (L : Nat → Nat)
    (hzz : Calls Tryd.prog 5 #[.int .i64 fr, .slice (some ⟨b, off, none⟩) n nc, .int .i64 wd, .int .i64 pc, .int .i64 ps, .int .i64 lm] w (SomeBool True w))
    (hft : Calls Tryd.prog 6 #[.int .i64 fr, .slice (some ⟨b, off, none⟩) n nc, .int .i64 pc, .int .i64 ps, .int .i64 lm] w (SomeBool (Fit n L fr pc ps lm) w)) (hF : Fit n L fr pc ps lm) (hpn : pc < n) :
    Calls Tryd.prog 3 #[.int .i64 fr, .slice (some ⟨b, off, none⟩) n nc, .int .i64 wd, .int .i64 pc, .int .i64 ps, .int .i64 lm] w (Done w) := by
  obtain ⟨⟨f1, f2⟩, ⟨f3, f4⟩, ⟨f5, f6⟩, _, f7, f8⟩ := hF
  obtain ⟨I, hI⟩ := Int.eq_ofNat_of_zero_le (show 0 ≤ ps - fr by omega)
  have HT := fun (w1 : World) (k1 : Nat) (hw : w1 = (w.alloc (.cells #[.int .i64 fr, .slice (some ⟨b, off, none⟩) n nc, .int .i64 wd] 33)).drewN k1) => tail_next b off n nc ro 0 rc (fun _ => 0) fr ps lm wd pc I w w1 hI f1 f2 (by omega) f5 f6 (by omega) hpn c2 (fun _ h => absurd h (Nat.not_lt_zero _)) (fun _ h => absurd h (Nat.not_lt_zero _)) hT k1 hw
  have HT' : Hid (∀ (w1 : World) (k1 : Nat), w1 = (w.alloc (.cells #[.int .i64 fr, .slice (some ⟨b, off, none⟩) n nc, .int .i64 wd] 33)).drewN k1 → Calls Tryd.prog 9 #[.pointer (some ⟨w.heap.size, 0, none⟩), .int .i64 pc, .int .i64 ps, .int .i64 lm] w1 (NextPost (fun _ => 0) 0 fr ps lm w1)) := HT
  have HN : Hid (IsNext (fun _ => 0) 0 fr ps lm lm) := Or.inl ⟨rfl, fun j hj => absurd hj (by omega)⟩
  clear HT hT f8
  go_enter Tryd.func3, Tryd.ntmps3
  go_wp2_with (first | (go_at_call 5; refine Calls.mono hzz ?_; rintro e w' ⟨r, rfl, rfl, _⟩; cases r) | (go_at_call 6; refine Calls.mono hft ?_; rintro e w' ⟨r, rfl, rfl, _⟩; cases r))
  · go_ret
    exact done (Below.refl _ _)
  · go_ret
    exact done (Below.refl _ _)
  go_loop [14, 15, 16] (fun t i _ => i = .int .i64 0 ∧ t = .int .i64 lm) (fun _ _ _ => 0)
  case atStart => exact ⟨rfl, rfl⟩
  case round =>
    obtain ⟨rfl, rfl⟩ := hrel
    go_wp2_with (first | (go_at_call 8; refine (new_any _ _ _ _ _ _).mono ?_; rintro e w' ⟨rfl, rfl⟩) | fail)
    refine Calls.mono (HT'.out _ 0 rfl) ?_
    rintro e w2 ⟨r, rfl, hr, k2, rfl⟩
    have hrr := hr.unique HN.out
    subst hrr
    go_wp2
    go_ret
    exact done (below_drewN (below_alloc _ _) _)

end Go.Proofs.Qxb6609005aDoor
