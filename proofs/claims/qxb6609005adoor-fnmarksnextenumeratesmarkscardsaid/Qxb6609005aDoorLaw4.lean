import Derived.Test.Qxb6609005aDoorLaw3
import Derived.WalkKit
import Derived.ProofKit

import Derived.WalkSpells
import Derived.WalkSmall
namespace Go.Proofs.Qxb6609005aDoor
open Go.RowKit Go.Kx
/-- How many of the first k numbers are wanted. -/
def cnt (q : Nat → Bool) : Nat → Nat
  | 0 => 0
  | k + 1 => cnt q k + if q k then 1 else 0
theorem cnt_le (q : Nat → Bool) : ∀ k, cnt q k ≤ k
  | 0 => Nat.le_refl _
  | k + 1 => by
    have := cnt_le q k
    unfold cnt
    split <;> omega
theorem cnt_yes {q : Nat → Bool} {k : Nat} (h : q k = true) : cnt q (k + 1) = cnt q k + 1 := by simp [cnt, h]
theorem cnt_no {q : Nat → Bool} {k : Nat} (h : q k = false) : cnt q (k + 1) = cnt q k := by simp [cnt, h]
theorem cnt_flat {q : Nat → Bool} (a : Nat) : ∀ b, a ≤ b → (∀ j, a ≤ j → j < b → q j = false) → cnt q b = cnt q a
  | 0, h, _ => by obtain rfl : a = 0 := by omega
                  rfl
  | b + 1, h, hq => by
    by_cases e : a = b + 1
    · rw [e]
    · rw [cnt_no (hq b (by omega) (by omega)), cnt_flat a b (by omega) (fun j h1 h2 => hq j h1 (by omega))]
theorem cnt_mono {q : Nat → Bool} (a : Nat) : ∀ b, a ≤ b → cnt q a ≤ cnt q b
  | 0, h => by obtain rfl : a = 0 := by omega
               exact Nat.le_refl _
  | b + 1, h => by
    by_cases e : a = b + 1
    · rw [e]; exact Nat.le_refl _
    · have := cnt_mono a b (by omega) (q := q)
      show _ ≤ cnt q b + _
      omega
/-- The marked positions from ps on, before lm. -/
def Q (zz : Nat → Nat) (fr ps lm : Int) (j : Nat) : Bool := decide (ps ≤ fr + j) && (decide (fr + j < lm) && M zz j)
theorem Q_yes {zz : Nat → Nat} {fr ps lm : Int} {j : Nat} (h1 : ps ≤ fr + j) (h2 : fr + j < lm) (h3 : M zz j = true) : Q zz fr ps lm j = true := by simp [Q, h1, h2, h3]
theorem Q_no1 {zz : Nat → Nat} {fr ps lm : Int} {j : Nat} (h1 : ¬ ps ≤ fr + j) : Q zz fr ps lm j = false := by simp [Q, h1]
theorem Q_no2 {zz : Nat → Nat} {fr ps lm : Int} {j : Nat} (h2 : ¬ fr + j < lm) : Q zz fr ps lm j = false := by simp [Q, h2]
theorem Q_no3 {zz : Nat → Nat} {fr ps lm : Int} {j : Nat} (h3 : M zz j = false) : Q zz fr ps lm j = false := by simp [Q, h3]
/-- The state of the enumeration: next is asked from index c on; got marks have been met. -/
structure St (zz : Nat → Nat) (l : Nat) (fr ps lm : Int) (I c got : Nat) (p prev : Int) : Prop where
  hc : I ≤ c
  hn : IsNext zz l fr (fr + c) lm p
  hg : got = cnt (Q zz fr ps lm) (min c (64 * l))
  hp : prev = fr + c - 1
theorem St.start {zz : Nat → Nat} {l : Nat} {fr ps lm p : Int} {I : Nat} (hI : ps - fr = (I : Int)) (h : IsNext zz l fr ps lm p) : St zz l fr ps lm I I 0 p (ps - 1) := by
  refine ⟨Nat.le_refl _, ?_, ?_, by omega⟩
  · rw [show fr + (I : Int) = ps by omega]; exact h
  · rw [cnt_flat 0 (min I (64 * l)) (Nat.zero_le _) (fun j _ h2 => Q_no1 (by omega))]; rfl
theorem St.last {zz : Nat → Nat} {l : Nat} {fr ps lm p prev : Int} {I c got : Nat} (h : St zz l fr ps lm I c got p prev) (_hI : ps - fr = (I : Int)) (hp : p = lm) : got = cnt (Q zz fr ps lm) (64 * l) := by
  rcases h.hn with ⟨_, hno⟩ | ⟨j, hj, e, h1, h2, h3, h4⟩
  · rw [h.hg]
    symm
    refine cnt_flat _ _ (Nat.min_le_right _ _) (fun j h1 h2 => ?_)
    by_cases g : fr + (j : Int) < lm
    · exact Q_no3 (hno j h2 (by omega) g)
    · exact Q_no2 g
  · omega
theorem St.more {zz : Nat → Nat} {l : Nat} {fr ps lm p prev : Int} {I c got : Nat} (h : St zz l fr ps lm I c got p prev) (hI : ps - fr = (I : Int)) (hp : p ≠ lm) :
    ∃ j : Nat, j < 64 * l ∧ p - fr = (j : Int) ∧ prev < p ∧ p < lm ∧ M zz j = true ∧ got + 1 ≤ 64 * l ∧ ∀ p', IsNext zz l fr (p + 1) lm p' → St zz l fr ps lm I (j + 1) (got + 1) p' p := by
  rcases h.hn with ⟨e, _⟩ | ⟨j, hj, e, h1, h2, h3, h4⟩
  · exact absurd e hp
  · have hc := h.hc
    have hg := h.hg
    have hpv := h.hp
    have hcj : cnt (Q zz fr ps lm) (j + 1) = got + 1 := by
      rw [cnt_yes (Q_yes (by omega) h2 h3), hg]
      congr 1
      rw [Nat.min_eq_left (by omega)]
      exact cnt_flat _ _ (by omega) (fun i g1 g2 => Q_no3 (h4 i g2 (by omega)))
    refine ⟨j, hj, by omega, by omega, by omega, h3, ?_, fun p' hp' => ⟨by omega, ?_, ?_, by omega⟩⟩
    · rw [← hcj]
      have := cnt_le (Q zz fr ps lm) (j + 1)
      omega
    · rw [show fr + ((j + 1 : Nat) : Int) = p + 1 by omega]; exact hp'
    · rw [Nat.min_eq_left (by omega), hcj]
theorem St.bound {zz : Nat → Nat} {l : Nat} {fr ps lm p prev : Int} {I c got : Nat} (h : St zz l fr ps lm I c got p prev) : got ≤ 64 * l := by
  rw [h.hg]; exact Nat.le_trans (cnt_le _ _) (Nat.min_le_right _ _)

set_option maxRecDepth 100000 in
set_option maxHeartbeats 2000000 in
theorem law4_nofit {p : Prop} (ao : Option Addr) (n nc : Nat) (fr wd ps lm pc : Int) (w : World) (bn : n ≤ maxLen)
    (hzz : Calls Tryd.prog 10 #[.int .i64 fr, .slice ao n nc, .int .i64 wd, .int .i64 pc, .int .i64 ps, .int .i64 lm] w (SomeBool True w))
    (hft : n ≤ 131072 → Calls Tryd.prog 6 #[.int .i64 fr, .slice ao n nc, .int .i64 pc, .int .i64 ps, .int .i64 lm] w (SomeBool p w)) (hp : ¬ p) :
    Calls Tryd.prog 4 #[.int .i64 fr, .slice ao n nc, .int .i64 wd, .int .i64 pc, .int .i64 ps, .int .i64 lm] w (Done w) := by
  unfold maxLen at bn
  by_cases hn : n ≤ 131072
  · have HF : Hid _ := hft hn
    clear hft
    go_enter Tryd.func4, Tryd.ntmps4
    go_wp2_with (first | (go_at_call 10; refine Calls.mono hzz ?_; rintro e w' ⟨r, rfl, rfl, _⟩; cases r) | (go_at_call 6; refine Calls.mono HF.out ?_; rintro e w' ⟨r, rfl, rfl, hr⟩; obtain rfl : r = false := (by cases r; rfl; exact absurd (hr rfl) hp)))
    all_goals go_ret
    all_goals exact done (Below.refl _ _)
  · clear hft
    go_enter Tryd.func4, Tryd.ntmps4
    go_wp2_with (go_at_call 10; refine Calls.mono hzz ?_; rintro e w' ⟨r, rfl, rfl, _⟩; cases r)
    all_goals go_ret
    all_goals exact done (Below.refl _ _)

set_option maxRecDepth 100000 in
set_option maxHeartbeats 4000000 in
theorem law4_main (b off n nc : Nat) (A : Nat → Option Addr) (L C : Nat → Nat) (z : Nat → Nat → Nat) (fr wd ps lm : Int) (pc : Nat) (w : World) (hn : n ≤ 131072) (hc : Rws w b off n A L C) (hz : ∀ i k, i < n → k < L i → z i k < 18446744073709551616)
    (hs : ∀ i, i < n → Sl w (A i) (L i) (fun k => .int .u64 (z i k))) (hT : Tab w)
    (hzz : Calls Tryd.prog 10 #[.int .i64 fr, .slice (some ⟨b, off, none⟩) n nc, .int .i64 wd, .int .i64 pc, .int .i64 ps, .int .i64 lm] w (SomeBool True w))
    (hft : Calls Tryd.prog 6 #[.int .i64 fr, .slice (some ⟨b, off, none⟩) n nc, .int .i64 pc, .int .i64 ps, .int .i64 lm] w (SomeBool (Fit n L fr pc ps lm) w)) (hF : Fit n L fr pc ps lm) (hpn : pc < n) (rb rf : Nat) (hra : A pc = some ⟨rb, rf, none⟩) :
    Calls Tryd.prog 4 #[.int .i64 fr, .slice (some ⟨b, off, none⟩) n nc, .int .i64 wd, .int .i64 pc, .int .i64 ps, .int .i64 lm] w (Done w) := by
  obtain ⟨⟨f1, f2⟩, ⟨f3, f4⟩, ⟨f5, f6⟩, _, f7, f8⟩ := hF
  obtain ⟨I, hI⟩ := Int.eq_ofNat_of_zero_le (show 0 ≤ ps - fr by omega)
  have hLb := f8 pc hpn
  have c2 := (hc pc hpn).1
  have hzp := fun k (hk : k < L pc) => hz pc k hpn hk
  have hsp := hs pc hpn
  rw [hra] at c2 hsp
  generalize L pc = l at *
  generalize hzg : z pc = zz at *
  clear hzg
  have cz : ∀ k, k < l → w.cell? ⟨rb, rf + k, none⟩ = some (.int .u64 (zz k)) := fun k hk => by
    obtain ⟨b', f', e, h⟩ := hsp k hk
    cases e
    exact h
  have HT := fun (q : Int) (K : Nat) (hq : q - fr = (K : Int)) (hq2 : q ≤ 546870912) (w1 : World) (k1 : Nat) (hw : w1 = (w.alloc (.cells #[.int .i64 fr, .slice (some ⟨b, off, none⟩) n nc, .int .i64 wd] 33)).drewN k1) => tail_next b off n nc (some ⟨rb, rf, none⟩) l (C pc) zz fr q lm wd pc K w w1 hq f1 f2 hq2 f5 f6 hLb hpn c2 hzp hsp hT k1 hw
  have HT' : Hid (∀ (q : Int) (K : Nat), q - fr = (K : Int) → q ≤ 546870912 → ∀ (w1 : World) (k1 : Nat), w1 = (w.alloc (.cells #[.int .i64 fr, .slice (some ⟨b, off, none⟩) n nc, .int .i64 wd] 33)).drewN k1 → Calls Tryd.prog 9 #[.pointer (some ⟨w.heap.size, 0, none⟩), .int .i64 pc, .int .i64 q, .int .i64 lm] w1 (NextPost zz l fr q lm w1)) := HT
  have HII : Hid (ps - fr = (I : Int)) := hI
  have hI1 : fr + (I : Int) ≤ ps := by omega
  clear HT hT hsp hz hs hc f8 hI
  go_enter Tryd.func4, Tryd.ntmps4
  go_wp2_with (first | (go_at_call 10; refine Calls.mono hzz ?_; rintro e w' ⟨r, rfl, rfl, _⟩; cases r) | (go_at_call 6; refine Calls.mono hft ?_; rintro e w' ⟨r, rfl, rfl, _⟩; cases r))
  · go_ret
    exact done (Below.refl _ _)
  · go_ret
    exact done (Below.refl _ _)
  go_loop [15, 16, 17] (fun t i _ => ∃ k : Nat, i = .int .i64 k ∧ k ≤ 64 * l ∧ t = .int .i64 (cnt (Q zz fr ps lm) k : Nat)) (fun _ i _ => 64 * l - (intOf i).toNat)
  case atStart => exact ⟨0, rfl, Nat.zero_le _, rfl⟩
  case round =>
    obtain ⟨k, rfl, hk, rfl⟩ := hrel
    have hcl := cnt_le (Q zz fr ps lm) k
    by_cases hkl : k < 64 * l
    · by_cases hps : ps ≤ fr + (k : Int)
      · by_cases hlm : fr + (k : Int) < lm
        · have ck := cz (k / 64) (by omega)
          have zk := hzp (k / 64) (by omega)
          cases hM : M zz k
          · have HQ : Hid (cnt (Q zz fr ps lm) (k + 1) = cnt (Q zz fr ps lm) k) := cnt_no (Q_no3 hM)
            have hMd : (zz (k / 64)).testBit (k % 64) = false := hM
            have hcm := marked_any rb rf l (C pc) zz k w zk (by omega) hLb ck
            rw [hMd] at hcm
            have HC : Hid _ := hcm
            clear hM hMd cz hzp hcm
            generalize cnt (Q zz fr ps lm) k = u at *
            go_wp2_with (go_at_call 7; refine Calls.mono HC.out ?_; rintro e w' ⟨rfl, rfl⟩)
            go_round
            case rel => exact ⟨k + 1, by go_num, by omega, by rw [HQ.out]⟩
            case measure => simp [intOf]; omega
          · have HQ : Hid (cnt (Q zz fr ps lm) (k + 1) = cnt (Q zz fr ps lm) k + 1) := cnt_yes (Q_yes hps hlm hM)
            have hMd : (zz (k / 64)).testBit (k % 64) = true := hM
            have hcm := marked_any rb rf l (C pc) zz k w zk (by omega) hLb ck
            rw [hMd] at hcm
            have HC : Hid _ := hcm
            clear hM hMd cz hzp hcm
            generalize cnt (Q zz fr ps lm) k = u at *
            go_wp2_with (go_at_call 7; refine Calls.mono HC.out ?_; rintro e w' ⟨rfl, rfl⟩)
            go_round
            case rel => exact ⟨k + 1, by go_num, by omega, by rw [HQ.out]; go_num⟩
            case measure => simp [intOf]; omega
        · have HQ : Hid (cnt (Q zz fr ps lm) (k + 1) = cnt (Q zz fr ps lm) k) := cnt_no (Q_no2 hlm)
          clear cz hzp
          generalize cnt (Q zz fr ps lm) k = u at *
          go_wp2
          go_round
          case rel => exact ⟨k + 1, by go_num, by omega, by rw [HQ.out]⟩
          case measure => simp [intOf]; omega
      · have HQ : Hid (cnt (Q zz fr ps lm) (k + 1) = cnt (Q zz fr ps lm) k) := cnt_no (Q_no1 hps)
        clear cz hzp
        generalize cnt (Q zz fr ps lm) k = u at *
        go_wp2
        go_round
        case rel => exact ⟨k + 1, by go_num, by omega, by rw [HQ.out]⟩
        case measure => simp [intOf]; omega
    · obtain rfl : k = 64 * l := by omega
      have HW : Hid (∀ g : Nat, g = cnt (Q zz fr ps lm) (64 * l) → ((g : Int) == ((cnt (Q zz fr ps lm) (64 * l) : Nat) : Int)) = true) := fun g hg => by rw [hg]; exact beq_self_eq_true _
      generalize hwant : cnt (Q zz fr ps lm) (64 * l) = want at *
      have HWant : Hid (cnt (Q zz fr ps lm) (64 * l) = want) := hwant
      clear hwant
      go_wp2_with (first | (go_at_call 8; refine (new_any _ _ _ _ _ _).mono ?_; rintro e w' ⟨rfl, rfl⟩) | fail)
      refine Calls.mono (HT'.out ps I HII.out (by omega) _ 0 rfl) ?_
      rintro e w2 ⟨p0, rfl, hp0, k2, rfl⟩
      have HS : Hid (St zz l fr ps lm I I 0 p0 (ps - 1)) := St.start HII.out hp0
      clear hp0
      go_wp2
      go_loopw [19, 20, 21, 22] (fun g pv p st wr => ∃ (got c : Nat) (p' pv' : Int) (kk : Nat), g = .int .i64 got ∧ pv = .int .i64 pv' ∧ p = .int .i64 p' ∧ st = .int .i64 got ∧ St zz l fr ps lm I c got p' pv' ∧ wr = (w.alloc (.cells #[.int .i64 fr, .slice (some ⟨b, off, none⟩) n nc, .int .i64 wd] 33)).drewN kk) (fun _ _ _ st _ => 64 * l + 1 - (intOf st).toNat)
      case atStart => exact ⟨0, I, p0, ps - 1, k2, rfl, rfl, rfl, rfl, HS.out, rfl⟩
      case round =>
        obtain ⟨got, c, p, prev, kk, rfl, rfl, rfl, rfl, hst, rfl⟩ := hrel
        have hgb := hst.bound
        by_cases hpl : p = lm
        · have hgl := hst.last HII.out hpl
          have hb1 : (p == lm) = true := by rw [hpl]; exact beq_self_eq_true _
          have hgw : ((got : Int) == (want : Int)) = true := by
            rw [hgl, HWant.out]; exact beq_self_eq_true _
          clear hgl hpl hst
          go_wp2
          go_ret
          exact done (below_drewN (below_alloc _ _) _)
        · have hb1 : (p == lm) = false := beq_eq_false_iff_ne.2 hpl
          obtain ⟨j, hj, hpj, hpv, hlt, hM, hg1, hnext⟩ := hst.more HII.out hpl
          have HN : Hid (∀ p', IsNext zz l fr (p + 1) lm p' → St zz l fr ps lm I (j + 1) (got + 1) p' p) := hnext
          have ck := cz (j / 64) (by omega)
          have zk := hzp (j / 64) (by omega)
          have hMd : (zz (j / 64)).testBit (j % 64) = true := hM
          have hbw : Below w.heap.size w ((w.alloc (.cells #[.int .i64 fr, .slice (some ⟨b, off, none⟩) n nc, .int .i64 wd] 33)).drewN kk) := below_drewN (below_alloc _ _) _
          have hcm := marked_any rb rf l (C pc) zz j ((w.alloc (.cells #[.int .i64 fr, .slice (some ⟨b, off, none⟩) n nc, .int .i64 wd] 33)).drewN kk) zk (by omega) hLb ((hbw.cell (p := ⟨rb, rf + j / 64, none⟩) (cell_lt ck)).trans ck)
          rw [hMd] at hcm
          have HC : Hid _ := hcm
          have hnx := HT'.out (p + 1) (j + 1) (by omega) (by omega) ((w.alloc (.cells #[.int .i64 fr, .slice (some ⟨b, off, none⟩) n nc, .int .i64 wd] 33)).drewN kk) kk rfl
          have HX : Hid _ := hnx
          have hp1 : fr ≤ p := by omega
          clear hM hMd hcm hnx hnext hst hpl ck zk hbw cz hzp
          go_wp2_with (first | (go_at_call 7; refine Calls.mono HC.out ?_; rintro e w' ⟨rfl, rfl⟩) | (go_at_call 9; refine Calls.mono HX.out ?_; rintro e w' ⟨p2, rfl, hp2, k3, rfl⟩))
          go_roundw
          case rel => exact ⟨got + 1, j + 1, p2, p, kk + k3, by go_num, rfl, rfl, by go_num, HN.out p2 hp2, rfl⟩
          case measure => simp [intOf]; omega

set_option maxRecDepth 100000 in
set_option maxHeartbeats 2000000 in
theorem law4_zero (b off n nc : Nat) (ro : Option Addr) (rc : Nat) (fr wd ps lm : Int) (pc : Nat) (w : World) (hn : n ≤ 131072) (c2 : w.cell? ⟨b, off + pc, none⟩ = some (.slice ro 0 rc)) (hT : Tab w) (L : Nat → Nat)
    (hzz : Calls Tryd.prog 10 #[.int .i64 fr, .slice (some ⟨b, off, none⟩) n nc, .int .i64 wd, .int .i64 pc, .int .i64 ps, .int .i64 lm] w (SomeBool True w))
    (hft : Calls Tryd.prog 6 #[.int .i64 fr, .slice (some ⟨b, off, none⟩) n nc, .int .i64 pc, .int .i64 ps, .int .i64 lm] w (SomeBool (Fit n L fr pc ps lm) w)) (hF : Fit n L fr pc ps lm) (hpn : pc < n) :
    Calls Tryd.prog 4 #[.int .i64 fr, .slice (some ⟨b, off, none⟩) n nc, .int .i64 wd, .int .i64 pc, .int .i64 ps, .int .i64 lm] w (Done w) := by
  obtain ⟨⟨f1, f2⟩, ⟨f3, f4⟩, ⟨f5, f6⟩, _, f7, f8⟩ := hF
  obtain ⟨I, hI⟩ := Int.eq_ofNat_of_zero_le (show 0 ≤ ps - fr by omega)
  have HT := fun (w1 : World) (k1 : Nat) (hw : w1 = (w.alloc (.cells #[.int .i64 fr, .slice (some ⟨b, off, none⟩) n nc, .int .i64 wd] 33)).drewN k1) => tail_next b off n nc ro 0 rc (fun _ => 0) fr ps lm wd pc I w w1 hI f1 f2 (by omega) f5 f6 (by omega) hpn c2 (fun _ h => absurd h (Nat.not_lt_zero _)) (fun _ h => absurd h (Nat.not_lt_zero _)) hT k1 hw
  have HT' : Hid (∀ (w1 : World) (k1 : Nat), w1 = (w.alloc (.cells #[.int .i64 fr, .slice (some ⟨b, off, none⟩) n nc, .int .i64 wd] 33)).drewN k1 → Calls Tryd.prog 9 #[.pointer (some ⟨w.heap.size, 0, none⟩), .int .i64 pc, .int .i64 ps, .int .i64 lm] w1 (NextPost (fun _ => 0) 0 fr ps lm w1)) := HT
  have HN : Hid (IsNext (fun _ => 0) 0 fr ps lm lm) := Or.inl ⟨rfl, fun j hj => absurd hj (by omega)⟩
  clear HT hT f8 hI
  go_enter Tryd.func4, Tryd.ntmps4
  go_wp2_with (first | (go_at_call 10; refine Calls.mono hzz ?_; rintro e w' ⟨r, rfl, rfl, _⟩; cases r) | (go_at_call 6; refine Calls.mono hft ?_; rintro e w' ⟨r, rfl, rfl, _⟩; cases r))
  · go_ret
    exact done (Below.refl _ _)
  · go_ret
    exact done (Below.refl _ _)
  go_loop [15, 16, 17] (fun t i _ => i = .int .i64 0 ∧ t = .int .i64 0) (fun _ _ _ => 0)
  case atStart => exact ⟨rfl, rfl⟩
  case round =>
    obtain ⟨rfl, rfl⟩ := hrel
    go_wp2_with (first | (go_at_call 8; refine (new_any _ _ _ _ _ _).mono ?_; rintro e w' ⟨rfl, rfl⟩) | fail)
    refine Calls.mono (HT'.out _ 0 rfl) ?_
    rintro e w2 ⟨r, rfl, hr, k2, rfl⟩
    have hrr := hr.unique HN.out
    subst hrr
    go_wp2
    go_loopw [19, 20, 21, 22] (fun g pv p st wr => g = .int .i64 0 ∧ p = .int .i64 r ∧ st = .int .i64 0 ∧ Below w.heap.size w wr) (fun _ _ _ _ _ => 0)
    case atStart => exact ⟨rfl, rfl, rfl, below_drewN (below_alloc _ _) _⟩
    case round =>
      obtain ⟨rfl, rfl, rfl, hbel⟩ := hrel
      go_wp2
      go_ret
      exact done hbel

end Go.Proofs.Qxb6609005aDoor
