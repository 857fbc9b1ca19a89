import Derived.Test.Qxb6609005aRows
import Derived.Test.Qxb6609005aMaps
import Derived.Test.Qxb6609005aPlain
import Derived.WalkKit
import Derived.ProofKit
import Derived.WalkSpells
import Derived.WalkSmall
import Derived.BigQuiet
import Derived.Deep.QuietTactic
namespace Go.Proofs.Qxb6609005a
open Go.RowKit Go.Kx Go.Kn
/-- A clock as a value. -/
def Ckv (hp : Option Addr) (c : Ck) (ka : Option Addr) (kc : Nat) : Value := .agg #[.pointer hp, .int .u32 c.own, .int .u32 c.cn, .slice ka c.kl kc]
/-- Its entries in memory; its numbers fit. -/
def Knw (w : World) (ka : Option Addr) (c : Ck) : Prop := ∀ t, t < c.kl → ∃ b off, ka = some ⟨b, off, none⟩ ∧ w.cell? ⟨b, off + t * 2, none⟩ = some (.int .u32 (c.kh t)) ∧ w.cell? ⟨b, off + t * 2 + 1, none⟩ = some (.int .u32 (c.kn t))
theorem Knw.below {w w' : World} {ka : Option Addr} {c : Ck} (h : Knw w ka c) (hb : Below w.heap.size w w') : Knw w' ka c := fun t ht => by
  obtain ⟨b, off, e, h1, h2⟩ := h t ht
  exact ⟨b, off, e, (hb.cell (p := ⟨b, off + t * 2, none⟩) (cell_lt h1)).trans h1, (hb.cell (p := ⟨b, off + t * 2 + 1, none⟩) (cell_lt h2)).trans h2⟩
theorem Knw.at {w : World} {ka : Option Addr} {c : Ck} (h : Knw w ka c) (h0 : 0 < c.kl) : ∃ b off, ka = some ⟨b, off, none⟩ ∧ b < w.heap.size ∧ ∀ t, t < c.kl → w.cell? ⟨b, off + t * 2, none⟩ = some (.int .u32 (c.kh t)) ∧ w.cell? ⟨b, off + t * 2 + 1, none⟩ = some (.int .u32 (c.kn t)) := by
  obtain ⟨b, off, rfl, hc, _⟩ := h 0 h0
  refine ⟨b, off, rfl, cell_lt hc, fun t ht => ?_⟩
  obtain ⟨b', off', e, h1, h2⟩ := h t ht
  cases e
  exact ⟨h1, h2⟩
/-- The numbers of a clock fit their kinds. -/
structure Fits (c : Ck) : Prop where
  own : c.own < 4294967296
  cn : c.cn < 4294967296
  kl : c.kl ≤ 1048576
  kh : ∀ t, t < c.kl → c.kh t < 4294967296
  kn : ∀ t, t < c.kl → c.kn t < 4294967296
theorem isZero_any (hp : Option Addr) (c : Ck) (ka : Option Addr) (kc : Nat) (w : World) :
    Calls Try.prog 50 #[Ckv hp c ka kc] w fun e w' => e = .returned (.bool hp.isNone) ∧ Below w.heap.size w w' := by
  unfold Ckv
  cases hp with
  | none =>
    go_enter Try.func50, Try.ntmps50
    go_wp2
    go_ret
    exact ⟨rfl, below_alloc _ _⟩
  | some a =>
    go_enter Try.func50, Try.ntmps50
    go_wp2
    go_ret
    exact ⟨rfl, below_alloc _ _⟩
theorem count_own (hp : Option Addr) (c : Ck) (ka : Option Addr) (kc : Nat) (w : World) :
    Calls Try.prog 41 #[Ckv hp c ka kc, .int .u32 c.own] w fun e w' => e = .returned (.int .u32 c.cn) ∧ Below w.heap.size w w' := by
  unfold Ckv
  go_enter Try.func41, Try.ntmps41
  go_wp2
  go_ret
  exact ⟨rfl, below_alloc _ _⟩
set_option maxHeartbeats 1000000 in
theorem count_none (hp : Option Addr) (c : Ck) (ka : Option Addr) (kc i : Nat) (w : World) (hne : i ≠ c.own) (h0 : c.kl = 0) :
    Calls Try.prog 41 #[Ckv hp c ka kc, .int .u32 i] w fun e w' => e = .returned (.int .u32 0) ∧ Below w.heap.size w w' := by
  unfold Ckv
  rw [h0]
  have hne' : ((i : Int) == (c.own : Int)) = false := beq_eq_false_iff_ne.2 (by omega)
  go_enter Try.func41, Try.ntmps41
  go_wp2
  go_quiet (fail)
  go_wp2
  go_loopw [5, 6, 7] (fun lo hi _ wr => lo = .int .i64 0 ∧ hi = .int .i64 0 ∧ Below w.heap.size w wr ∧ wr.cell? ⟨w.heap.size, 3, none⟩ = some (.slice ka 0 kc)) (fun _ _ _ _ => 0)
  case atStart => exact ⟨rfl, rfl, below_drewN (below_alloc _ _) _, by simp⟩
  case round =>
    obtain ⟨rfl, rfl, hbel, hc⟩ := hrel
    go_wp2
    go_ret
    exact ⟨rfl, hbel⟩
set_option maxHeartbeats 1000000 in
theorem count_some (hp : Option Addr) (c : Ck) (b off : Nat) (kc i : Nat) (w : World) (hf : Fits c) (ha : Asc c) (_hi : i < 4294967296) (hne : i ≠ c.own) (h0 : 0 < c.kl) (hB : b < w.heap.size)
    (hc : ∀ t, t < c.kl → w.cell? ⟨b, off + t * 2, none⟩ = some (.int .u32 (c.kh t)) ∧ w.cell? ⟨b, off + t * 2 + 1, none⟩ = some (.int .u32 (c.kn t))) :
    Calls Try.prog 41 #[Ckv hp c (some ⟨b, off, none⟩) kc, .int .u32 i] w fun e w' => e = .returned (.int .u32 (cv c i)) ∧ Below w.heap.size w w' := by
  have hkl := hf.kl
  have HV : Hid (∀ lo, lo ≤ c.kl → (∀ t, t < lo → c.kh t < i) → (∀ t, lo ≤ t → t < c.kl → i ≤ c.kh t) → (lo < c.kl → c.kh lo = i → cv c i = c.kn lo) ∧ ((lo < c.kl → c.kh lo ≠ i) → cv c i = 0)) := fun lo h1 h2 h3 => by
    refine ⟨fun h4 h5 => ?_, fun h4 => ?_⟩
    · rw [← h5]; exact cv_entry ha h4 (by rw [h5]; exact hne)
    · unfold cv
      rw [if_neg hne]
      refine look_none _ (fun t ht e => ?_)
      by_cases g : t < lo
      · have := h2 t g; omega
      · have := h4 (by omega)
        by_cases g2 : t = lo
        · subst g2; exact this e
        · have := ha lo t (by omega) ht
          have := h3 lo (Nat.le_refl _) (by omega)
          omega
  generalize cv c i = r at *
  obtain ⟨own, cn, kl, kh, kn⟩ := c
  unfold Ckv
  simp only at *
  have hkh := hf.kh
  simp only at hkh
  have hne' : ((i : Int) == (own : Int)) = false := beq_eq_false_iff_ne.2 (by omega)
  have HA : Hid (∀ s t, s < t → t < kl → kh s < kh t) := ha
  clear hf ha
  go_enter Try.func41, Try.ntmps41
  go_wp2
  go_quiet (fail)
  go_wp2
  go_loopw [5, 6, 7] (fun lo hi _ wr => ∃ a z : Nat, lo = .int .i64 a ∧ hi = .int .i64 z ∧ a ≤ z ∧ z ≤ kl ∧ (∀ t, t < a → kh t < i) ∧ (∀ t, z ≤ t → t < kl → i ≤ kh t) ∧ Below w.heap.size w wr ∧ wr.cell? ⟨w.heap.size, 3, none⟩ = some (.slice (some ⟨b, off, none⟩) kl kc)) (fun lo hi _ _ => (intOf hi - intOf lo).toNat)
  case atStart => exact ⟨0, kl, rfl, rfl, Nat.zero_le _, Nat.le_refl _, fun t h => absurd h (Nat.not_lt_zero _), fun t h1 h2 => absurd h2 (by omega), below_drewN (below_alloc _ _) _, by simp⟩
  case round =>
    obtain ⟨a, z, rfl, rfl, haz, hz, hlo, hhi, hbel, hc3⟩ := hrel
    have hcr : ∀ t, t < kl → wr.cell? ⟨b, off + t * 2, none⟩ = some (.int .u32 (kh t)) ∧ wr.cell? ⟨b, off + t * 2 + 1, none⟩ = some (.int .u32 (kn t)) := fun t ht =>
      ⟨(hbel.cell (p := ⟨b, off + t * 2, none⟩) hB).trans (hc t ht).1, (hbel.cell (p := ⟨b, off + t * 2 + 1, none⟩) hB).trans (hc t ht).2⟩
    clear hc
    by_cases hab : a < z
    · have c0 := (hcr ((a + z) / 2) (by omega)).1
      have b0 := hkh ((a + z) / 2) (by omega)
      by_cases hm : kh ((a + z) / 2) < i
      · have HLO : Hid (∀ t, t < (a + z) / 2 + 1 → kh t < i) := fun t ht => by
          by_cases e : t = (a + z) / 2
          · rw [e]; exact hm
          · have := HA.out t ((a + z) / 2) (by omega) (by omega); omega
        have HHI : Hid (∀ t, z ≤ t → t < kl → i ≤ kh t) := hhi
        clear hcr hlo hhi HV hkh
        go_wp2
        go_roundw
        case rel => exact ⟨(a + z) / 2 + 1, z, by go_num, rfl, by omega, hz, HLO.out, HHI.out, hbel, hc3⟩
        case measure => simp [intOf]; omega
      · have HLO : Hid (∀ t, t < a → kh t < i) := hlo
        have HHI : Hid (∀ t, (a + z) / 2 ≤ t → t < kl → i ≤ kh t) := fun t ht hk => by
          by_cases e : t = (a + z) / 2
          · rw [e]; omega
          · have := HA.out ((a + z) / 2) t (by omega) hk; omega
        clear hcr hlo hhi HV hkh
        go_wp2
        go_roundw
        case rel => exact ⟨a, (a + z) / 2, rfl, by go_num, by omega, by omega, HLO.out, HHI.out, hbel, hc3⟩
        case measure => simp [intOf]; omega
    · obtain rfl : a = z := by omega
      have hv := HV.out a hz hlo hhi
      by_cases hl : a < kl
      · have c0 := (hcr a hl).1
        have c1 := (hcr a hl).2
        by_cases he : kh a = i
        · have hr : r = kn a := hv.1 hl he
          have hb9 : ((kh a : Int) == (i : Int)) = true := beq_iff_eq.2 (by omega)
          clear hcr hlo hhi HV hkh hv he HA
          subst hr
          go_wp2
          go_ret
          exact ⟨rfl, hbel⟩
        · have hr : r = 0 := hv.2 (fun _ => he)
          have hb9 : ((kh a : Int) == (i : Int)) = false := beq_eq_false_iff_ne.2 (by omega)
          clear hcr hlo hhi HV hkh hv he HA
          subst hr
          go_wp2
          go_ret
          exact ⟨rfl, hbel⟩
      · have hr : r = 0 := hv.2 (fun h => absurd h hl)
        clear hcr hlo hhi HV hkh hv HA
        subst hr
        go_wp2
        go_ret
        exact ⟨rfl, hbel⟩
/-- (Clock).count. -/
theorem count_any (hp : Option Addr) (c : Ck) (ka : Option Addr) (kc i : Nat) (w : World) (hf : Fits c) (ha : Asc c) (hi : i < 4294967296) (hk : Knw w ka c) :
    Calls Try.prog 41 #[Ckv hp c ka kc, .int .u32 i] w fun e w' => e = .returned (.int .u32 (cv c i)) ∧ Below w.heap.size w w' := by
  by_cases hne : i = c.own
  · subst hne
    rw [cv_own]
    exact count_own hp c ka kc w
  · by_cases h0 : c.kl = 0
    · have e : cv c i = 0 := by unfold cv; rw [if_neg hne, h0]; rfl
      rw [e]
      exact count_none hp c ka kc i w hne h0
    · obtain ⟨b, off, rfl, hB, hc⟩ := hk.at (Nat.pos_of_ne_zero h0)
      exact count_some hp c b off kc i w hf ha hi hne (Nat.pos_of_ne_zero h0) hB hc

end Go.Proofs.Qxb6609005a
