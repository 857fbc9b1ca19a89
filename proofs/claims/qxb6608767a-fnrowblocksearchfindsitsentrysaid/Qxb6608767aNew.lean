import Derived.Test.Qxb6608767aLayout
import Derived.WalkKit
import Derived.ProofKit
import Derived.WalkSpells
import Derived.WalkSmall
namespace Go.Proofs.Qxb6608767a
open Go.RowKit Go.Kx
theorem info39 : (Try.prog.info? 39).map (fun i => (i.zero, i.size, i.bytes)) = some (some (.agg #[.string ByteArray.empty, .int .i64 0]), 2, 24) := by kernel_rfl
theorem info41 : (Try.prog.info? 41).map (fun i => (i.zero, i.size, i.bytes)) = some (some (.int .u16 0), 1, 2) := by kernel_rfl
theorem mk_entries (n : Nat) (hn : n ≤ 4096) (w : World) : (Instr.makeSlice 37 (.int .i64 (n : Int)) (.int .i64 (n : Int))).run Try.prog w = .ok (.slice (some ⟨w.heap.size, 0, none⟩) n n) (w.alloc (.cells (madeCells #[.string ByteArray.empty, .int .i64 0] (n * 2)) 39)) := by
  obtain ⟨i0, hi, hz0, hz1, hz2⟩ := info_parts info39
  have := run_make (P := Try.prog) w 37 39 i0 _ Try.underlying37 hi hz0 .i64 .i64 n n (by omega) (by omega) (by rw [hz2]; omega) (by omega)
  rw [this, hz1]
  simp [Value.cells]
theorem mk_places (n : Nat) (hn : n ≤ 4096) (w : World) : (Instr.makeSlice 40 (.int .i64 (n : Int)) (.int .i64 (n : Int))).run Try.prog w = .ok (.slice (some ⟨w.heap.size, 0, none⟩) n n) (w.alloc (.cells (madeCells #[.int .u16 0] n) 41)) := by
  obtain ⟨i0, hi, hz0, hz1, hz2⟩ := info_parts info41
  have := run_make (P := Try.prog) w 40 41 i0 _ Try.underlying40 hi hz0 .i64 .i64 n n (by omega) (by omega) (by rw [hz2]; omega) (by omega)
  rw [this, hz1]
  simp [Value.cells]
/-- Entries 0 .. k-1 of block B are written; all 2n cells are there. -/
def Ents (w : World) (B n k : Nat) (nm : Nat → ByteArray) (vl : Nat → Int) : Prop := ∃ g : Nat → Value, Row w B (n * 2) g ∧ ∀ i, i < k → g (i * 2) = .string (nm i) ∧ g (i * 2 + 1) = .int .i64 (vl i)
theorem Ents.step {w : World} {B n k : Nat} {nm : Nat → ByteArray} {vl : Nat → Int} {g : Nat → Value} (hrow : Row w B (n * 2) g) (hg : ∀ i, i < k → g (i * 2) = .string (nm i) ∧ g (i * 2 + 1) = .int .i64 (vl i)) (hk : k < n) :
    Ents ((w.setCell ⟨B, k * 2, none⟩ (.string (nm k))).setCell ⟨B, k * 2 + 1, none⟩ (.int .i64 (vl k))) B n (k + 1) nm vl := by
  refine ⟨_, (hrow.set (k * 2) (by omega) _).set (k * 2 + 1) (by omega) _, fun i hi => ?_⟩
  by_cases e : i = k
  · subst e
    simp only [if_true]
    exact ⟨by rw [if_neg (by omega)], trivial⟩
  · rw [if_neg (by omega), if_neg (by omega), if_neg (by omega), if_neg (by omega)]
    exact hg i (by omega)
theorem Ents.drewN {w : World} {B n k : Nat} {nm : Nat → ByteArray} {vl : Nat → Int} (h : Ents w B n k nm vl) (m : Nat) : Ents (w.drewN m) B n k nm vl := by
  obtain ⟨g, h1, h2⟩ := h
  exact ⟨g, h1.drewN m, h2⟩
theorem Ents.drew {w : World} {B n k : Nat} {nm : Nat → ByteArray} {vl : Nat → Int} (h : Ents w B n k nm vl) : Ents w.drew B n k nm vl := h.drewN 1
theorem Ents.below {w w' : World} {S B n k : Nat} {nm : Nat → ByteArray} {vl : Nat → Int} (h : Ents w B n k nm vl) (hb : Below S w w') (hB : B < S) : Ents w' B n k nm vl := by
  obtain ⟨g, h1, h2⟩ := h
  exact ⟨g, h1.below hb hB, h2⟩
theorem Ents.at {w : World} {B n k : Nat} {nm : Nat → ByteArray} {vl : Nat → Int} (h : Ents w B n k nm vl) (i : Nat) (hi : i < k) (hk : k ≤ n) : w.cell? ⟨B, i * 2, none⟩ = some (.string (nm i)) ∧ w.cell? ⟨B, i * 2 + 1, none⟩ = some (.int .i64 (vl i)) := by
  obtain ⟨g, h1, h2⟩ := h
  rw [← (h2 i hi).1, ← (h2 i hi).2]
  exact ⟨(h1 _ (by omega)).1, (h1 _ (by omega)).1⟩
/-- What ZZnewRowBlock leaves where there is no order. -/
def NewN (n : Nat) (nm : Nat → ByteArray) (vl : Nat → Int) (w : World) (e : Ending) (w' : World) : Prop :=
  ∃ Bb Be, e = .returned (.pointer (some ⟨Bb, 0, none⟩)) ∧ w'.cell? ⟨Bb, 0, none⟩ = some (.slice (some ⟨Be, 0, none⟩) n n) ∧ w'.cell? ⟨Bb, 1, none⟩ = some (.slice none 0 0) ∧ Ents w' Be n n nm vl ∧ Below w.heap.size w w'
set_option maxHeartbeats 2000000 in
theorem newN_any (Bn Bv n : Nat) (nm : Nat → ByteArray) (vl : Nat → Int) (w : World) (hn : n ≤ 4096) (hc : ∀ i, i < n → w.cell? ⟨Bn, i, none⟩ = some (.string (nm i)))  (hv : ∀ i, i < n → w.cell? ⟨Bv, i, none⟩ = some (.int .i64 (vl i))) :
    Calls Try.prog 7 #[.slice (some ⟨Bn, 0, none⟩) n n, .slice (some ⟨Bv, 0, none⟩) n n, .slice none 0 0] w (NewN n nm vl w) := by
  have e24 := fun w a n c => run_neq_slice_nil_any (P := Try.prog) w 24 _ a n c 0 0 Try.underlying24
  have hmk := mk_entries n hn
  go_enter Try.func7, Try.ntmps7
  go_wp2
  go_loopw [16] (fun i wr => ∃ k : Nat, i = .int .i64 k ∧ k ≤ n ∧ Ents wr w.heap.size n k nm vl ∧ Below w.heap.size w wr ∧ w.heap.size < wr.heap.size) (fun i _ => n - (intOf i).toNat)
  case atStart => exact ⟨0, rfl, Nat.zero_le _, ⟨_, Row.made w _ (n * 2) 39, fun i h => absurd h (Nat.not_lt_zero _)⟩, below_alloc _ _, by simp⟩
  case round =>
    obtain ⟨k, rfl, hk, ⟨g, hrow, hg⟩, hbel, hsz⟩ := hrel
    by_cases hlt : k < n
    · have hBn : Bn < w.heap.size := cell_lt (hc k hlt)
      have hBv : Bv < w.heap.size := cell_lt (hv k hlt)
      have cn := (hbel.cell (p := ⟨Bn, k, none⟩) hBn).trans (hc k hlt)
      have cv := (hbel.cell (p := ⟨Bv, k, none⟩) hBv).trans (hv k hlt)
      have r0 := (hrow (k * 2) (by omega)).1
      have r1 := (hrow (k * 2 + 1) (by omega)).1
      have f0 := (hrow (k * 2) (by omega)).2
      have f1 := (hrow (k * 2 + 1) (by omega)).2
      have i1 : (0 : Int) ≤ (k : Int) := by omega
      have i2 : (k : Int) < (n : Int) := by omega
      have HE : Hid (Ents ((wr.setCell ⟨w.heap.size, k * 2, none⟩ (.string (nm k))).setCell ⟨w.heap.size, k * 2 + 1, none⟩ (.int .i64 (vl k))) w.heap.size n (k + 1) nm vl) := Ents.step hrow hg hlt
      have HB : Hid (Below w.heap.size w ((wr.setCell ⟨w.heap.size, k * 2, none⟩ (.string (nm k))).setCell ⟨w.heap.size, k * 2 + 1, none⟩ (.int .i64 (vl k)))) := (hbel.setCell (Nat.le_refl _) _).setCell (Nat.le_refl _) _
      clear hc hv hmk hrow hg hbel
      go_wp2
      go_region
      go_wp2
      go_roundw
      case rel => exact ⟨k + 1, by go_num, by omega, HE.out.drew, HB.out.drew, by simpa [World.setCell] using hsz⟩
      case measure => simp [intOf]; omega
    · obtain rfl : k = n := by omega
      have HE : Hid (Ents wr w.heap.size k k nm vl) := ⟨g, hrow, hg⟩
      clear hc hv hmk hrow hg
      go_wp2
      go_ret
      exact ⟨wr.heap.size, w.heap.size, rfl, World.cell?_alloc_at _ _ _ _ rfl, World.cell?_alloc_at _ _ _ _ rfl, HE.out.below (below_alloc _ _) hsz, below_trans hbel (below_alloc _ _)⟩

/-- What ZZnewRowBlock leaves where there is an order. -/
def NewO (n : Nat) (nm : Nat → ByteArray) (vl : Nat → Int) (od : Nat → Int) (w : World) (e : Ending) (w' : World) : Prop :=
  ∃ Bb Be Bp, e = .returned (.pointer (some ⟨Bb, 0, none⟩)) ∧ w'.cell? ⟨Bb, 0, none⟩ = some (.slice (some ⟨Be, 0, none⟩) n n) ∧ w'.cell? ⟨Bb, 1, none⟩ = some (.slice (some ⟨Bp, 0, none⟩) n n) ∧ Ents w' Be n n nm vl ∧ (∀ i, i < n → w'.cell? ⟨Bp, i, none⟩ = some (.int .u16 (od i))) ∧ Below w.heap.size w w'
/-- Places 0 .. k-1 of block B are written; all n cells are there. -/
def Plcs (w : World) (B n k : Nat) (od : Nat → Int) : Prop := ∃ g : Nat → Value, Row w B n g ∧ ∀ i, i < k → g i = .int .u16 (od i)
theorem Plcs.step {w : World} {B n k : Nat} {od : Nat → Int} {g : Nat → Value} (hrow : Row w B n g) (hg : ∀ i, i < k → g i = .int .u16 (od i)) (hk : k < n) :
    Plcs (w.setCell ⟨B, k, none⟩ (.int .u16 (od k))) B n (k + 1) od := by
  refine ⟨_, hrow.set k hk _, fun i hi => ?_⟩
  by_cases e : i = k
  · subst e
    simp only [if_true]
  · rw [if_neg e]
    exact hg i (by omega)
theorem Ents.set_other {w : World} {B n k : Nat} {nm : Nat → ByteArray} {vl : Nat → Int} (h : Ents w B n k nm vl) (B' j : Nat) (hne : B' ≠ B) (v : Value) : Ents (w.setCell ⟨B', j, none⟩ v) B n k nm vl := by
  obtain ⟨g, h1, h2⟩ := h
  exact ⟨g, h1.set_other B' j hne v, h2⟩
set_option maxHeartbeats 2000000 in
theorem newO_any (Bn Bv Bo n : Nat) (nm : Nat → ByteArray) (vl : Nat → Int) (od : Nat → Int) (w : World) (hn : n ≤ 4096) (hc : ∀ i, i < n → w.cell? ⟨Bn, i, none⟩ = some (.string (nm i)))  (hv : ∀ i, i < n → w.cell? ⟨Bv, i, none⟩ = some (.int .i64 (vl i)))
    (ho : ∀ i, i < n → w.cell? ⟨Bo, i, none⟩ = some (.int .u16 (od i))) :
    Calls Try.prog 7 #[.slice (some ⟨Bn, 0, none⟩) n n, .slice (some ⟨Bv, 0, none⟩) n n, .slice (some ⟨Bo, 0, none⟩) n n] w (NewO n nm vl od w) := by
  have e24 := fun w a n c => run_neq_slice_nil_any (P := Try.prog) w 24 _ a n c 0 0 Try.underlying24
  have hmk := mk_entries n hn
  have hmp := mk_places n hn
  go_enter Try.func7, Try.ntmps7
  go_wp2
  go_loopw [16] (fun i wr => ∃ k : Nat, i = .int .i64 k ∧ k ≤ n ∧ Ents wr w.heap.size n k nm vl ∧ Below w.heap.size w wr ∧ w.heap.size < wr.heap.size) (fun i _ => n - (intOf i).toNat)
  case atStart => exact ⟨0, rfl, Nat.zero_le _, ⟨_, Row.made w _ (n * 2) 39, fun i h => absurd h (Nat.not_lt_zero _)⟩, below_alloc _ _, by simp⟩
  case round =>
    obtain ⟨k, rfl, hk, ⟨g, hrow, hg⟩, hbel, hsz⟩ := hrel
    by_cases hlt : k < n
    · have hBn : Bn < w.heap.size := cell_lt (hc k hlt)
      have hBv : Bv < w.heap.size := cell_lt (hv k hlt)
      have cn := (hbel.cell (p := ⟨Bn, k, none⟩) hBn).trans (hc k hlt)
      have cv := (hbel.cell (p := ⟨Bv, k, none⟩) hBv).trans (hv k hlt)
      have r0 := (hrow (k * 2) (by omega)).1
      have r1 := (hrow (k * 2 + 1) (by omega)).1
      have f0 := (hrow (k * 2) (by omega)).2
      have f1 := (hrow (k * 2 + 1) (by omega)).2
      have i1 : (0 : Int) ≤ (k : Int) := by omega
      have i2 : (k : Int) < (n : Int) := by omega
      have HE : Hid (Ents ((wr.setCell ⟨w.heap.size, k * 2, none⟩ (.string (nm k))).setCell ⟨w.heap.size, k * 2 + 1, none⟩ (.int .i64 (vl k))) w.heap.size n (k + 1) nm vl) := Ents.step hrow hg hlt
      have HB : Hid (Below w.heap.size w ((wr.setCell ⟨w.heap.size, k * 2, none⟩ (.string (nm k))).setCell ⟨w.heap.size, k * 2 + 1, none⟩ (.int .i64 (vl k)))) := (hbel.setCell (Nat.le_refl _) _).setCell (Nat.le_refl _) _
      clear hc hv hmk hmp ho hrow hg hbel
      go_wp2
      go_region
      go_wp2
      go_roundw
      case rel => exact ⟨k + 1, by go_num, by omega, HE.out.drew, HB.out.drew, by simpa [World.setCell] using hsz⟩
      case measure => simp [intOf]; omega
    · obtain rfl : k = n := by omega
      have HE : Hid (Ents wr w.heap.size k k nm vl) := ⟨g, hrow, hg⟩
      clear hc hv hmk hrow hg
      obtain ⟨wo, rfl⟩ : ∃ wo : World, wo = wr := ⟨_, rfl⟩
      go_wp2
      go_loopw [39] (fun i wr => ∃ j : Nat, i = .int .i64 j ∧ j ≤ k ∧ Plcs wr wo.heap.size k j od ∧ Ents wr w.heap.size k k nm vl ∧ Below w.heap.size w wr ∧ wo.heap.size < wr.heap.size) (fun i _ => k - (intOf i).toNat)
      case atStart => exact ⟨0, rfl, Nat.zero_le _, ⟨_, Row.made wo _ k 41, fun i h => absurd h (Nat.not_lt_zero _)⟩, HE.out.below (below_alloc _ _) hsz, below_trans hbel (below_alloc _ _), by simp⟩
      case round =>
        obtain ⟨j, rfl, hj, ⟨g, hrow, hg⟩, hE, hbl, hs2⟩ := hrel
        by_cases hlt : j < k
        · have hBo : Bo < w.heap.size := cell_lt (ho j hlt)
          have co := (hbl.cell (p := ⟨Bo, j, none⟩) hBo).trans (ho j hlt)
          have r0 := (hrow j (by omega)).1
          have f0 := (hrow j (by omega)).2
          have HP : Hid (Plcs (wr.setCell ⟨wo.heap.size, j, none⟩ (.int .u16 (od j))) wo.heap.size k (j + 1) od) := Plcs.step hrow hg hlt
          have HE2 : Hid (Ents (wr.setCell ⟨wo.heap.size, j, none⟩ (.int .u16 (od j))) w.heap.size k k nm vl) := hE.set_other _ _ (Nat.ne_of_gt hsz) _
          have HB : Hid (Below w.heap.size w (wr.setCell ⟨wo.heap.size, j, none⟩ (.int .u16 (od j)))) := hbl.setCell (Nat.le_of_lt hsz) _
          clear ho hmp hrow hg hE hbl hbel HE
          go_wp2
          go_roundw
          case rel => exact ⟨j + 1, by go_num, by omega, HP.out, HE2.out, HB.out, by simpa [World.setCell] using hs2⟩
          case measure => simp [intOf]; omega
        · obtain rfl : j = k := by omega
          have HP : Hid (∀ i, i < j → wr.cell? ⟨wo.heap.size, i, none⟩ = some (.int .u16 (od i))) := fun i hi => by rw [← hg i hi]; exact (hrow i hi).1
          have HEE : Hid (Ents wr w.heap.size j j nm vl) := hE
          have HB : Hid (Below w.heap.size w wr) := hbl
          clear ho hmp hrow hg hbel HE hbl hE
          go_wp2
          go_ret
          exact ⟨wr.heap.size, w.heap.size, wo.heap.size, rfl, World.cell?_alloc_at _ _ _ _ rfl, World.cell?_alloc_at _ _ _ _ rfl, HEE.out.below (below_alloc _ _) (by omega), fun i hi => by rw [World.cell?_alloc_past _ _ _ hs2]; exact HP.out i hi, below_trans HB.out (below_alloc _ _)⟩

end Go.Proofs.Qxb6608767a
