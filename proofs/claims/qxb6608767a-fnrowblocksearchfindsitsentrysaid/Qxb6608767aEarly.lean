import Derived.Test.Qxb6608767aNew
import Derived.Test.Qxb6608767aBytes
import Derived.Test.Qxb6608767aSearch
import Derived.Test.Qxb6608767aKit2
import Derived.WalkKit
import Derived.ProofKit
import Derived.WalkSpells
import Derived.WalkSmall
import Derived.Deep.DeepCutAuto
namespace Go.Proofs.Qxb6608767a
open Go.RowKit Go.Kx
theorem info9 : (Try.prog.info? 9).map (fun i => (i.zero, i.size, i.bytes)) = some (some (.string ByteArray.empty), 1, 16) := by kernel_rfl
theorem info2 : (Try.prog.info? 2).map (fun i => (i.zero, i.size, i.bytes)) = some (some (.int .i64 0), 1, 8) := by kernel_rfl
theorem info29 : (Try.prog.info? 29).map (fun i => (i.zero, i.size, i.bytes)) = some (some (.int .u16 0), 1, 2) := by kernel_rfl
theorem mk22 (n : Nat) (hn : n ≤ 4096) (w : World) : (Instr.makeSlice 22 (.int .i64 (n : Int)) (.int .i64 (n : Int))).run Try.prog w = .ok (.slice (some ⟨w.heap.size, 0, none⟩) n n) (w.alloc (.cells (madeCells #[.string ByteArray.empty] n) 9)) := by
  obtain ⟨i0, hi, hz0, hz1, hz2⟩ := info_parts info9
  have := run_make (P := Try.prog) w 22 9 i0 _ Try.underlying22 hi hz0 .i64 .i64 n n (by omega) (by omega) (by rw [hz2]; omega) (by omega)
  rw [this, hz1]
  simp [Value.cells]
theorem mk23 (n : Nat) (hn : n ≤ 4096) (w : World) : (Instr.makeSlice 23 (.int .i64 (n : Int)) (.int .i64 (n : Int))).run Try.prog w = .ok (.slice (some ⟨w.heap.size, 0, none⟩) n n) (w.alloc (.cells (madeCells #[.int .i64 0] n) 2)) := by
  obtain ⟨i0, hi, hz0, hz1, hz2⟩ := info_parts info2
  have := run_make (P := Try.prog) w 23 2 i0 _ Try.underlying23 hi hz0 .i64 .i64 n n (by omega) (by omega) (by rw [hz2]; omega) (by omega)
  rw [this, hz1]
  simp [Value.cells]
theorem mk24 (n : Nat) (hn : n ≤ 4096) (w : World) : (Instr.makeSlice 24 (.int .i64 (n : Int)) (.int .i64 (n : Int))).run Try.prog w = .ok (.slice (some ⟨w.heap.size, 0, none⟩) n n) (w.alloc (.cells (madeCells #[.int .u16 0] n) 29)) := by
  obtain ⟨i0, hi, hz0, hz1, hz2⟩ := info_parts info29
  have := run_make (P := Try.prog) w 24 29 i0 _ Try.underlying24 hi hz0 .i64 .i64 n n (by omega) (by omega) (by rw [hz2]; omega) (by omega)
  rw [this, hz1]
  simp [Value.cells]
/-- A slice whose n elements are f. -/
def Sl (w : World) (ao : Option Addr) (n : Nat) (f : Nat → Value) : Prop := ∀ i, i < n → ∃ ad, ao = some ad ∧ w.cell? (ad.add i) = some (f i)
theorem Sl.srcA {w : World} {ao : Option Addr} {n : Nat} {f : Nat → Value} {o : Obj} (h : Sl w ao n f) : ∀ i, i < n → ∃ ad, ao = some ad ∧ (w.alloc o).cell? (ad.add i) = some (f i) := fun i hi => by
  obtain ⟨ad, e, hc⟩ := h i hi
  exact ⟨ad, e, by rw [(below_alloc w o).cell (p := ad.add i) (cell_lt hc)]; exact hc⟩
theorem Sl.below {w w' : World} {ao : Option Addr} {n : Nat} {f : Nat → Value} (h : Sl w ao n f) (hb : Below w.heap.size w w') : Sl w' ao n f := fun i hi => by
  obtain ⟨ad, e, hc⟩ := h i hi
  exact ⟨ad, e, by rw [hb.cell (p := ad.add i) (cell_lt hc)]; exact hc⟩
/-- The law's end: true, and nothing old has turned. -/
def Done (w : World) (e : Ending) (w' : World) : Prop := e = .returned (.bool true) ∧ Below w.heap.size w w'
/-- A slice that the call has copied, or the nil one. -/
def Cp (w0 w : World) (v : Value) (n : Nat) (f : Nat → Value) : Prop := (v = .slice none 0 0 ∧ n = 0) ∨ ∃ B, v = .slice (some ⟨B, 0, none⟩) n n ∧ w0.heap.size ≤ B ∧ B < w.heap.size ∧ Row w B n f

theorem done {w w' : World} (h : Below w.heap.size w w') : Done w (.returned (.bool true)) w' := ⟨rfl, h⟩
theorem Cp.below {w0 w w' : World} {v : Value} {n : Nat} {f : Nat → Value} (h : Cp w0 w v n f) (hb : Below w.heap.size w w') : Cp w0 w' v n f := by
  rcases h with h | ⟨B, e, h1, h2, h3⟩
  · exact Or.inl h
  · exact Or.inr ⟨B, e, h1, Nat.lt_of_lt_of_le h2 hb.size, h3.below hb h2⟩
theorem Cp.gen {w0 w : World} {v : Value} {n : Nat} {f : Nat → Value} (h : Cp w0 w v n f) : ∃ a c, v = .slice a n c ∧ (0 < n → ∃ B, a = some ⟨B, 0, none⟩ ∧ n = c ∧ w0.heap.size ≤ B ∧ B < w.heap.size ∧ Row w B n f) := by
  rcases h with ⟨rfl, rfl⟩ | ⟨B, rfl, h1, h2, h3⟩
  · exact ⟨none, 0, rfl, fun h => absurd h (Nat.lt_irrefl _)⟩
  · exact ⟨_, n, rfl, fun _ => ⟨B, rfl, rfl, h1, h2, h3⟩⟩
/-- The order behind its copying: nil, or a row of the call's own. -/
def Od (w0 w : World) (v : Value) (ol : Nat) (f : Nat → Value) : Prop := v = .slice none 0 0 ∨ ∃ B, v = .slice (some ⟨B, 0, none⟩) ol ol ∧ w0.heap.size ≤ B ∧ B < w.heap.size ∧ Row w B ol f
theorem Od.gen {w0 w : World} {v : Value} {ol : Nat} {f : Nat → Value} (h : Od w0 w v ol f) (hol : ol ≤ 4096) : ∃ a l c, v = .slice a l c ∧ l ≤ 4096 := by
  rcases h with rfl | ⟨B, rfl, h1, h2, h3⟩
  · exact ⟨none, 0, 0, rfl, by omega⟩
  · exact ⟨_, ol, ol, rfl, hol⟩
set_option maxRecDepth 100000 in
set_option maxHeartbeats 4000000 in
theorem law_early {p : Prop} (na va oa : Option Addr) (n nc vl vc ol oc : Nat) (j : Int) (w : World)
    (hzz : Calls Try.prog 10 #[.slice na n nc, .slice va vl vc, .slice oa ol oc, .int .i64 j] w (SomeBool p w))
    (bn : n ≤ maxLen) (bv : vl ≤ maxLen) (bo : ol ≤ maxLen) (h : ¬ (n ≤ 4096 ∧ vl ≤ 4096 ∧ ol ≤ 4096)) :
    Calls Try.prog 4 #[.slice na n nc, .slice va vl vc, .slice oa ol oc, .int .i64 j] w (Done w) := by
  unfold maxLen at bn bv bo
  by_cases h1 : n ≤ 4096
  · by_cases h2 : vl ≤ 4096
    · have h3 : 4096 < ol := by omega
      clear h
      go_enter Try.func4, Try.ntmps4
      go_wp2_with (go_at_call 10; refine Calls.mono hzz ?_; rintro e w' ⟨r, rfl, rfl, _⟩; cases r)
      all_goals (go_ret; exact done (Below.refl _ _))
    · clear h
      go_enter Try.func4, Try.ntmps4
      go_wp2_with (go_at_call 10; refine Calls.mono hzz ?_; rintro e w' ⟨r, rfl, rfl, _⟩; cases r)
      all_goals (go_ret; exact done (Below.refl _ _))
  · clear h
    go_enter Try.func4, Try.ntmps4
    go_wp2_with (go_at_call 10; refine Calls.mono hzz ?_; rintro e w' ⟨r, rfl, rfl, _⟩; cases r)
    all_goals (go_ret; exact done (Below.refl _ _))

end Go.Proofs.Qxb6608767a
