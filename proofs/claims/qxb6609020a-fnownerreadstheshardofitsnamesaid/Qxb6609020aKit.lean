import Derived.WalkKit
import Derived.WalkSpells
import Derived.WalkSmall
import Derived.Laws.MakeOwn
/-! The seat's own small kit: rows of cells in one block. -/
namespace Go.Kx
open Go.RowKit

/-- The first n cells of block B hold f, none of them frozen. -/
def Row (w : World) (B n : Nat) (f : Nat → Value) : Prop := ∀ i, i < n → w.cell? ⟨B, i, none⟩ = some (f i) ∧ w.frozen? ⟨B, i, none⟩ = false

theorem cell_lt {w : World} {a : Addr} {v : Value} (h : w.cell? a = some v) : a.block < w.heap.size := World.block_lt_of_cell? w a h

theorem Row.lt {w : World} {B n : Nat} {f : Nat → Value} (h : Row w B n f) (hn : 0 < n) : B < w.heap.size := cell_lt (h 0 hn).1

theorem Row.below {w w' : World} {S B n : Nat} {f : Nat → Value} (h : Row w B n f) (hb : Below S w w') (hB : B < S) : Row w' B n f := fun i hi => by
  rw [hb.cell (p := ⟨B, i, none⟩) hB, hb.frozen (p := ⟨B, i, none⟩) hB]; exact h i hi

theorem Row.drewN {w : World} {B n : Nat} {f : Nat → Value} (h : Row w B n f) (k : Nat) : Row (w.drewN k) B n f := fun i hi => h i hi

theorem Row.alloc {w : World} {B n : Nat} {f : Nat → Value} (h : Row w B n f) (o : Obj) (hB : B < w.heap.size) : Row (w.alloc o) B n f :=
  h.below (S := w.heap.size) ((Below.refl _ _).alloc (Nat.le_refl _) o) hB

theorem Row.set {w : World} {B n : Nat} {f : Nat → Value} (h : Row w B n f) (k : Nat) (hk : k < n) (v : Value) : Row (w.setCell ⟨B, k, none⟩ v) B n (fun i => if i = k then v else f i) := fun i hi => by
  refine ⟨?_, by rw [World.frozen?_setCell]; exact (h i hi).2⟩
  by_cases e : i = k
  · subst e
    simp only [if_true]
    exact World.cell?_setCell_same _ _ _ (h i hi).1
  · simp only [if_neg e]
    rw [World.cell?_setCell_other _ _ _ _ (fun he => e (by injection he with _ h2 _; exact h2.symm))]
    exact (h i hi).1

theorem Row.set_other {w : World} {B n : Nat} {f : Nat → Value} (h : Row w B n f) (B' k : Nat) (hne : B' ≠ B) (v : Value) : Row (w.setCell ⟨B', k, none⟩ v) B n f := fun i hi => by
  refine ⟨?_, by rw [World.frozen?_setCell]; exact (h i hi).2⟩
  rw [World.cell?_setCell_other _ _ _ _ (fun he => hne (by injection he))]
  exact (h i hi).1

theorem Row.congr {w : World} {B n : Nat} {f g : Nat → Value} (h : Row w B n f) (e : ∀ i, i < n → f i = g i) : Row w B n g := fun i hi => by rw [← e i hi]; exact h i hi

theorem Row.le {w : World} {B n m : Nat} {f : Nat → Value} (h : Row w B n f) (hm : m ≤ n) : Row w B m f := fun i hi => h i (by omega)

theorem made_get (z : Array Value) (n i : Nat) (hi : i < n) : (madeCells z n)[i]? = some (z[i % z.size]!) := by
  simp [madeCells, hi]

theorem Row.made (w : World) (z : Array Value) (n : Nat) (e : TypeId) : Row (w.alloc (.cells (madeCells z n) e)) w.heap.size n (fun i => z[i % z.size]!) := fun i hi => by
  refine ⟨?_, World.frozen?_alloc_at _ _ _ _ rfl⟩
  rw [World.cell?_alloc_at _ _ _ _ rfl, made_get _ _ _ hi]

theorem below_alloc (w : World) (o : Obj) : Below w.heap.size w (w.alloc o) := (Below.refl _ _).alloc (Nat.le_refl _) o

/-- What holds below a later size holds below an earlier one. -/
theorem below_trans {a b c : World} (h : Below a.heap.size a b) (k : Below b.heap.size b c) : Below a.heap.size a c := h.trans (k.mono h.size)

theorem ret_int {k : IntKind} {a b : Int} (h : a = b) : Ending.returned (.int k a) = .returned (.int k b) := by rw [h]
end Go.Kx
