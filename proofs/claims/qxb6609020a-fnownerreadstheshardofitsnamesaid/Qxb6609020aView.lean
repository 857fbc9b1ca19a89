import Derived.Test.Qxb6609020aCells
import Derived.Deep.Strs
import Derived.ProofKit
import Derived.ShutString
namespace Go.Proofs.Qxb6609020a
open Go.RowKit Go.Kx Go.ChangeShapes Go.WideShapes Go.ChangeAt
theorem add_at {W : World} {a : Addr} {v : Value} (h : W.cell? (a.add 0) = some v) : ∃ b off, a = ⟨b, off, none⟩ := by
  obtain ⟨b, off, sp⟩ := a
  have hsp : sp = none := by
    unfold World.cell? at h
    split at h
    · simp [Addr.add] at h
      exact h.1
    · cases h
  subst hsp
  exact ⟨b, off, rfl⟩
theorem add_off {b off i : Nat} : (⟨b, off, none⟩ : Addr).add i = ⟨b, off + i, none⟩ := by
  by_cases h0 : i = 0
  · subst h0; rfl
  · simp [Addr.add, h0]
section
variable {H : Type} {enc : TypeId × Value → H} {W : World}
/-- One row of numbers. -/
def RowZ (W : World) (z : Nat → Int) (a : Option Addr) (n : Nat) : Prop := n ≤ maxLen ∧ (a = none → n = 0) ∧ Zs W a n z ∧ ∀ i, i < n → (Lit.int .i64 (z i)).wf = true
/-- One row of strings. -/
def RowS (W : World) (nm : Nat → ByteArray) (a : Option Addr) (n : Nat) : Prop := n ≤ maxLen ∧ (a = none → n = 0) ∧ Nms W a n nm ∧ ∀ i, i < n → (nm i).size ≤ maxLen
theorem ints_of {fuel : Nat} {v : Value} {x : DataW H × List MemPlace} (h : DataW.trod enc Try.prog W 0 (fun _ => true) true fuel 23 [v] = some x) : ∃ (a : Option Addr) (n c : Nat) (z : Nat → Int), v = .slice a n c ∧ RowZ W z a n := by
  rcases open_ints Try.underlying23 Try.underlying2 (by kernel_rfl) h with ⟨hcs, _⟩ | ⟨a, len, cap, zs, hcs, _, hl, hm, hz, _, hcell, hw⟩
  · simp only [List.cons.injEq, and_true] at hcs
    subst hcs
    exact ⟨none, 0, 0, fun _ => 0, rfl, Nat.zero_le _, fun _ => rfl, fun i h => absurd h (Nat.not_lt_zero _), fun i h => absurd h (Nat.not_lt_zero _)⟩
  · simp only [List.cons.injEq, and_true] at hcs
    subst hcs
    simp only [if_true] at hz
    refine ⟨some a, len, cap, fun i => zs.getD i 0, rfl, by omega, (fun h => by cases h), fun i hi => ?_, fun i hi => hw _ ?_⟩
    · obtain ⟨b, off, rfl⟩ := add_at (hcell 0 (by omega))
      exact ⟨b, off, rfl, by rw [← add_off]; exact hcell i (by omega)⟩
    · show zs.getD i 0 ∈ zs
      rw [List.getD_eq_getElem?_getD, List.getElem?_eq_getElem (by omega), Option.getD_some]
      exact List.getElem_mem _
theorem strs_of {fuel : Nat} {v : Value} {x : DataW H × List MemPlace} (h : DataW.trod enc Try.prog W 0 (fun _ => true) true fuel 32 [v] = some x) : ∃ (a : Option Addr) (n c : Nat) (nm : Nat → ByteArray), v = .slice a n c ∧ RowS W nm a n := by
  rcases Deep.open_strs Try.underlying32 Try.underlying9 (by kernel_rfl) h with ⟨hcs, _⟩ | ⟨x, len, cap, m, Sx, hcs, _, hl, hm, hmm, _, hx⟩
  · simp only [List.cons.injEq, and_true] at hcs
    subst hcs
    exact ⟨none, 0, 0, fun _ => ByteArray.empty, rfl, Nat.zero_le _, fun _ => rfl, fun i h => absurd h (Nat.not_lt_zero _), fun i h => absurd h (Nat.not_lt_zero _)⟩
  · simp only [List.cons.injEq, and_true] at hcs
    subst hcs
    simp only [if_true] at hmm
    refine ⟨some x, len, cap, Sx, rfl, by omega, (fun h => by cases h), fun i hi => ?_, fun i hi => (hx i (by omega)).2⟩
    obtain ⟨b, off, rfl⟩ := add_at (hx 0 (by omega)).1
    exact ⟨b, off, rfl, by rw [← add_off]; exact (hx i (by omega)).1⟩
theorem rows_of {t e : TypeId} {α : Type} [Inhabited α] {q : α → Option Addr → Nat → Prop} (ht : Try.prog.underlying t = some (.slice e)) (ce : Try.prog.cellsOf e = 1)
    (each : ∀ (fuel : Nat) (v : Value) (x : DataW H × List MemPlace), DataW.trod enc Try.prog W 0 (fun _ => true) true fuel e [v] = some x → ∃ (a : Option Addr) (n c : Nat) (y : α), v = .slice a n c ∧ q y a n)
    {a : Option Addr} {n c : Nat} {d : DataW H} {p : List MemPlace} (h : DataW.Trod enc Try.prog W 0 (fun _ => true) true t (.slice a n c) d p) :
    ∃ (A : Nat → Option Addr) (L C : Nat → Nat) (Y : Nat → α), n ≤ maxLen ∧ (a = none → n = 0) ∧ Rw W a n A L C ∧ ∀ i, i < n → q (Y i) (A i) (L i) := by
  obtain ⟨fuel, hf⟩ := h
  rcases Deep.open_slice1 ht ce hf with ⟨hcs, _⟩ | ⟨x, len, cap, m, n', V, D, Pl, hcs, hb, hl, hm, hmm, _, hx⟩
  · simp [Value.cells] at hcs
    obtain ⟨rfl, rfl, rfl⟩ := hcs
    exact ⟨fun _ => none, fun _ => 0, fun _ => 0, fun _ => default, Nat.zero_le _, fun _ => rfl, fun i h => absurd h (Nat.not_lt_zero _), fun i h => absurd h (Nat.not_lt_zero _)⟩
  · simp [Value.cells] at hcs
    obtain ⟨rfl, rfl, rfl⟩ := hcs
    simp only [if_true] at hmm
    have each' : ∀ i, i < n → ∃ y : Option Addr × Nat × Nat × α, V i = .slice y.1 y.2.1 y.2.2.1 ∧ q y.2.2.2 y.1 y.2.1 := fun i hi => by
      obtain ⟨a, n, c, y, h1, h2⟩ := each _ _ _ (hx i (by omega)).2
      exact ⟨(a, n, c, y), h1, h2⟩
    obtain ⟨Y, hY⟩ := Deep.choose_lt each'
    refine ⟨fun i => (Y i).1, fun i => (Y i).2.1, fun i => (Y i).2.2.1, fun i => (Y i).2.2.2, by omega, (fun h => by cases h), fun i hi => ?_, fun i hi => (hY i hi).2⟩
    obtain ⟨b, off, rfl⟩ := add_at (hx 0 (by omega)).1
    refine ⟨b, off, rfl, ?_⟩
    rw [← add_off, (hx i (by omega)).1, (hY i hi).1]
end
end Go.Proofs.Qxb6609020a
