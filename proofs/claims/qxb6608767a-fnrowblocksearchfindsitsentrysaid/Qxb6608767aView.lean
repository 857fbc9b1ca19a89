import Derived.Test.Qxb6608767aEarly
import Derived.Deep.Strs
import Derived.ProofKit
/-! The seat's own small kit (3): what a slice that came in is to the walk. -/
namespace Go.Proofs.Qxb6608767a
open Go.RowKit Go.Kx Go.ChangeShapes Go.WideShapes Go.ChangeAt
section
variable {H : Type} {enc : TypeId × Value → H} {P : Program} {W : World}

theorem view_strs {t e : TypeId} {a : Option Addr} {n c : Nat} {d : DataW H} {p : List MemPlace} (ht : P.underlying t = some (.slice e)) (he : P.underlying e = some .string) (hc : P.cellsOf e = 1)
    (h : DataW.Trod enc P W 0 (fun _ => true) true t (.slice a n c) d p) :
    ∃ nm : Nat → ByteArray, (a = none → n = 0 ∧ c = 0) ∧ n ≤ maxLen ∧ (∀ i, i < n → (nm i).size ≤ maxLen) ∧ Sl W a n (fun i => .string (nm i)) := by
  obtain ⟨fuel, hf⟩ := h
  rcases Deep.open_strs ht he hc hf with ⟨hcs, _⟩ | ⟨x, len, cap, m, Sx, hcs, _, hl, hm, hmm, _, hx⟩
  · simp [Value.cells] at hcs
    obtain ⟨rfl, rfl, rfl⟩ := hcs
    exact ⟨fun _ => ByteArray.empty, fun _ => ⟨rfl, rfl⟩, Nat.zero_le _, fun i h => absurd h (Nat.not_lt_zero _), fun i h => absurd h (Nat.not_lt_zero _)⟩
  · simp [Value.cells] at hcs
    obtain ⟨rfl, rfl, rfl⟩ := hcs
    simp only [if_true] at hmm
    exact ⟨Sx, fun h => (by cases h), by omega, fun i hi => (hx i (by omega)).2, fun i hi => ⟨x, rfl, (hx i (by omega)).1⟩⟩

theorem view_ints {t e : TypeId} {k : IntKind} {a : Option Addr} {n c : Nat} {d : DataW H} {p : List MemPlace} (ht : P.underlying t = some (.slice e)) (he : P.underlying e = some (.int k)) (hc : P.cellsOf e = 1)
    (h : DataW.Trod enc P W 0 (fun _ => true) true t (.slice a n c) d p) :
    ∃ z : Nat → Int, (a = none → n = 0 ∧ c = 0) ∧ n ≤ maxLen ∧ (∀ i, i < n → (Lit.int k (z i)).wf = true) ∧ Sl W a n (fun i => .int k (z i)) := by
  obtain ⟨fuel, hf⟩ := h
  rcases open_ints ht he hc hf with ⟨hcs, _⟩ | ⟨x, len, cap, zs, hcs, _, hl, hm, hz, _, hcell, hwz⟩
  · simp [Value.cells] at hcs
    obtain ⟨rfl, rfl, rfl⟩ := hcs
    exact ⟨fun _ => 0, fun _ => ⟨rfl, rfl⟩, Nat.zero_le _, fun i h => absurd h (Nat.not_lt_zero _), fun i h => absurd h (Nat.not_lt_zero _)⟩
  · simp [Value.cells] at hcs
    obtain ⟨rfl, rfl, rfl⟩ := hcs
    simp only [if_true] at hz
    refine ⟨fun i => zs.getD i 0, fun h => (by cases h), by omega, fun i hi => ?_, fun i hi => ⟨x, rfl, hcell i (by omega)⟩⟩
    refine hwz _ ?_
    show zs.getD i 0 ∈ zs
    rw [List.getD_eq_getElem?_getD, List.getElem?_eq_getElem (by omega), Option.getD_some]
    exact List.getElem_mem _

/-- Where a slice has an element its address is plain. -/
theorem Sl.plain {a : Option Addr} {n : Nat} {f : Nat → Value} (h : Sl W a n f) (hn : 0 < n) : ∃ b off, a = some ⟨b, off, none⟩ ∧ ∀ i, i < n → W.cell? ⟨b, off + i, none⟩ = some (f i) := by
  obtain ⟨ad, rfl, hc⟩ := h 0 hn
  obtain ⟨b, off, sp⟩ := ad
  have hsp : sp = none := by
    unfold World.cell? at hc
    split at hc
    · simp [Addr.add] at hc
      exact hc.1
    · cases hc
  subst hsp
  refine ⟨b, off, rfl, fun i hi => ?_⟩
  obtain ⟨ad', e, hc'⟩ := h i hi
  cases e
  rw [← hc']
  by_cases h0 : i = 0
  · subst h0; rfl
  · simp [Addr.add, h0]
end
end Go.Proofs.Qxb6608767a
