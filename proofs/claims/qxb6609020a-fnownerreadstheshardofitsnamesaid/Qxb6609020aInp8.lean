import Derived.Test.Qxb6609020aLaw7
import Derived.Test.Qxb6609020aView
namespace Go.Proofs.Qxb6609020a
open Go.RowKit Go.Kx Go.ChangeShapes Go.WideShapes Go.ChangeAt
section
variable {H : Type} {enc : TypeId × Value → H} {W : World}
theorem view_names8 {a : Option Addr} {n c : Nat} {d : DataW H} {p : List MemPlace} (h : DataW.Trod enc Try.prog W 0 (fun _ => true) true 32 (.slice a n c) d p) : ∃ nm : Nat → ByteArray, RowS W nm a n := by
  obtain ⟨fuel, hf⟩ := h
  obtain ⟨a', n', c', z, e, hz⟩ := strs_of (v := .slice a n c) (by simpa [Value.cells] using hf)
  cases e
  exact ⟨z, hz⟩
theorem view_bytes {a : Option Addr} {n c : Nat} {d : DataW H} {p : List MemPlace} (h : DataW.Trod enc Try.prog W 0 (fun _ => true) true 41 (.slice a n c) d p) : ∃ z : Nat → Int, n ≤ maxLen ∧ Zb W a n z := by
  obtain ⟨fuel, hf⟩ := h
  rcases open_ints Try.underlying41 Try.underlying5 (by kernel_rfl) hf with ⟨hcs, _⟩ | ⟨a', len, cap, zs, hcs, _, hl, hm, hz, _, hcell, hw⟩
  · simp [Value.cells] at hcs
    obtain ⟨rfl, rfl, rfl⟩ := hcs
    exact ⟨fun _ => 0, Nat.zero_le _, fun i h => absurd h (Nat.not_lt_zero _)⟩
  · simp [Value.cells] at hcs
    obtain ⟨rfl, rfl, rfl⟩ := hcs
    simp only [if_true] at hz
    refine ⟨fun i => zs.getD i 0, by omega, fun i hi => ?_⟩
    obtain ⟨b, off, rfl⟩ := add_at (hcell 0 (by omega))
    exact ⟨b, off, rfl, by rw [← add_off]; exact hcell i (by omega)⟩
theorem view_bools {a : Option Addr} {n c : Nat} {d : DataW H} {p : List MemPlace} (h : DataW.Trod enc Try.prog W 0 (fun _ => true) true 42 (.slice a n c) d p) : ∃ z : Nat → Bool, n ≤ maxLen ∧ Bo W a n z := by
  obtain ⟨fuel, hf⟩ := h
  rcases Deep.open_slice1 Try.underlying42 (by kernel_rfl) hf with ⟨hcs, _⟩ | ⟨x, len, cap, m, n', V, D, Pl, hcs, hb, hl, hm, hmm, _, hx⟩
  · simp [Value.cells] at hcs
    obtain ⟨rfl, rfl, rfl⟩ := hcs
    exact ⟨fun _ => false, Nat.zero_le _, fun i h => absurd h (Nat.not_lt_zero _)⟩
  · simp [Value.cells] at hcs
    obtain ⟨rfl, rfl, rfl⟩ := hcs
    simp only [if_true] at hmm
    have each : ∀ i, i < n → ∃ y : Bool, V i = .bool y := fun i hi => by
      obtain ⟨y, e, _⟩ := DataW.trod_bool Try.underlying4 (hx i (by omega)).2
      simp only [List.cons.injEq, and_true] at e
      exact ⟨y, e⟩
    obtain ⟨Y, hY⟩ := Deep.choose_lt each
    refine ⟨Y, by omega, fun i hi => ?_⟩
    obtain ⟨b, off, rfl⟩ := add_at (hx 0 (by omega)).1
    refine ⟨b, off, rfl, ?_⟩
    rw [← add_off, (hx i (by omega)).1, hY i hi]
theorem u16_of {x : Int} (h : (Lit.int .u16 x).wf = true) : ∃ t : Nat, x = (t : Int) ∧ t < 65536 := by
  simp [Lit.wf, IntKind.min, IntKind.max, IntKind.signed, IntKind.bits] at h
  exact ⟨x.toNat, by omega, by omega⟩
end
end Go.Proofs.Qxb6609020a
