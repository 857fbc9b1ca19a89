import Derived.Test.Qxb6609005aDoorLaw3
import Derived.Deep.Matrix
import Derived.ProofKit
import Derived.LaidMore
import Derived.Lib.LaidTab
import Derived.Stop.Joined
/-! The arguments of the two laws, opened; the listed table. -/
namespace Go.Proofs.Qxb6609005aDoor
open Go.RowKit Go.Kx Go.ChangeShapes Go.WideShapes Go.ChangeAt
theorem u64_of {x : Int} (h : (Lit.int .u64 x).wf = true) : 0 ≤ x ∧ x < 18446744073709551616 := by
  simp [Lit.wf, IntKind.min, IntKind.max, IntKind.signed, IntKind.bits] at h
  exact ⟨by omega, by omega⟩
theorem add_at {W : World} {a : Addr} {v : Value} (h : W.cell? (a.add 0) = some v) : ∃ b off, a = ⟨b, off, none⟩ := by
  obtain ⟨b, off, sp⟩ := a
  have hsp : sp = none := by
    unfold World.cell? at h
    split at h
    · simp [Addr.add] at h
      exact h.1
    · cases h
  subst hsp
  exact ⟨b, off, rfl⟩
theorem add_off {b off i : Nat} : (⟨b, off, none⟩ : Addr).add i = ⟨b, off + i, none⟩ := by
  by_cases h0 : i = 0
  · subst h0; rfl
  · simp [Addr.add, h0]
section
variable {H : Type} {enc : TypeId × Value → H} {P : Program} {W : World}
theorem view_rows {t e q : TypeId} {a : Option Addr} {n c : Nat} {d : DataW H} {p : List MemPlace} (ht : P.underlying t = some (.slice e)) (he : P.underlying e = some (.slice q)) (hq : P.underlying q = some (.int .u64))
    (ce : P.cellsOf e = 1) (cq : P.cellsOf q = 1) (h : DataW.Trod enc P W 0 (fun _ => true) true t (.slice a n c) d p) :
    ∃ (A : Nat → Option Addr) (L C : Nat → Nat) (z : Nat → Nat → Nat), n ≤ maxLen ∧ (0 < n → ∃ b off, a = some ⟨b, off, none⟩ ∧ Rws W b off n A L C) ∧ (∀ i, i < n → Sl W (A i) (L i) (fun k => .int .u64 (z i k))) ∧
      ∀ i k, i < n → k < L i → z i k < 18446744073709551616 := by
  obtain ⟨fuel, hf⟩ := h
  rcases Deep.open_int_rows ht he hq ce cq hf with ⟨hcs, _⟩ | ⟨x, len, cap, A, L, C, Z, hcs, _, hl, hm, _, hr⟩
  · simp [Value.cells] at hcs
    obtain ⟨rfl, rfl, rfl⟩ := hcs
    exact ⟨fun _ => none, fun _ => 0, fun _ => 0, fun _ _ => 0, Nat.zero_le _, fun h => absurd h (Nat.lt_irrefl _), fun i h => absurd h (Nat.not_lt_zero _), fun i k h => absurd h (Nat.not_lt_zero _)⟩
  · simp [Value.cells] at hcs
    obtain ⟨rfl, rfl, rfl⟩ := hcs
    have hwz : ∀ i k, i < n → k < L i → 0 ≤ (Z i).getD k 0 ∧ (Z i).getD k 0 < 18446744073709551616 := fun i k hi hk => by
      obtain ⟨_, h2, _, h4, h5, _⟩ := hr i (by omega)
      refine u64_of (h5 _ ?_)
      rw [List.getD_eq_getElem?_getD, List.getElem?_eq_getElem (by omega), Option.getD_some]
      exact List.getElem_mem _
    refine ⟨A, L, C, fun i k => ((Z i).getD k 0).toNat, by omega, fun h0 => ?_, fun i hi k hk => ?_, fun i k hi hk => by have := hwz i k hi hk; show ((Z i).getD k 0).toNat < _; omega⟩
    · obtain ⟨b, off, rfl⟩ := add_at (hr 0 (by omega)).1
      refine ⟨b, off, rfl, fun i hi => ⟨?_, ?_⟩⟩
      · rw [← add_off]; exact (hr i (by omega)).1
      · obtain ⟨_, h2, h3, _⟩ := hr i (by omega)
        omega
    · obtain ⟨_, h2, _, h4, _, h6, h7⟩ := hr i (by omega)
      cases hA : A i with
      | none => have := h6 hA; omega
      | some a' =>
        have h8 := (h7 a' hA).2
        obtain ⟨b, off, rfl⟩ := add_at (h8 0 (by omega))
        refine ⟨b, off, rfl, ?_⟩
        rw [← add_off, h8 k (by omega)]
        have := hwz i k hi hk
        show some (Value.int .u64 ((Z i).getD k 0)) = some (Value.int .u64 (((Z i).getD k 0).toNat : Int))
        rw [Int.toNat_of_nonneg this.1]
end

/-! ### The listed table -/
def zs : List Int := Lib.deBruijn64tab.map (fun (n : Nat) => (n : Int))
theorem tab_eq : (Rows.laid_math_bits_deBruijn64tab : DataW Unit) = Lib.tabData .u8 zs := by kernel_rfl
theorem gTab : Tryd.prog.globalNamed (Rows.fnMarksNextIsFirstMarkAtOrAfterPosRow.named.headD "") = some 0 := by kernel_rfl
theorem tTab : (Tryd.prog.globals[0]?).map (·.type) = some 36 := by kernel_rfl
theorem zs_len : zs.length = 64 := by decide +kernel
theorem zs_at : ∀ j, j < 64 → zs.getD j 0 = (Lib.deBruijn64tab.getD j 0 : Nat) := by decide +kernel
theorem tab_of {W : World} (h : laidMetH Tryd.prog Rows.fnMarksNextIsFirstMarkAtOrAfterPosRow.laid W) : Tab W := by
  rw [MakeChecks.laidMetH_plain _ _ _ (by kernel_rfl)] at h
  have h' : laidMet Tryd.prog ((Rows.fnMarksNextIsFirstMarkAtOrAfterPosRow.named.headD "", Lib.tabData .u8 zs) :: []) W := by
    rw [← tab_eq]; exact h
  have ht := Lib.tabIs_of_head gTab tTab Tryd.underlying36 Tryd.underlying5 (by kernel_rfl) (by kernel_rfl) h'
  intro j hj
  have := ht.cell gTab j (by rw [zs_len]; exact hj)
  rw [this, zs_at j hj]
theorem door_met (os : Os) (args : Array Value) : laidMetH Tryd.prog Rows.fnMarksNextIsFirstMarkAtOrAfterPosRow.laid ((World.doorLaid Tryd.prog 400 os).forCall (fun _ _ => 0) ⟨#[], args, []⟩).memory :=
  laidMetH_of_parts3 (fuel := 8) (laidMet_of_run' 8 (by kernel_rfl) (by kernel_rfl)) (by kernel_rfl) (by kernel_rfl)
end Go.Proofs.Qxb6609005aDoor
