import Derived.Test.Qxb6609020aLaw5
import Derived.Test.Qxb6609020aView
namespace Go.Proofs.Qxb6609020a
open Go.RowKit Go.Kx Go.ChangeShapes Go.WideShapes Go.ChangeAt
section
variable {H : Type} {enc : TypeId × Value → H} {W : World}
theorem view_ints {a : Option Addr} {n c : Nat} {d : DataW H} {p : List MemPlace} (h : DataW.Trod enc Try.prog W 0 (fun _ => true) true 23 (.slice a n c) d p) : ∃ z : Nat → Int, RowZ W z a n := by
  obtain ⟨fuel, hf⟩ := h
  obtain ⟨a', n', c', z, e, hz⟩ := ints_of (v := .slice a n c) (by simpa [Value.cells] using hf)
  cases e
  exact ⟨z, hz⟩
theorem view_strs {a : Option Addr} {n c : Nat} {d : DataW H} {p : List MemPlace} (h : DataW.Trod enc Try.prog W 0 (fun _ => true) true 32 (.slice a n c) d p) : ∃ nm : Nat → ByteArray, RowS W nm a n := by
  obtain ⟨fuel, hf⟩ := h
  obtain ⟨a', n', c', z, e, hz⟩ := strs_of (v := .slice a n c) (by simpa [Value.cells] using hf)
  cases e
  exact ⟨z, hz⟩
theorem inp_of {a0 a1 a2 : Option Addr} {n0 n1 n2 c0 c1 c2 : Nat} {d0 d1 d2 : DataW H} {p0 p1 p2 : List MemPlace} (h0 : DataW.Trod enc Try.prog W 0 (fun _ => true) true 23 (.slice a0 n0 c0) d0 p0)
    (h1 : DataW.Trod enc Try.prog W 0 (fun _ => true) true 24 (.slice a1 n1 c1) d1 p1) (h2 : DataW.Trod enc Try.prog W 0 (fun _ => true) true 25 (.slice a2 n2 c2) d2 p2) :
    ∃ (fz : Nat → Int) (KA : Nat → Option Addr) (KL KC : Nat → Nat) (km : Nat → Nat → ByteArray) (VA : Nat → Option Addr) (VL VC : Nat → Nat) (vz : Nat → Nat → Int), Inp W a0 n0 fz a1 n1 KA KL KC km a2 n2 VA VL VC vz := by
  obtain ⟨fz, hfl, _, hF, _⟩ := view_ints h0
  obtain ⟨KA, KL, KC, km, hn, k0, hK, hKr⟩ := rows_of (α := Nat → ByteArray) (q := RowS W) Try.underlying24 (by kernel_rfl) (fun _ _ _ h => strs_of h) h1
  obtain ⟨VA, VL, VC, vz, hm, _, hV, hVr⟩ := rows_of (α := Nat → Int) (q := RowZ W) Try.underlying25 (by kernel_rfl) (fun _ _ _ h => ints_of h) h2
  refine ⟨fz, KA, KL, KC, km, fun i => if i < n2 then VA i else none, fun i => if i < n2 then VL i else 0, fun i => if i < n2 then VC i else 0, vz, hfl, hn, hm, hF, k0, hK, fun i hi => (hKr i hi).2.2.1, fun i hi => (hKr i hi).1, fun i hi => (hKr i hi).2.1, fun i j hi hj => (hKr i hi).2.2.2 j hj, ?_, ?_, ?_, ?_, ?_⟩
  · intro i hi
    obtain ⟨b, off, e, hc⟩ := hV i hi
    refine ⟨b, off, e, ?_⟩
    simp only [if_pos hi]
    exact hc
  · intro i hi
    simp only [if_neg (Nat.not_lt.2 hi)]
    exact ⟨trivial, trivial, trivial⟩
  · intro i hi
    simp only [if_pos hi]
    exact (hVr i hi).1
  · intro i
    by_cases hi : i < n2
    · simp only [if_pos hi]
      exact (hVr i hi).2.2.1
    · simp only [if_neg hi]
      exact fun j hj => absurd hj (Nat.not_lt_zero _)
  · intro i j hj
    by_cases hi : i < n2
    · simp only [if_pos hi] at hj
      exact (hVr i hi).2.2.2 j hj
    · simp only [if_neg hi] at hj
      exact absurd hj (Nat.not_lt_zero _)
theorem i64_of {x : Int} (h : (Lit.int .i64 x).wf = true) : -9223372036854775808 ≤ x ∧ x ≤ 9223372036854775807 := by
  simp [Lit.wf, IntKind.min, IntKind.max, IntKind.signed, IntKind.bits] at h
  exact ⟨by omega, by omega⟩
end
end Go.Proofs.Qxb6609020a
