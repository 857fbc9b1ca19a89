import Derived.Test.Qxb6609005aLaw
import Derived.Deep.Strs
import Derived.Deep.SlicePairs
import Derived.ProofKit
import Derived.ShutString
namespace Go.Proofs.Qxb6609005a
open Go.RowKit Go.Kx Go.Kn Go.ChangeShapes Go.WideShapes Go.ChangeAt
theorem add_at {W : World} {a : Addr} {v : Value} (h : W.cell? (a.add 0) = some v) : ∃ b off, a = ⟨b, off, none⟩ := by
  obtain ⟨b, off, sp⟩ := a
  have hsp : sp = none := by
    unfold World.cell? at h
    split at h
    · simp [Addr.add] at h
      exact h.1
    · cases h
  subst hsp
  exact ⟨b, off, rfl⟩
theorem add_off {b off i : Nat} : (⟨b, off, none⟩ : Addr).add i = ⟨b, off + i, none⟩ := by
  by_cases h0 : i = 0
  · subst h0; rfl
  · simp [Addr.add, h0]
theorem u32_of {x : Int} (h : (Lit.int .u32 x).wf = true) : 0 ≤ x ∧ x < 4294967296 := by
  simp [Lit.wf, IntKind.min, IntKind.max, IntKind.signed, IntKind.bits] at h
  exact ⟨by omega, by omega⟩
section
variable {H : Type} {enc : TypeId × Value → H} {W : World}
theorem view_names {a : Option Addr} {n c : Nat} {d : DataW H} {p : List MemPlace} (h : DataW.Trod enc Try.prog W 0 (fun _ => true) true 22 (.slice a n c) d p) :
    ∃ nm : Nat → ByteArray, n ≤ maxLen ∧ (∀ i, i < n → (nm i).size ≤ maxLen) ∧ Nms W a n nm := by
  obtain ⟨fuel, hf⟩ := h
  rcases Deep.open_strs Try.underlying22 Try.underlying9 (by kernel_rfl) hf with ⟨hcs, _⟩ | ⟨x, len, cap, m, Sx, hcs, _, hl, hm, hmm, _, hx⟩
  · simp [Value.cells] at hcs
    obtain ⟨rfl, rfl, rfl⟩ := hcs
    exact ⟨fun _ => ByteArray.empty, Nat.zero_le _, fun i h => absurd h (Nat.not_lt_zero _), fun i h => absurd h (Nat.not_lt_zero _)⟩
  · simp [Value.cells] at hcs
    obtain ⟨rfl, rfl, rfl⟩ := hcs
    simp only [if_true] at hmm
    refine ⟨Sx, by omega, fun i hi => (hx i (by omega)).2, fun i hi => ?_⟩
    have h0 := (hx 0 (by omega)).1
    obtain ⟨b, off, rfl⟩ := add_at h0
    exact ⟨b, off, rfl, by rw [← add_off]; exact (hx i (by omega)).1⟩
theorem view_known {v : Value} {fuel : Nat} {x : DataW H × List MemPlace} (h : DataW.trod enc Try.prog W 0 (fun _ => true) true fuel 25 [v] = some x) :
    ∃ (ka : Option Addr) (kl kc : Nat) (kh kn : Nat → Nat), v = .slice ka kl kc ∧ kl ≤ maxLen ∧ (∀ t, t < kl → kh t < 4294967296 ∧ kn t < 4294967296) ∧
      (∀ t, t < kl → ∃ b off, ka = some ⟨b, off, none⟩ ∧ W.cell? ⟨b, off + t * 2, none⟩ = some (.int .u32 (kh t)) ∧ W.cell? ⟨b, off + t * 2 + 1, none⟩ = some (.int .u32 (kn t))) := by
  rcases Deep.open_slice_pairs Try.underlying25 Try.underlying67 (by kernel_rfl) rfl rfl (by kernel_rfl) (by kernel_rfl) h with ⟨hcs, _⟩ | ⟨a, len, cap, m, n, V0, V1, D0, D1, P0, P1, hcs, _, hl, hm, hmm, _, hx⟩
  · simp only [List.cons.injEq, and_true] at hcs
    subst hcs
    exact ⟨none, 0, 0, fun _ => 0, fun _ => 0, rfl, Nat.zero_le _, fun t h => absurd h (Nat.not_lt_zero _), fun t h => absurd h (Nat.not_lt_zero _)⟩
  · simp only [List.cons.injEq, and_true] at hcs
    subst hcs
    simp only [if_true] at hmm
    have each : ∀ t, t < len → ∃ x y : Nat, x < 4294967296 ∧ y < 4294967296 ∧ V0 t = .int .u32 x ∧ V1 t = .int .u32 y := fun t ht => by
      obtain ⟨_, _, h0, h1⟩ := hx t (by omega)
      obtain ⟨z0, e0, _, w0⟩ := DataW.trod_int Try.underlying24 h0
      obtain ⟨z1, e1, _, w1⟩ := DataW.trod_int Try.underlying24 h1
      simp only [List.cons.injEq, and_true] at e0 e1
      have u0 := u32_of w0
      have u1 := u32_of w1
      refine ⟨z0.toNat, z1.toNat, by omega, by omega, ?_, ?_⟩
      · rw [e0]; congr 1; omega
      · rw [e1]; congr 1; omega
    refine ⟨some a, len, cap, fun t => if h : t < len then (each t h).choose else 0, fun t => if h : t < len then (each t h).choose_spec.choose else 0, rfl, by omega, fun t ht => ?_, fun t ht => ?_⟩
    · have hs := (each t ht).choose_spec.choose_spec
      simp only [ht, dif_pos]
      exact ⟨hs.1, hs.2.1⟩
    · have hs := (each t ht).choose_spec.choose_spec
      simp only [ht, dif_pos]
      obtain ⟨b, off, rfl⟩ := add_at (hx 0 (by omega)).1
      refine ⟨b, off, rfl, ?_, ?_⟩
      · rw [← hs.2.2.1, ← add_off]; exact (hx t (by omega)).1
      · rw [← hs.2.2.2, Nat.add_assoc, ← add_off]; exact (hx t (by omega)).2.1
theorem array6 {α : Type} {cs : Array α} (h : cs.size = 6) : ∃ c0 c1 c2 c3 c4 c5, cs = #[c0, c1, c2, c3, c4, c5] := by
  obtain ⟨l⟩ := cs
  match l, h with
  | [c0, c1, c2, c3, c4, c5], _ => exact ⟨c0, c1, c2, c3, c4, c5, rfl⟩
theorem cells27 : Try.prog.cellsOf 27 = 6 := by kernel_rfl
set_option maxRecDepth 100000 in
theorem view_event {r : Reach} {b0 : Nat} {v : Value} {d : DataW H} {p : List MemPlace} (hv : Value.okWide Try.prog W r b0 27 v) (h : DataW.Trod enc Try.prog W 0 (fun _ => true) true 27 v d p) :
    ∃ (s : ByteArray) (lam : Int) (z : Bool) (c : Ck) (ka : Option Addr) (kc : Nat), v = Evv s lam z c ka kc ∧ s.size ≤ maxLen ∧ c.kl ≤ maxLen ∧ (c.kl ≤ 1048576 → Fits c) ∧ Knw W ka c := by
  obtain ⟨cs, rfl, hsz⟩ := okWide_struct Try.underlying27 hv
  obtain ⟨c0, c1, c2, c3, c4, c5, rfl⟩ := array6 (hsz.trans cells27)
  obtain ⟨fuel, hf⟩ := h
  obtain ⟨xs, m, _, _, hl, hlen, hfs⟩ := DataW.trod_struct Try.underlying27 hf
  match xs, hlen with
  | [y0, y1, y2, y3, y4, y5], _ =>
    have t9 : Try.prog.cellsOf 9 = 1 := by kernel_rfl
    have t23 : Try.prog.cellsOf 23 = 1 := by kernel_rfl
    have t4 : Try.prog.cellsOf 4 = 1 := by kernel_rfl
    have t24 : Try.prog.cellsOf 24 = 1 := by kernel_rfl
    have t25 : Try.prog.cellsOf 25 = 1 := by kernel_rfl
    have g0 := hfs 0 _ rfl
    have g1 := hfs 1 _ rfl
    have g2 := hfs 2 _ rfl
    have g3 := hfs 3 _ rfl
    have g4 := hfs 4 _ rfl
    have g5 := hfs 5 _ rfl
    simp [Value.cells, t9, t23, t4, t24, t25] at g0 g1 g2 g3 g4 g5
    obtain ⟨s, e0, _, ws⟩ := DataW.trod_string Try.underlying9 g0
    obtain ⟨lam, e1, _, _⟩ := DataW.trod_int Try.underlying23 g1
    obtain ⟨z, e2, _⟩ := DataW.trod_bool Try.underlying4 g2
    obtain ⟨o, e3, _, wo⟩ := DataW.trod_int Try.underlying24 g3
    obtain ⟨k, e4, _, wk⟩ := DataW.trod_int Try.underlying24 g4
    obtain ⟨ka, kl, kc, kh, kn, e5, wl, wv, hk⟩ := view_known g5
    simp only [List.cons.injEq, and_true] at e0 e1 e2 e3 e4
    subst e0 e1 e2 e3 e4 e5
    have uo := u32_of wo
    have uk := u32_of wk
    refine ⟨s, lam, z, ⟨o.toNat, k.toNat, kl, kh, kn⟩, ka, kc, ?_, ws, wl, fun hk2 => ⟨by show o.toNat < _; omega, by show k.toNat < _; omega, hk2, fun t ht => (wv t ht).1, fun t ht => (wv t ht).2⟩, hk⟩
    unfold Evv
    have e1 : ((o.toNat : Nat) : Int) = o := by omega
    have e2 : ((k.toNat : Nat) : Int) = k := by omega
    simp only [e1, e2]
end
end Go.Proofs.Qxb6609005a
