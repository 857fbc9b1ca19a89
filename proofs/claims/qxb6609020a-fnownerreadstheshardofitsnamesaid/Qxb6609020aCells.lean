import Derived.Test.Qxb6609020aRows
import Derived.Test.Qxb6609020aMaps
import Derived.WalkKit
import Derived.ProofKit
import Derived.WalkSpells
import Derived.WalkSmall
import Derived.BigQuiet
import Derived.Deep.QuietTactic
import Derived.Sort.Walk0
namespace Go.Proofs.Qxb6609020a
open Go.RowKit Go.Kx Go.Maps Go.WideMaps Go.WideElems
theorem zero2 (w : World) : (zeroValue 2).run Try.prog w = .ok (.int .i64 0) w := by kernel_rfl
theorem mk_map (n : Int) (w : World) : (Instr.makeMap 37 (some (.int .i64 n))).run Try.prog w = .ok (.map (some w.heap.size)) (w.alloc (.map #[] 0)) := by
  simp [Instr.makeMap, run_underlying Try.underlying37, asInt, asIntOf, Result.andThen]
/-- Strings in memory. -/
def Nms (w : World) (na : Option Addr) (n : Nat) (nm : Nat → ByteArray) : Prop := ∀ i, i < n → ∃ b off, na = some ⟨b, off, none⟩ ∧ w.cell? ⟨b, off + i, none⟩ = some (.string (nm i))
theorem Nms.below {w w' : World} {na : Option Addr} {n : Nat} {nm : Nat → ByteArray} (h : Nms w na n nm) (hb : Below w.heap.size w w') : Nms w' na n nm := fun i hi => by
  obtain ⟨b, off, e, h1⟩ := h i hi
  exact ⟨b, off, e, (hb.cell (p := ⟨b, off + i, none⟩) (cell_lt h1)).trans h1⟩
/-- Numbers in memory. -/
def Zs (w : World) (na : Option Addr) (n : Nat) (z : Nat → Int) : Prop := ∀ i, i < n → ∃ b off, na = some ⟨b, off, none⟩ ∧ w.cell? ⟨b, off + i, none⟩ = some (.int .i64 (z i))
theorem Zs.below {w w' : World} {na : Option Addr} {n : Nat} {z : Nat → Int} (h : Zs w na n z) (hb : Below w.heap.size w w') : Zs w' na n z := fun i hi => by
  obtain ⟨b, off, e, h1⟩ := h i hi
  exact ⟨b, off, e, (hb.cell (p := ⟨b, off + i, none⟩) (cell_lt h1)).trans h1⟩
/-- Slices in memory. -/
def Rw (w : World) (a : Option Addr) (n : Nat) (A : Nat → Option Addr) (L C : Nat → Nat) : Prop := ∀ i, i < n → ∃ b off, a = some ⟨b, off, none⟩ ∧ w.cell? ⟨b, off + i, none⟩ = some (.slice (A i) (L i) (C i))
theorem Rw.below {w w' : World} {a : Option Addr} {n : Nat} {A : Nat → Option Addr} {L C : Nat → Nat} (h : Rw w a n A L C) (hb : Below w.heap.size w w') : Rw w' a n A L C := fun i hi => by
  obtain ⟨b, off, e, h1⟩ := h i hi
  exact ⟨b, off, e, (hb.cell (p := ⟨b, off + i, none⟩) (cell_lt h1)).trans h1⟩
/-- Element j of a slice of numbers; 0 behind its end. -/
def vat (L : Nat) (z : Nat → Int) (j : Nat) : Int := if j < L then z j else 0
/-- The pairs' map: the last pair of a key. -/
def mp (nm : Nat → ByteArray) (x : Nat → Int) : Nat → List UInt8 → Option Int
  | 0, _ => none
  | k + 1, u => if u = (nm k).data.toList then some (x k) else mp nm x k u
theorem mp_succ (nm : Nat → ByteArray) (x : Nat → Int) (k : Nat) (u : List UInt8) : mp nm x (k + 1) u = if u = (nm k).data.toList then some (x k) else mp nm x k u := rfl
theorem bytes_ext {a b : ByteArray} (h : a.data.toList = b.data.toList) : a = b := by
  cases a; cases b
  congr 1
  exact Array.ext' h
/-- A map value that holds f: nil, or one that was made. -/
def NM (w : World) (mv : Option Nat) (n : Nat) (f : List UInt8 → Option Int) : Prop := match mv with | none => ∀ u, f u = none | some mb => SMap Try.prog 9 2 .i64 w mb n f
theorem NM.below {w w' : World} {mv : Option Nat} {n : Nat} {f : List UInt8 → Option Int} (h : NM w mv n f) (hb : Below w.heap.size w w') : NM w' mv n f := by
  cases mv with
  | none => exact h
  | some mb => exact SMap.below (S := w.heap.size) h hb h.lt
theorem NM.look {w : World} {mv : Option Nat} {n : Nat} {f : List UInt8 → Option Int} (h : NM w mv n f) (s : ByteArray) (hs : s.size ≤ maxLen) :
    (Instr.lookup 37 (.map mv) (.string s) false).run Try.prog w = .ok (.int .i64 ((f s.data.toList).getD 0)) w := by
  cases mv with
  | none =>
    rw [show f s.data.toList = none from h _]
    simpa using Maps.look_nil (w := w) false (string_keyed Try.underlying9) Try.underlying37 (zero2 _) (keyOf_string_mk Try.underlying9 hs)
  | some mb => exact SMap.look h Try.underlying9 Try.underlying37 Try.underlying2 (zero2 w) s hs
theorem valsAt_any (va : Option Addr) (m vc : Nat) (A : Nat → Option Addr) (L C : Nat → Nat) (i : Nat) (w : World) (hR : Rw w va m A L C) (hout : ∀ i, m ≤ i → A i = none ∧ L i = 0 ∧ C i = 0) :
    Calls Try.prog 13 #[.slice va m vc, .int .i64 i] w fun e w' => e = .returned (.slice (A i) (L i) (C i)) ∧ w' = w := by
  by_cases h : i < m
  · obtain ⟨b, off, rfl, hc⟩ := hR i h
    clear hR hout
    go_enter Try.func13, Try.ntmps13
    go_wp2
    go_ret
    exact ⟨rfl, rfl⟩
  · obtain ⟨e1, e2, e3⟩ := hout i (by omega)
    rw [e1, e2, e3]
    clear hR hout e1 e2 e3
    go_enter Try.func13, Try.ntmps13
    go_wp2
    go_ret
    exact ⟨rfl, rfl⟩
set_option maxHeartbeats 1000000 in
theorem model_any (na : Option Addr) (n nc : Nat) (nm : Nat → ByteArray) (va : Option Addr) (vl vc : Nat) (z : Nat → Int) (s : ByteArray) (w : World) (hn : n ≤ maxLen) (hN : Nms w na n nm) (hZ : Zs w va vl z) :
    Calls Try.prog 12 #[.slice na n nc, .slice va vl vc, .string s] w fun e w' => e = .returned (.int .i64 ((mp nm (vat vl z) n s.data.toList).getD 0)) ∧ w' = w := by
  unfold maxLen at hn
  obtain ⟨r, hr⟩ : ∃ r, r = (mp nm (vat vl z) n s.data.toList).getD 0 := ⟨_, rfl⟩
  rw [← hr]
  go_enter Try.func12, Try.ntmps12
  have e1 : IntKind.i64.wrap ((n : Int) - 1) = (n : Int) - 1 := by simp [IntKind.wrap, IntKind.bits, IntKind.signed]; omega
  go_wp2
  go_loopw [7] (fun kk wr => ∃ k : Nat, kk = .int .i64 ((k : Int) - 1) ∧ k ≤ n ∧ r = (mp nm (vat vl z) k s.data.toList).getD 0 ∧ wr = w) (fun kk _ => (intOf kk + 1).toNat)
  case atStart => exact ⟨n, rfl, Nat.le_refl _, hr, rfl⟩
  case round =>
    obtain ⟨k, rfl, hk, hinv, rfl⟩ := hrel
    cases k with
    | zero =>
      have h0 : r = 0 := hinv
      clear hinv hr
      subst h0
      go_wp2
      go_ret
      exact ⟨rfl, rfl⟩
    | succ j =>
      obtain ⟨b, off, rfl, hc⟩ := hN j (by omega)
      have ej : ((j + 1 : Nat) : Int) - 1 = (j : Int) := by omega
      rw [ej]
      by_cases hv : nm j = s
      · have hrj : r = vat vl z j := by rw [hinv, mp_succ, if_pos (by rw [hv])]; rfl
        rw [hv] at hc
        clear hv hinv hr
        by_cases hj : j < vl
        · obtain ⟨b2, off2, rfl, hc2⟩ := hZ j hj
          unfold vat at hrj
          rw [if_pos hj] at hrj
          clear hN hZ
          subst hrj
          go_wp2
          go_ret
          exact ⟨rfl, rfl⟩
        · unfold vat at hrj
          rw [if_neg hj] at hrj
          clear hN hZ
          subst hrj
          go_wp2
          go_ret
          exact ⟨rfl, rfl⟩
      · have HI : Hid (r = (mp nm (vat vl z) j s.data.toList).getD 0) := by
          show r = _
          rw [hinv, mp_succ, if_neg (fun h => hv (bytes_ext h.symm))]
        have hvb : ((nm j).toList == s.toList) = false := beq_eq_false_iff_ne.2 (fun h => hv (bytes_ext (by rw [Lib.toList_data, Lib.toList_data] at h; exact h)))
        have e2 : IntKind.i64.wrap ((j : Int) - 1) = (j : Int) - 1 := by simp [IntKind.wrap, IntKind.bits, IntKind.signed]; omega
        clear hN hZ hinv hr
        go_wp2
        go_roundw
        case rel => exact ⟨j, rfl, by omega, HI.out, trivial⟩
        case measure => simp [intOf]
end Go.Proofs.Qxb6609020a
