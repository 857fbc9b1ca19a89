import Derived.Test.Qxb6609020aKit
import Derived.Maps.Own
import Derived.Maps.OwnOps
import Derived.Maps.OwnSet
import Derived.Maps.Views
/-! The seat's own small kit: a map from strings to integers that the call itself made, told by a plain function. -/
namespace Go.Kx
open Go.RowKit Go.Maps Go.WideMaps Go.WideElems

/-- Block b is a map of at most n entries that holds f's values at f's keys (strings), integers of kind q. -/
def SMap (P : Program) (k e : TypeId) (q : IntKind) (w : World) (b n : Nat) (f : List UInt8 → Option Int) : Prop :=
  ∃ D : DataW Unit, w.ownsMap P k (plainElem P e) b n D ∧ ∀ s, Maps.has D (.string s) = (f s).isSome ∧ D.atKey (.string s) (.lit (.int q 0)) = .lit (.int q ((f s).getD 0))

section
variable {P : Program} {k e t : TypeId} {q : IntKind} {w w' : World} {b n : Nat} {f : List UInt8 → Option Int}

theorem SMap.made (w : World) (P : Program) (k e : TypeId) (q : IntKind) : SMap P k e q (w.alloc (.map #[] 0)) w.heap.size 0 (fun _ => none) :=
  ⟨.map [], World.ownsMap_made w P k _, fun _ => ⟨rfl, rfl⟩⟩

theorem SMap.lt (h : SMap P k e q w b n f) : b < w.heap.size := let ⟨_, hD, _⟩ := h; hD.lt

theorem SMap.below {S : Nat} (h : SMap P k e q w b n f) (hb : Below S w w') (hB : b < S) : SMap P k e q w' b n f := by
  obtain ⟨D, ⟨es, clock, h1, h2⟩, hf⟩ := h
  exact ⟨D, ⟨es, clock, (hb.block b hB).trans h1, h2⟩, hf⟩

theorem SMap.look (h : SMap P k e q w b n f) (hk : P.underlying k = some .string) (ht : P.underlying t = some (.map k e)) (he : P.underlying e = some (.int q)) (hz : (zeroValue e).run P w = .ok (.int q 0) w) (s : ByteArray) (hs : s.size ≤ maxLen) :
    (Instr.lookup t (.map (some b)) (.string s) false).run P w = .ok (.int q ((f s.data.toList).getD 0)) w := by
  obtain ⟨D, hD, hf⟩ := h
  obtain ⟨c, hrun, hat, _⟩ := hD.lookup_int (string_keyed hk) ht he hz (keyOf_string_mk hk hs)
  rw [(hf _).2] at hat
  injection hat with hat
  injection hat with _ hat
  rw [hrun, hat]

theorem SMap.look_ok (h : SMap P k e q w b n f) (hk : P.underlying k = some .string) (ht : P.underlying t = some (.map k e)) (he : P.underlying e = some (.int q)) (hz : (zeroValue e).run P w = .ok (.int q 0) w) (s : ByteArray) (hs : s.size ≤ maxLen) :
    (Instr.lookup t (.map (some b)) (.string s) true).run P w = .ok (.tuple #[.int q ((f s.data.toList).getD 0), .bool (f s.data.toList).isSome]) w := by
  obtain ⟨D, hD, hf⟩ := h
  have hw0 : (Lit.int q 0).wf = true := by cases q <;> decide
  obtain ⟨v, ps, hrun, hv⟩ := hD.look_ok (string_keyed hk) ht hz (plainElem_int he hw0) (keyOf_string_mk hk hs)
  obtain ⟨c, rfl, hc, _⟩ := plainElem_int_inv he hv
  simp only [Prod.mk.injEq] at hc
  have hat := hc.1
  rw [(hf _).2] at hat
  injection hat with hat
  injection hat with _ hat
  rw [hrun, (hf _).1, ← hat]

/-- 'm[s] = v' at the operation. -/
theorem wpList_smap_put {ops : Array Oper} {rest : List Oper} {o : Oper} {a : Act} {Q : Exit → Act → World → Prop}
    (hg : o.guard = none) (m x v : Operand) (t : TypeId) (hop : o.op = Op.mapUpdate t m x v) (k e : TypeId) (q : IntKind) (hk : P.underlying k = some .string) (ht : P.underlying t = some (.map k e)) (he : P.underlying e = some (.int q))
    (b n : Nat) (f : List UInt8 → Option Int) (hm : a.eval m = .map (some b)) (h : SMap P k e q w b n f) (hn : n < maxLen) (s : ByteArray) (hs : s.size ≤ maxLen) (c : Int) (hwf : (Lit.int q c).wf = true) (hx : a.eval x = .string s) (hv : a.eval v = .int q c)
    (B : Nat) (w0 : World) (hb : Below B w0 w) (hB : B ≤ b)
    (hK : ∀ w', Hid (SMap P k e q w' b (n + 1) (fun u => if u = s.data.toList then some c else f u)) → Below B w0 w' → w.grownBy w' (some b) → wpList P ops Q rest (a.put o.dst undef) w') :
    wpList P ops Q (o :: rest) a w := by
  obtain ⟨D, hD, hf⟩ := h
  refine wpList_mapUpdate_own w hg m x v t hop k e (string_keyed hk) ht _ b n D hm hD hn (.string s) (.int q c) (.string s.data.toList) hx hv (keyOf_string_mk hk hs) (.lit (.int q c)) [] (plainElem_int he hwf) (fun w' hown hgrow => ?_)
  refine hK w' ⟨_, hown, fun u => ?_⟩ (hb.trans ⟨hgrow.os, hgrow.tape, hgrow.output, hgrow.size, fun i hi => hgrow.block i (by have := hD.lt; omega) (fun e => by injection e; omega)⟩) hgrow
  by_cases e : u = s.data.toList
  · subst e
    rw [Maps.has_put_same hD.isMap (by trivial), Maps.atKey_put_same hD.isMap (by trivial)]
    simp
  · have hne : (Lit.string u) ≠ Lit.string s.data.toList := fun h => e (by injection h)
    rw [Maps.has_put_other hne, Maps.atKey_put_other hne]
    simp only [if_neg e]
    exact hf u
end
end Go.Kx
