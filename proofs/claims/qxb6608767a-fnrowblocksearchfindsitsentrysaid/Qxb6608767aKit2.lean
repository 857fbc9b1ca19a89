import Derived.Test.Qxb6608767aKit
import Derived.Laws.CopyOwn
import Derived.OwnWalk
/-! The seat's own small kit (2): 'dst := make([]T, len(src)); copy(dst, src)'. -/
namespace Go.Kx
open Go.RowKit

theorem Row.of_block {w : World} {g n : Nat} {cs : Array Value} {t : TypeId} {f : Nat → Value} (h : w.heap[g]? = some (.cells cs t (0, 0))) (hl : ∀ i, i < n → cs[i]? = some (f i)) : Row w g n f := fun i hi => by
  refine ⟨?_, ?_⟩
  · simp [World.cell?, h, hl i hi]
  · simp [World.frozen?, h]

theorem wpList_copy_full {P : Program} {w : World} {ops : Array Oper} {rest : List Oper} {o : Oper} {a : Act} {Q : Exit → Act → World → Prop} (hgd : o.guard = none) (d s : Operand) (dT sT : TypeId)
    (ho : o.op = .call { callee := .builtin .copy, args := #[d, s], argTypes := #[dT, sT] }) (elem : TypeId) (hu : P.underlying dT = some (.slice elem)) (hsz : (P.info? elem).map (·.size) = some 1)
    (g n sCap : Nat) (sp : Option Addr) (hd : a.eval d = .slice (some ⟨g, 0, none⟩) n n) (hs : a.eval s = .slice sp n sCap)
    (cur : Array Value) (t : TypeId) (hg : w.heap[g]? = some (.cells cur t (0, 0))) (hcur : cur.size = n) (f : Nat → Value)
    (hsrc : ∀ i, i < n → ∃ ad, sp = some ad ∧ w.cell? (ad.add i) = some (f i)) (h1 : ∀ i, i < n → (f i).oneCell' = true) (B : Nat) (w0 : World) (hb : Below B w0 w) (hBg : B ≤ g)
    (h : ∀ w', Hid (Row w' g n f) → Below B w0 w' → g < w'.heap.size → wpList P ops Q rest (a.put o.dst (goInt n)) w') :
    wpList P ops Q (o :: rest) a w := by
  have hlen : ((List.range n).map f).length = n := by simp
  refine wpList_copy_splice hgd d s dT sT ho elem hu hsz (some ⟨g, 0, none⟩) sp n n n sCap hd hs g 0 cur.toList t (by simpa using hg) ((List.range n).map f) (by rw [hlen]; exact (Nat.min_self n).symm) (fun hp => ⟨rfl, ?_⟩) (by rw [hlen]; simp; omega) (fun v hv => ?_) B w0 hb hBg (fun w' hrow hbel => ?_)
  · obtain ⟨ad, hsp, _⟩ := hsrc 0 (by rw [hlen] at hp; exact hp)
    refine ⟨ad, hsp, fun j v hj => ?_⟩
    have hjn : j < n := by
      have := (List.getElem?_eq_some_iff.1 hj).1
      rwa [hlen] at this
    obtain ⟨ad', hsp', hc⟩ := hsrc j hjn
    obtain rfl : ad = ad' := by rw [hsp] at hsp'; exact Option.some.inj hsp'
    rw [hc]
    simp [hjn] at hj
    rw [hj]
  · obtain ⟨i, hi, rfl⟩ := List.mem_map.1 hv
    exact h1 i (by simpa using hi)
  · have hr := hrow.out
    have hsp : splice cur.toList 0 ((List.range n).map f) = (List.range n).map f := by
      unfold splice
      rw [hlen]
      simp [hcur, List.drop_eq_nil_of_le]
    rw [hsp] at hr
    have hR : Row w' g n f := Row.of_block hr (fun i hi => by simp [hi])
    have hlt : g < w'.heap.size := by
      rcases Nat.lt_or_ge g w'.heap.size with h | h
      · exact h
      · rw [Array.getElem?_eq_none h] at hr; cases hr
    have hh := h w' hR hbel hlt
    rw [hlen]
    exact hh
end Go.Kx
