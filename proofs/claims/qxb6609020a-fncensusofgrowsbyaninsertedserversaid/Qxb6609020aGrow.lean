import Derived.Test.Qxb6609020aLaw5
import Derived.Lib.JoinLaws
import Derived.WalkKit
import Derived.ProofKit
import Derived.WalkSpells
import Derived.WalkSmall
namespace Go.Proofs.Qxb6609020a
open Go.RowKit Go.Kx
/-- A server put in at c. -/
def ins (f : Nat → List UInt8 → Option Int) (c : Nat) (e : List UInt8 → Option Int) (i : Nat) : List UInt8 → Option Int := if i < c then f i else if i = c then e else f (i - 1)
theorem ins_lt (f : Nat → List UInt8 → Option Int) {c k : Nat} (e : List UInt8 → Option Int) (h : k < c) : ins f c e k = f k := by unfold ins; rw [if_pos h]
theorem ins_at (f : Nat → List UInt8 → Option Int) (c : Nat) (e : List UInt8 → Option Int) : ins f c e c = e := by unfold ins; rw [if_neg (Nat.lt_irrefl _), if_pos rfl]
theorem ins_gt (f : Nat → List UInt8 → Option Int) {c k : Nat} (e : List UInt8 → Option Int) (h : c ≤ k) : ins f c e (k + 1) = f k := by unfold ins; rw [if_neg (by omega), if_neg (by omega)]; rfl
theorem ts_congr {x y : Nat → Int} : ∀ k, (∀ i, i < k → x i = y i) → ts x k = ts y k
  | 0, _ => rfl
  | k + 1, h => by
    show ts x k + x k = ts y k + y k
    rw [ts_congr k (fun i hi => h i (by omega)), h k (by omega)]
theorem ts_ins (f : Nat → List UInt8 → Option Int) (c : Nat) (e : List UInt8 → Option Int) (u : List UInt8) (v : Int) (he : (e u).getD 0 = v) : ∀ k, c ≤ k → ts (fun i => (ins f c e i u).getD 0) (k + 1) = ts (fun i => (f i u).getD 0) k + v
  | 0, h => by
    obtain rfl : c = 0 := by omega
    show (0 : Int) + (ins f 0 e 0 u).getD 0 = 0 + v
    rw [ins_at, he]
  | k + 1, h => by
    by_cases hc : c = k + 1
    · subst hc
      show ts (fun i => (ins f (k + 1) e i u).getD 0) (k + 1) + (ins f (k + 1) e (k + 1) u).getD 0 = ts (fun i => (f i u).getD 0) (k + 1) + v
      rw [ins_at, he, ts_congr (k + 1) (fun i hi => by show (ins f (k + 1) e i u).getD 0 = (f i u).getD 0; rw [ins_lt f e hi])]
    · show ts (fun i => (ins f c e i u).getD 0) (k + 1) + (ins f c e (k + 1) u).getD 0 = ts (fun i => (f i u).getD 0) k + (f k u).getD 0 + v
      rw [ts_ins f c e u v he k (by omega), ins_gt f e (by omega)]
      omega
theorem ts_back (x : Nat → Int) (n : Nat) : ∀ k, k ≤ n + 1 → ts (fun i => x (n - i)) k + ts x (n + 1 - k) = ts x (n + 1)
  | 0, _ => by show (0 : Int) + ts x (n + 1) = _; omega
  | k + 1, h => by
    have e : n + 1 - k = (n - k) + 1 := by omega
    have e2 : n + 1 - (k + 1) = n - k := by omega
    have := ts_back x n k (by omega)
    rw [e] at this
    have this : ts (fun i => x (n - i)) k + (ts x (n - k) + x (n - k)) = ts x (n + 1) := this
    show ts (fun i => x (n - i)) k + x (n - k) + ts x (n + 1 - (k + 1)) = _
    rw [e2]
    omega
theorem ws_ins (f : Nat → List UInt8 → Option Int) (c : Nat) (e : List UInt8 → Option Int) (u : List UInt8) (v : Int) (he : (e u).getD 0 = v) (n : Nat) (hc : c ≤ n) : ws (fun i => (ins f c e i u).getD 0) (n + 1) = wrap64 (ws (fun i => (f i u).getD 0) n + v) := by
  rw [ws_eq, ws_eq, ts_ins f c e u v he n hc]
  unfold wrap64
  omega
theorem ws_back (x : Nat → Int) (n : Nat) : ws (fun i => x (n - i)) (n + 1) = ws x (n + 1) := by
  have := ts_back x n (n + 1) (Nat.le_refl _)
  rw [Nat.sub_self] at this
  have this : ts (fun i => x (n - i)) (n + 1) + 0 = ts x (n + 1) := this
  rw [ws_eq, ws_eq, ← this, Int.add_zero]
theorem NM.lt {w : World} {b n : Nat} {f : List UInt8 → Option Int} (h : NM w (some b) n f) : b < w.heap.size := SMap.lt h
theorem Cen.at {w w' : World} {ca : Option Addr} {n : Nat} {f : Nat → List UInt8 → Option Int} (h : Cen w ca n f) (hb : Below w.heap.size w w') {k : Nat} (hk : k < n) :
    ∃ b off mv fl m, ca = some ⟨b, off, none⟩ ∧ w'.cell? ⟨b, off + k * 2, none⟩ = some (.int .i64 fl) ∧ w'.cell? ⟨b, off + k * 2 + 1, none⟩ = some (.map mv) ∧ NM w' mv m (f k) ∧ (∀ x, mv = some x → x < w.heap.size) ∧ b < w.heap.size := by
  obtain ⟨b, off, mv, fl, m, e, h1, h2, h3⟩ := h k hk
  exact ⟨b, off, mv, fl, m, e, (hb.cell (p := ⟨b, off + k * 2, none⟩) (cell_lt h1)).trans h1, (hb.cell (p := ⟨b, off + k * 2 + 1, none⟩) (cell_lt h2)).trans h2, h3.below hb, (fun x hx => by subst hx; exact h3.lt), cell_lt h1⟩
theorem mk_room (n : Nat) (hn : n ≤ 1048576) (w : World) : (Instr.makeSlice 29 (.int .i64 0) (.int .i64 ((n : Int) + 1))).run Try.prog w = .ok (.slice (some ⟨w.heap.size, 0, none⟩) 0 (n + 1)) (w.alloc (.cells (madeCells #[.int .i64 0, .map none] ((n + 1) * 2)) 40)) := by
  obtain ⟨i0, hi, hz0, hz1, hz2⟩ := info_parts info40
  have := run_make (P := Try.prog) w 29 40 i0 _ Try.underlying29 hi hz0 .i64 .i64 0 ((n + 1 : Nat) : Int) (by omega) (by omega) (by rw [hz2]; omega) (by omega)
  have e : ((n + 1 : Nat) : Int) = (n : Int) + 1 := by omega
  have e2 : ((n : Int) + 1).toNat = n + 1 := by omega
  rw [e, hz1, e2] at this
  exact this
theorem mk_census' (n : Nat) (hn : n ≤ 1048576) (w : World) : (Instr.makeSlice 29 (.int .i64 ((n : Int) + 1)) (.int .i64 ((n : Int) + 1))).run Try.prog w = .ok (.slice (some ⟨w.heap.size, 0, none⟩) (n + 1) (n + 1)) (w.alloc (.cells (madeCells #[.int .i64 0, .map none] ((n + 1) * 2)) 40)) := by
  have := mk_census (n + 1) (by omega) w
  have e : ((n + 1 : Nat) : Int) = (n : Int) + 1 := by omega
  rwa [e] at this
/-- 'append(grown, c)' where there is room. -/
theorem wpList_append_cen {w : World} {ops : Array Oper} {rest : List Oper} {o : Oper} {a : Act} {Q : Exit → Act → World → Prop} (hg : o.guard = none) (s x : Operand)
    (hop : o.op = Op.call { callee := Callee.builtin Builtin.append, args := #[s, x], argTypes := #[29, 29] }) (B N k : Nat) (f : Nat → List UInt8 → Option Int) (hk : k < N) (hs : a.eval s = .slice (some ⟨B, 0, none⟩) k N)
    (b2 c2 : Nat) (hx : a.eval x = .slice (some ⟨b2, 0, none⟩) 1 c2) (fl : Int) (mv : Option Nat) (m : Nat) (h0 : w.cell? ⟨b2, 0, none⟩ = some (.int .i64 fl)) (h1 : w.cell? ⟨b2, 1, none⟩ = some (.map mv)) (hC : CenK w B N k f) (hm : NM w mv m (f k))
    (hne : ∀ b, mv = some b → b ≠ B) (w0 : World) (hb : Below B w0 w)
    (hK : ∀ w', Hid (CenK w' B N (k + 1) f) → Hid (Below B w0 w') → Hid (w'.heap.size = w.heap.size) → wpList Try.prog ops Q rest (a.put o.dst (.slice (some ⟨B, 0, none⟩) (k + 1) N)) w') : wpList Try.prog ops Q (o :: rest) a w := by
  obtain ⟨i0, hi, hz0, hz1, hz2⟩ := info_parts info40
  have hR := hC
  obtain ⟨g, hrow, _⟩ := hR
  have hsrc : Src Try.prog i0.size 29 (.slice (some ⟨b2, 0, none⟩) 1 c2) 1 [.int .i64 fl, .map mv] w := by
    rw [hz1]
    refine Src.ofSlice w Try.underlying29 ⟨b2, 0, none⟩ 1 c2 [.int .i64 fl, .map mv] rfl (fun j u hj => ?_) (fun u hu => ?_)
    · match j, hj with
      | 0, hj => simp at hj; subst hj; exact h0
      | 1, hj => simp at hj; subst hj; exact h1
    · simp at hu
      rcases hu with rfl | rfl <;> rfl
  refine wpList_append_room_src w hg s x 29 29 hop 40 i0 Try.underlying29 hi B 0 k N hs _ hx 1 _ hsrc (by omega) (fun j hj => ?_) (fun j hj => ?_) ?_
  · rw [hz1, (hrow (0 + k * 2 + j) (by simp at hj; omega)).1]; rfl
  · rw [hz1]; exact (hrow (0 + k * 2 + j) (by simp at hj; omega)).2
  · have e : w.setCells B (0 + k * i0.size) [.int .i64 fl, .map mv] = (w.setCell ⟨B, k * 2, none⟩ (.int .i64 fl)).setCell ⟨B, k * 2 + 1, none⟩ (.map mv) := by
      rw [hz1, Nat.zero_add]; rfl
    rw [e]
    exact hK _ (hC.step hk fl mv m hm hne) (by
      have b1 := hb.setCell (p := ⟨B, k * 2, none⟩) (Nat.le_refl _) (.int .i64 fl)
      exact b1.setCell (p := ⟨B, k * 2 + 1, none⟩) (Nat.le_refl _) (.map mv)) (by show _ = _; simp [World.setCell])
theorem of_any2 (ca : Option Addr) (n cc : Nat) (f : Nat → List UInt8 → Option Int) (s : ByteArray) (w : World) (hn : n ≤ 1048577) (hs : s.size ≤ maxLen) (hC : Cen w ca n f) :
    Calls Try.prog 14 #[.slice ca n cc, .string s] w fun e w' => e = .returned (.int .i64 (ws (fun i => (f i s.data.toList).getD 0) n)) ∧ Below w.heap.size w w' := by
  have HC : Hid (Cen w ca n f) := hC
  clear hC
  go_enter Try.func14, Try.ntmps14
  go_wp2
  go_loopw [5, 10] (fun tt kk wr => ∃ k : Nat, tt = .int .i64 (ws (fun i => (f i s.data.toList).getD 0) k) ∧ kk = .int .i64 k ∧ k ≤ n ∧ Below w.heap.size w wr) (fun _ kk _ => n - (intOf kk).toNat)
  case atStart => exact ⟨0, rfl, rfl, Nat.zero_le _, Below.refl _ _⟩
  case round =>
    obtain ⟨k, rfl, rfl, hk, hb⟩ := hrel
    by_cases hkn : k < n
    · obtain ⟨b, off, mv, fl, m, rfl, c0, c1, hm⟩ := HC.out.below hb k hkn
      have hlk := (hm.below (below_alloc wr (.cells #[.int .i64 fl, .map mv] 40))).look s hs
      have HX : Hid (ws (fun i => (f i s.data.toList).getD 0) (k + 1) = wrap64 (ws (fun i => (f i s.data.toList).getD 0) k + (f k s.data.toList).getD 0)) := rfl
      have hbb := below_trans hb (below_alloc wr (.cells #[.int .i64 fl, .map mv] 40))
      clear hm HC
      generalize (f k s.data.toList).getD 0 = x at *
      go_wp2
      go_roundw
      case rel => exact ⟨k + 1, by rw [HX.out], by go_num, by omega, hbb⟩
      case measure => simp [intOf]; omega
    · obtain rfl : k = n := by omega
      clear HC
      go_wp2
      go_ret
      exact ⟨rfl, hb⟩
end Go.Proofs.Qxb6609020a
