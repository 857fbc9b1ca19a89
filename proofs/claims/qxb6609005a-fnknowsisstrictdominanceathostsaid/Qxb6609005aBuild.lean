import Derived.Test.Qxb6609005aKnows
import Derived.WalkKit
import Derived.ProofKit
import Derived.WalkSpells
import Derived.WalkSmall
import Derived.BigQuiet
import Derived.Deep.QuietTactic
import Derived.Deep.RegionHeld3
import Derived.Deep.DrawnRows
import Derived.Deep.RegionWith
import Derived.Deep.DeepCutAuto
import Derived.Laws.MakeOwn
namespace Go.Proofs.Qxb6609005a
open Go.RowKit Go.Kx Go.Kn
/-- execlog.ZZnewClock: the clock as built, its log's names and numbers in a block of their own. -/
theorem newClock_any (na : Option Addr) (nl nc mb : Nat) (own cn : Nat) (ka : Option Addr) (kl kc : Nat) (w : World) :
    Calls Try.prog 27 #[.slice na nl nc, .map (some mb), .int .u32 own, .int .u32 cn, .slice ka kl kc] w fun e w' => ∃ hb, e = .returned (.agg #[.pointer (some ⟨hb, 0, none⟩), .int .u32 own, .int .u32 cn, .slice ka kl kc]) ∧ w'.cell? ⟨hb, 1, none⟩ = some (.map (some mb)) ∧ Below w.heap.size w w' ∧ w.heap.size ≤ hb := by
  go_enter Try.func27, Try.ntmps27
  go_wp2
  refine bodyPost_ret (v := .agg #[.pointer (some ⟨w.heap.size + 1, 0, none⟩), .int .u32 own, .int .u32 cn, .slice ka kl kc]) ?_ rfl ⟨w.heap.size + 1, rfl, by simp [go_sem], below2 _ _ _, by omega⟩
  simp [results, Try.results27, go_sem]
theorem _root_.Go.Kx.Row.made_at {w : World} {z : Array Value} {n B : Nat} {e : TypeId} (h : B = w.heap.size) : Row (w.alloc (.cells (madeCells z n) e)) B n (fun i => z[i % z.size]!) := by subst h; exact Row.made w z n e
/-- The names lie in memory. -/
def Nms (w : World) (na : Option Addr) (n : Nat) (nm : Nat → ByteArray) : Prop := ∀ i, i < n → ∃ b off, na = some ⟨b, off, none⟩ ∧ w.cell? ⟨b, off + i, none⟩ = some (.string (nm i))
theorem Nms.below {w w' : World} {na : Option Addr} {n : Nat} {nm : Nat → ByteArray} (h : Nms w na n nm) (hb : Below w.heap.size w w') : Nms w' na n nm := fun i hi => by
  obtain ⟨b, off, e, h1⟩ := h i hi
  exact ⟨b, off, e, (hb.cell (p := ⟨b, off + i, none⟩) (cell_lt h1)).trans h1⟩
/-- The number of a name: the last one that bears it. -/
def numOf (nm : Nat → ByteArray) : Nat → List UInt8 → Option Int
  | 0, _ => none
  | k + 1, u => if u = (nm k).data.toList then some (k : Int) else numOf nm k u
def NumPost (w : World) (n : Nat) (nm : Nat → ByteArray) (e : Ending) (w' : World) : Prop := ∃ mb, e = .returned (.map (some mb)) ∧ SMap Try.prog 9 24 .u32 w' mb n (numOf nm n) ∧ Below w.heap.size w w'
set_option maxHeartbeats 1000000 in
theorem buildNumber_any (na : Option Addr) (n nc : Nat) (nm : Nat → ByteArray) (w : World) (hn : n ≤ 1048576) (hs : ∀ i, i < n → (nm i).size ≤ maxLen) (hN : Nms w na n nm) :
    Calls Try.prog 12 #[.slice na n nc] w (NumPost w n nm) := by
  have hmm := @run_makeMap Try.prog
  have HN : Hid (Nms w na n nm) := hN
  have HS : Hid (∀ i, i < n → (nm i).size ≤ maxLen) := hs
  clear hN hs
  go_enter Try.func12, Try.ntmps12
  go_wp2
  go_loopw [4] (fun kk wr => ∃ k : Nat, kk = .int .i64 k ∧ k ≤ n ∧ SMap Try.prog 9 24 .u32 wr w.heap.size k (numOf nm k) ∧ Below w.heap.size w wr) (fun kk _ => n - (intOf kk).toNat)
  case atStart => exact ⟨0, rfl, Nat.zero_le _, SMap.made w Try.prog 9 24 .u32, below_alloc _ _⟩
  case round =>
    obtain ⟨k, rfl, hk, hm, hb⟩ := hrel
    by_cases hkn : k < n
    · obtain ⟨b, off, rfl, hc⟩ := HN.out.below hb k hkn
      have hsz := HS.out k hkn
      have HM : Hid (SMap Try.prog 9 24 .u32 wr w.heap.size k (numOf nm k)) := hm
      have hw9 : IntKind.u32.wrap (k : Int) = k := by simp [IntKind.wrap, IntKind.bits, IntKind.signed]; omega
      clear hm
      go_wp2_with (at_mapUpdate; refine wpList_smap_put (by rfl) _ _ _ 33 (by rfl) 9 24 .u32 Try.underlying9 Try.underlying33 Try.underlying24 w.heap.size k (numOf nm k) (by rfl) HM.out (by simp [maxLen]; omega) (nm k) hsz k (by simp [Lit.wf, IntKind.min, IntKind.max, IntKind.signed, IntKind.bits]; omega) (by rfl) (by rfl) w.heap.size w hb (Nat.le_refl _) ?_; intro w1 hrow hb1 hg1)
      go_roundw
      case rel => exact ⟨k + 1, by go_num, by omega, hrow.out, hb1⟩
      case measure => simp [intOf]; omega
    · obtain rfl : k = n := by omega
      have HM : Hid (SMap Try.prog 9 24 .u32 wr w.heap.size k (numOf nm k)) := hm
      clear hm
      go_wp2
      go_ret
      exact ⟨_, rfl, HM.out, hb⟩
theorem info76 : (Try.prog.info? 76).map (fun i => (i.zero, i.size, i.bytes)) = some (some (.agg #[.int .u32 0, .int .u32 0]), 2, 8) := by kernel_rfl
theorem mk_known (n : Nat) (hn : n ≤ 1048576) (w : World) : (Instr.makeSlice 69 (.int .i64 (n : Int)) (.int .i64 (n : Int))).run Try.prog w = .ok (.slice (some ⟨w.heap.size, 0, none⟩) n n) (w.alloc (.cells (madeCells #[.int .u32 0, .int .u32 0] (n * 2)) 76)) := by
  obtain ⟨i0, hi, hz0, hz1, hz2⟩ := info_parts info76
  have := run_make (P := Try.prog) w 69 76 i0 _ Try.underlying69 hi hz0 .i64 .i64 n n (by omega) (by omega) (by rw [hz2]; omega) (by omega)
  rw [this, hz1]
  simp [Value.cells]
/-- Entries 0 .. k-1 of block B are written; all 2n cells are there. -/
def Ents (w : World) (B n k : Nat) (kh kn : Nat → Nat) : Prop := ∃ g : Nat → Value, Row w B (n * 2) g ∧ ∀ i, i < k → g (i * 2) = .int .u32 (kh i) ∧ g (i * 2 + 1) = .int .u32 (kn i)
theorem Ents.step {w : World} {B n k : Nat} {kh kn : Nat → Nat} {g : Nat → Value} (hrow : Row w B (n * 2) g) (hg : ∀ i, i < k → g (i * 2) = .int .u32 (kh i) ∧ g (i * 2 + 1) = .int .u32 (kn i)) (hk : k < n) :
    Ents ((w.setCell ⟨B, k * 2, none⟩ (.int .u32 (kh k))).setCell ⟨B, k * 2 + 1, none⟩ (.int .u32 (kn k))) B n (k + 1) kh kn := by
  refine ⟨_, (hrow.set (k * 2) (by omega) _).set (k * 2 + 1) (by omega) _, fun i hi => ?_⟩
  by_cases e : i = k
  · subst e
    simp only [if_true]
    exact ⟨by rw [if_neg (by omega)], trivial⟩
  · rw [if_neg (by omega), if_neg (by omega), if_neg (by omega), if_neg (by omega)]
    exact hg i (by omega)
theorem Ents.drewN {w : World} {B n k : Nat} {kh kn : Nat → Nat} (h : Ents w B n k kh kn) (m : Nat) : Ents (w.drewN m) B n k kh kn := by
  obtain ⟨g, h1, h2⟩ := h
  exact ⟨g, h1.drewN m, h2⟩
theorem Ents.drew {w : World} {B n k : Nat} {kh kn : Nat → Nat} (h : Ents w B n k kh kn) : Ents w.drew B n k kh kn := h.drewN 1
theorem Ents.below {w w' : World} {S B n k : Nat} {kh kn : Nat → Nat} (h : Ents w B n k kh kn) (hb : Below S w w') (hB : B < S) : Ents w' B n k kh kn := by
  obtain ⟨g, h1, h2⟩ := h
  exact ⟨g, h1.below hb hB, h2⟩
theorem Ents.set4 {w : World} {B n k : Nat} {kh kn : Nat → Nat} (h : Ents w B n k kh kn) (B' : Nat) (hne : B' ≠ B) (v1 v2 v3 v4 : Value) : Ents ((((w.setCell ⟨B', 1, none⟩ v1).setCell ⟨B', 2, none⟩ v2).setCell ⟨B', 3, none⟩ v3).setCell ⟨B', 4, none⟩ v4) B n k kh kn := by
  obtain ⟨g, h1, h2⟩ := h
  exact ⟨g, (((h1.set_other B' 1 hne _).set_other B' 2 hne _).set_other B' 3 hne _).set_other B' 4 hne _, h2⟩
theorem Ents.knw {w : World} {B : Nat} {c : Ck} (h : Ents w B c.kl c.kl c.kh c.kn) : Knw w (some ⟨B, 0, none⟩) c := fun t ht => by
  obtain ⟨g, h1, h2⟩ := h
  refine ⟨B, 0, rfl, ?_, ?_⟩
  · rw [← (h2 t ht).1, Nat.zero_add]; exact (h1 _ (by omega)).1
  · rw [← (h2 t ht).2, Nat.zero_add]; exact (h1 _ (by omega)).1
/-- An event as it comes in. -/
def Evv (s : ByteArray) (lam : Int) (z : Bool) (c : Ck) (ka : Option Addr) (kc : Nat) : Value := .agg #[.string s, .int .u64 lam, .bool z, .int .u32 c.own, .int .u32 c.cn, .slice ka c.kl kc]
set_option maxHeartbeats 2000000 in
theorem buildEvent_zero (na : Option Addr) (nl nc : Nat) (mb : Option Nat) (s : ByteArray) (lam : Int) (c : Ck) (ka : Option Addr) (kc : Nat) (w : World) :
    Calls Try.prog 13 #[.slice na nl nc, .map mb, Evv s lam true c ka kc] w fun e w' => ∃ B, e = .returned (.pointer (some ⟨B, 0, none⟩)) ∧ Evt w' B s none ⟨0, 0, 0, fun _ => 0, fun _ => 0⟩ none 0 ∧ Below w.heap.size w w' := by
  unfold Evv
  go_enter Try.func13, Try.ntmps13
  go_wp2
  go_ret
  exact ⟨w.heap.size + 1, rfl, ⟨by simp [go_sem], by simp [go_sem], by simp [go_sem], by simp [go_sem], by simp [go_sem]⟩, below2 _ _ _⟩
/-- The cells of the event that came in, boxed, and of the one in the making. -/
def BF (w : World) (B : Nat) (s : ByteArray) (c : Ck) (ka : Option Addr) (kc : Nat) : Prop :=
  (w.cell? ⟨B, 3, none⟩ = some (.int .u32 c.own) ∧ w.cell? ⟨B, 4, none⟩ = some (.int .u32 c.cn) ∧ w.cell? ⟨B, 5, none⟩ = some (.slice ka c.kl kc)) ∧
  (w.cell? ⟨B + 1, 0, none⟩ = some (.string s) ∧ w.cell? ⟨B + 1, 1, none⟩ = some (.pointer none) ∧ w.cell? ⟨B + 1, 2, none⟩ = some (.int .u32 0) ∧ w.cell? ⟨B + 1, 3, none⟩ = some (.int .u32 0) ∧ w.cell? ⟨B + 1, 4, none⟩ = some (.slice none 0 0)) ∧
  w.frozen? ⟨B + 1, 1, none⟩ = false ∧ w.frozen? ⟨B + 1, 2, none⟩ = false ∧ w.frozen? ⟨B + 1, 3, none⟩ = false ∧ w.frozen? ⟨B + 1, 4, none⟩ = false
theorem BF.below {w w' : World} {B : Nat} {s : ByteArray} {c : Ck} {ka : Option Addr} {kc : Nat} (h : BF w B s c ka kc) (hb : Below (B + 2) w w') : BF w' B s c ka kc := by
  unfold BF at *
  rw [hb.cell (p := ⟨B, 3, none⟩) (by simp), hb.cell (p := ⟨B, 4, none⟩) (by simp), hb.cell (p := ⟨B, 5, none⟩) (by simp), hb.cell (p := ⟨B + 1, 0, none⟩) (by simp), hb.cell (p := ⟨B + 1, 1, none⟩) (by simp), hb.cell (p := ⟨B + 1, 2, none⟩) (by simp), hb.cell (p := ⟨B + 1, 3, none⟩) (by simp), hb.cell (p := ⟨B + 1, 4, none⟩) (by simp),
    hb.frozen (p := ⟨B + 1, 1, none⟩) (by simp), hb.frozen (p := ⟨B + 1, 2, none⟩) (by simp), hb.frozen (p := ⟨B + 1, 3, none⟩) (by simp), hb.frozen (p := ⟨B + 1, 4, none⟩) (by simp)]
  exact h
set_option maxRecDepth 100000 in
set_option maxHeartbeats 2000000 in
theorem buildEvent_some (na : Option Addr) (nl nc : Nat) (mb : Nat) (s : ByteArray) (lam : Int) (c : Ck) (ka : Option Addr) (kc : Nat) (w : World) (hf : Fits c) (hk : Knw w ka c) :
    Calls Try.prog 13 #[.slice na nl nc, .map (some mb), Evv s lam false c ka kc] w fun e w' => ∃ B hb ka' kc', e = .returned (.pointer (some ⟨B, 0, none⟩)) ∧ Evt w' B s (some ⟨hb, 0, none⟩) c ka' kc' ∧ Knw w' ka' c ∧ w'.cell? ⟨hb, 1, none⟩ = some (.map (some mb)) ∧ Below w.heap.size w w' := by
  have hmk := mk_known c.kl hf.kl
  have hkl := hf.kl
  have HC : Hid _ := newClock_any na nl nc mb c.own c.cn
  have HK : Hid (Knw w ka c) := hk
  clear hk
  unfold Evv
  go_enter Try.func13, Try.ntmps13
  go_wp2
  go_loopw [9] (fun kk wr => ∃ k : Nat, kk = .int .i64 k ∧ k ≤ c.kl ∧ Ents wr (w.heap.size + 1 + 1) c.kl k c.kh c.kn ∧ BF wr w.heap.size s c ka kc ∧ Below w.heap.size w wr ∧ w.heap.size + 1 + 1 < wr.heap.size) (fun kk _ => c.kl - (intOf kk).toNat)
  case atStart =>
    refine ⟨0, rfl, Nat.zero_le _, ⟨_, Row.made_at (by simp), fun i h => absurd h (Nat.not_lt_zero _)⟩, ?_, (below2 _ _ _).alloc (by simp; omega) _, by simp⟩
    unfold BF
    simp [go_sem]
  case round =>
    obtain ⟨k, rfl, hk, ⟨g, hrow, hg⟩, hbf, hb, hsz⟩ := hrel
    by_cases hlt : k < c.kl
    · obtain ⟨b, off, rfl, hB, hc⟩ := (HK.out.below hb).at (by omega)
      obtain ⟨x0, x1⟩ := hc k hlt
      have r0 := (hrow (k * 2) (by omega)).1
      have r1 := (hrow (k * 2 + 1) (by omega)).1
      have f0 := (hrow (k * 2) (by omega)).2
      have f1 := (hrow (k * 2 + 1) (by omega)).2
      have i1 : (0 : Int) ≤ (k : Int) := by omega
      have i2 : (k : Int) < (c.kl : Int) := by omega
      have HE : Hid (Ents ((wr.setCell ⟨w.heap.size + 1 + 1, k * 2, none⟩ (.int .u32 (c.kh k))).setCell ⟨w.heap.size + 1 + 1, k * 2 + 1, none⟩ (.int .u32 (c.kn k))) (w.heap.size + 1 + 1) c.kl (k + 1) c.kh c.kn) := Ents.step hrow hg hlt
      have HB : Hid (Below (w.heap.size + 1 + 1) wr ((wr.setCell ⟨w.heap.size + 1 + 1, k * 2, none⟩ (.int .u32 (c.kh k))).setCell ⟨w.heap.size + 1 + 1, k * 2 + 1, none⟩ (.int .u32 (c.kn k)))) := Below.setCell (p := ⟨w.heap.size + 1 + 1, k * 2 + 1, none⟩) (Below.setCell (p := ⟨w.heap.size + 1 + 1, k * 2, none⟩) (Below.refl _ _) (Nat.le_refl _) _) (Nat.le_refl _) _
      have HBF : Hid (BF wr w.heap.size s c (some ⟨b, off, none⟩) kc) := hbf
      have c5 := hbf.1.2.2
      have HBW : Hid (Below w.heap.size w wr) := hb
      clear hc hrow hg hbf hb hmk HC HK hf
      go_wp2
      go_region
      go_wp2
      go_roundw
      case rel => exact ⟨k + 1, by go_num, by omega, HE.out.drew, HBF.out.below HB.out.drew, HBW.out.trans (HB.out.drew.mono (by omega)), by simpa [World.setCell] using hsz⟩
      case measure => simp [intOf]; omega
    · obtain rfl : k = c.kl := by omega
      have HE : Hid (Ents wr (w.heap.size + 1 + 1) c.kl c.kl c.kh c.kn) := ⟨g, hrow, hg⟩
      have HBF : Hid (BF wr w.heap.size s c ka kc) := hbf
      have HBW : Hid (Below w.heap.size w wr) := hb
      obtain ⟨⟨p3, p4, p5⟩, _⟩ := hbf
      clear hrow hg hmk HK hf hb
      go_wp2_with fail
      refine Calls.mono (HC.out _ _ _ _) ?_
      rintro e w1 ⟨hb, rfl, hm1, hb1, hs1⟩
      obtain ⟨_, ⟨q0, q1, q2, q3, q4⟩, z1, z2, z3, z4⟩ := HBF.out.below (hb1.mono (by omega))
      go_wp2
      go_ret
      have hne : hb ≠ w.heap.size + 1 := by omega
      have hb4 : Below w.heap.size w1 ((((w1.setCell ⟨w.heap.size + 1, 1, none⟩ (.pointer (some ⟨hb, 0, none⟩))).setCell ⟨w.heap.size + 1, 2, none⟩ (.int .u32 c.own)).setCell ⟨w.heap.size + 1, 3, none⟩ (.int .u32 c.cn)).setCell ⟨w.heap.size + 1, 4, none⟩ (.slice (some ⟨w.heap.size + 1 + 1, 0, none⟩) c.kl c.kl)) :=
        Below.setCell (p := ⟨w.heap.size + 1, 4, none⟩) (Below.setCell (p := ⟨w.heap.size + 1, 3, none⟩) (Below.setCell (p := ⟨w.heap.size + 1, 2, none⟩) (Below.setCell (p := ⟨w.heap.size + 1, 1, none⟩) (Below.refl _ _) (Nat.le_succ _) _) (Nat.le_succ _) _) (Nat.le_succ _) _) (Nat.le_succ _) _
      have hen := (HE.out.below hb1 hsz).set4 (w.heap.size + 1) (by omega) (.pointer (some ⟨hb, 0, none⟩)) (.int .u32 c.own) (.int .u32 c.cn) (.slice (some ⟨w.heap.size + 1 + 1, 0, none⟩) c.kl c.kl)
      refine ⟨w.heap.size + 1, hb, some ⟨w.heap.size + 1 + 1, 0, none⟩, c.kl, rfl, ⟨?_, ?_, ?_, ?_, ?_⟩, hen.knw, ?_, HBW.out.trans ((hb1.mono HBW.out.size).trans hb4)⟩
      all_goals simp [go_sem, World.cell?_setCell_far, q0, q1, q2, q3, q4, hm1, hne.symm]
end Go.Proofs.Qxb6609005a
