import Derived.Test.Qxb6609005aBuild
import Derived.WalkKit
import Derived.ProofKit
import Derived.WalkSpells
import Derived.WalkSmall
import Derived.BigQuiet
import Derived.Deep.QuietTactic
namespace Go.Proofs.Qxb6609005a
open Go.RowKit Go.Kx Go.Kn
theorem info24 : (Try.prog.info? 24).map (fun i => (i.zero, i.size, i.bytes)) = some (some (.int .u32 0), 1, 4) := by kernel_rfl
theorem mk_u32 (n : Nat) (hn : n ≤ 1048576) (w : World) : (Instr.makeSlice 78 (.int .i64 (n : Int)) (.int .i64 (n : Int))).run Try.prog w = .ok (.slice (some ⟨w.heap.size, 0, none⟩) n n) (w.alloc (.cells (madeCells #[.int .u32 0] n) 24)) := by
  obtain ⟨i0, hi, hz0, hz1, hz2⟩ := info_parts info24
  have := run_make (P := Try.prog) w 78 24 i0 (.int .u32 0) Try.underlying78 hi hz0 .i64 .i64 n n (by omega) (by omega) (by rw [hz2]; omega) (by omega)
  rw [this, hz1]
  simp [Value.cells]
/-- A row of counts in block B. -/
def Dns (w : World) (B n : Nat) (f : Nat → Nat) : Prop := Row w B n (fun i => .int .u32 (f i))
theorem Dns.set {w : World} {B n : Nat} {f : Nat → Nat} (h : Dns w B n f) (k : Nat) (hk : k < n) (x : Nat) : Dns (w.setCell ⟨B, k, none⟩ (.int .u32 x)) B n (fun i => if k = i then x else f i) :=
  (Row.set h k hk (.int .u32 x)).congr (fun i _ => by
    by_cases e : i = k
    · subst e; simp
    · have e' : ¬ k = i := fun h => e h.symm
      simp [e, e'])
theorem Dns.made {w : World} {n B : Nat} (h : B = w.heap.size) : Dns (w.alloc (.cells (madeCells #[.int .u32 0] n) 24)) B n (fun _ => 0) :=
  (Row.made_at h).congr (fun i _ => by simp [Nat.mod_one])
def DensePost (n : Nat) (c : Ck) (w : World) (e : Ending) (w' : World) : Prop := ∃ B, e = .returned (.slice (some ⟨B, 0, none⟩) n n) ∧ Dns w' B n (cv c) ∧ Below w.heap.size w w' ∧ B < w'.heap.size
/-- The clock of an event that came in: none where it is the zero one. -/
def ckz (z : Bool) (c : Ck) : Ck := if z then ⟨0, 0, 0, fun _ => 0, fun _ => 0⟩ else c
theorem cv_zero (j : Nat) : cv ⟨0, 0, 0, fun _ => 0, fun _ => 0⟩ j = 0 := by unfold cv; split <;> rfl
theorem dense_zero (n : Nat) (s : ByteArray) (lam : Int) (c : Ck) (ka : Option Addr) (kc : Nat) (w : World) (hn : n ≤ 1048576) :
    Calls Try.prog 29 #[.int .i64 n, Evv s lam true c ka kc] w (DensePost n (ckz true c) w) := by
  have hmk := mk_u32 n hn
  unfold Evv
  go_enter Try.func29, Try.ntmps29
  go_wp2
  go_ret
  exact ⟨w.heap.size + 1, rfl, (Dns.made (by simp)).congr (fun i _ => by show _ = Value.int .u32 (cv (ckz true c) i : Nat); unfold ckz; rw [if_pos rfl, cv_zero]), below2 _ _ _, by simp⟩
set_option maxHeartbeats 2000000 in
theorem dense_some (n : Nat) (s : ByteArray) (lam : Int) (c : Ck) (ka : Option Addr) (kc : Nat) (w : World) (hn : n ≤ 1048576) (hf : Fits c) (hk : Knw w ka c) (ho : c.own < n) (hlt : ∀ t, t < c.kl → c.kh t < n) :
    Calls Try.prog 29 #[.int .i64 n, Evv s lam false c ka kc] w (DensePost n (ckz false c) w) := by
  have hmk := mk_u32 n hn
  have hkl := hf.kl
  have HK : Hid (Knw w ka c) := hk
  have HL : Hid (∀ t, t < c.kl → c.kh t < n) := hlt
  clear hk hf hlt
  unfold Evv
  go_enter Try.func29, Try.ntmps29
  go_wp2
  go_loopw [6] (fun kk wr => ∃ k : Nat, kk = .int .i64 k ∧ k ≤ c.kl ∧ Dns wr (w.heap.size + 1) n (Kn.look c.kh c.kn k) ∧ (wr.cell? ⟨w.heap.size, 3, none⟩ = some (.int .u32 c.own) ∧ wr.cell? ⟨w.heap.size, 4, none⟩ = some (.int .u32 c.cn) ∧ wr.cell? ⟨w.heap.size, 5, none⟩ = some (.slice ka c.kl kc)) ∧ Below w.heap.size w wr ∧ w.heap.size + 1 < wr.heap.size) (fun kk _ => c.kl - (intOf kk).toNat)
  case atStart => exact ⟨0, rfl, Nat.zero_le _, (Dns.made (by simp)).congr (fun _ _ => rfl), ⟨by simp [go_sem], by simp [go_sem], by simp [go_sem]⟩, below2 _ _ _, by simp⟩
  case round =>
    obtain ⟨k, rfl, hk, hrow, ⟨c3, c4, c5⟩, hb, hsz⟩ := hrel
    by_cases hkl2 : k < c.kl
    · obtain ⟨b, off, rfl, hB, hc⟩ := (HK.out.below hb).at (by omega)
      obtain ⟨x0, x1⟩ := hc k hkl2
      have hkn := HL.out k hkl2
      have r0 := (hrow (c.kh k) hkn).1
      have f0 := (hrow (c.kh k) hkn).2
      have i1 : (0 : Int) ≤ (k : Int) := by omega
      have i2 : (k : Int) < (c.kl : Int) := by omega
      have j1 : (0 : Int) ≤ (c.kh k : Int) := by omega
      have j2 : (c.kh k : Int) < (n : Int) := by omega
      have HE : Hid (Dns (wr.setCell ⟨w.heap.size + 1, c.kh k, none⟩ (.int .u32 (c.kn k))) (w.heap.size + 1) n (Kn.look c.kh c.kn (k + 1))) := hrow.set (c.kh k) hkn (c.kn k)
      have HB : Hid (Below (w.heap.size + 1) wr (wr.setCell ⟨w.heap.size + 1, c.kh k, none⟩ (.int .u32 (c.kn k)))) := Below.setCell (p := ⟨w.heap.size + 1, c.kh k, none⟩) (Below.refl _ _) (Nat.le_refl _) _
      have HBW : Hid (Below w.heap.size w wr) := hb
      clear hc hrow hb hmk HK HL
      go_wp2
      go_region
      go_wp2
      go_roundw
      case rel => exact ⟨k + 1, by go_num, by omega, HE.out.drewN 1, ⟨(HB.out.drew.cell (p := ⟨w.heap.size, 3, none⟩) (by simp)).trans c3, (HB.out.drew.cell (p := ⟨w.heap.size, 4, none⟩) (by simp)).trans c4, (HB.out.drew.cell (p := ⟨w.heap.size, 5, none⟩) (by simp)).trans c5⟩, HBW.out.trans (HB.out.drew.mono (by omega)), by simpa [World.setCell] using hsz⟩
      case measure => simp [intOf]; omega
    · obtain rfl : k = c.kl := by omega
      have r0 := (hrow c.own ho).1
      have f0 := (hrow c.own ho).2
      have HE : Hid (Dns (wr.setCell ⟨w.heap.size + 1, c.own, none⟩ (.int .u32 c.cn)) (w.heap.size + 1) n (cv (ckz false c))) := (hrow.set c.own ho c.cn).congr (fun i _ => by
        show Value.int .u32 ((if c.own = i then c.cn else Kn.look c.kh c.kn c.kl i : Nat) : Int) = _
        have : cv (ckz false c) i = if c.own = i then c.cn else Kn.look c.kh c.kn c.kl i := by
          show cv c i = _
          unfold cv
          by_cases e : i = c.own
          · rw [if_pos e, if_pos e.symm]
          · rw [if_neg e, if_neg (fun h => e h.symm)]
        rw [this])
      have HB : Hid (Below w.heap.size w (wr.setCell ⟨w.heap.size + 1, c.own, none⟩ (.int .u32 c.cn))) := Below.setCell (p := ⟨w.heap.size + 1, c.own, none⟩) hb (Nat.le_succ _) _
      clear hrow hb hmk HK HL
      go_wp2
      go_ret
      exact ⟨w.heap.size + 1, rfl, HE.out, HB.out, by simpa [World.setCell] using hsz⟩
end Go.Proofs.Qxb6609005a
