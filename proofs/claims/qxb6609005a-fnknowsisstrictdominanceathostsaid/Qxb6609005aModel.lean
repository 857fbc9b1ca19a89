import Derived.Test.Qxb6609005aNames
import Derived.Test.Qxb6609005aDense
import Derived.WalkKit
import Derived.ProofKit
import Derived.WalkSpells
import Derived.WalkSmall
import Derived.BigQuiet
import Derived.Deep.QuietTactic
namespace Go.Proofs.Qxb6609005a
open Go.RowKit Go.Kx Go.Kn
/-- What dense answers, anywhere after w. -/
def DnC (w : World) (n : Nat) (v : Value) (c : Ck) : Prop := ∀ w1, Below w.heap.size w w1 → Calls Try.prog 29 #[.int .i64 n, v] w1 (DensePost n c w1)
set_option maxRecDepth 100000 in
set_option maxHeartbeats 2000000 in
theorem model_any (na : Option Addr) (n nc : Nat) (nm : Nat → ByteArray) (s1 s2 : ByteArray) (l1 l2 : Int) (z1 z2 : Bool) (c d c0 d0 : Ck) (ka1 ka2 : Option Addr) (kc1 kc2 : Nat) (w : World) (hn : n ≤ 1048576) (hN : Nms w na n nm)
    (fc : ∀ j, cv c j < 4294967296) (fd : ∀ j, cv d j < 4294967296)
    (n1 : DnC w n (Evv s1 l1 z1 c0 ka1 kc1) c) (n2 : DnC w n (Evv s2 l2 z2 d0 ka2 kc2) d) (hdist : ∀ i j, i < n → j < n → nm i = nm j → i = j) :
    Calls Try.prog 15 #[.slice na n nc, Evv s1 l1 z1 c0 ka1 kc1, Evv s2 l2 z2 d0 ka2 kc2] w (Iff' (Knows n (fun k => nm k = s1) c d) w) := by
  have N1 : Hid (DnC w n (Evv s1 l1 z1 c0 ka1 kc1) c) := n1
  have N2 : Hid (DnC w n (Evv s2 l2 z2 d0 ka2 kc2) d) := n2
  have HI : Hid (∀ w1, Below w.heap.size w w1 → Calls Try.prog 30 #[.slice na n nc, .string s1] w1 (IdxPost n nm s1 w1)) := fun w1 hb => indexOf_any na n nc nm s1 w1 hn (hN.below hb)
  have HNo : Hid (∀ j, j < n → cv c j < cv d j → ¬ Knows n (fun k => nm k = s1) c d) := fun j h1 h2 h => by have := h.1 j h1; omega
  have HNn : Hid ((∀ i, i < n → nm i ≠ s1) → ¬ Knows n (fun k => nm k = s1) c d) := fun h h' => by obtain ⟨_, k, hk, e, _⟩ := h'; exact h k hk e
  have HF : Hid ((∀ j, j < n → cv d j ≤ cv c j) → ∀ k, k < n → nm k = s1 → ∀ w', Below w.heap.size w w' → Iff' (Knows n (fun k => nm k = s1) c d) w (.returned (.bool (decide (cv d k < cv c k)))) w') := fun h1 k hk e w' hb =>
    ⟨_, rfl, ⟨fun h => ⟨h1, k, hk, e, by have := of_decide_eq_true h; omega⟩, fun h => decide_eq_true (by
      obtain ⟨_, k', hk', e', h2⟩ := h
      have := hdist k' k hk' hk (e'.trans e.symm)
      subst this
      omega)⟩, hb⟩
  clear n1 n2 hdist hN
  unfold DnC Evv at *
  go_enter Try.func15, Try.ntmps15
  go_wp2_with fail
  refine Calls.mono (N1.out _ (below2 _ _ _)) ?_
  rintro e w1 ⟨B1, rfl, hd1, hb1, hs1⟩
  have q0 := (hb1.cell (p := ⟨w.heap.size, 0, none⟩) (by simp; omega))
  have g0 := (hb1.cell (p := ⟨w.heap.size + 1, 0, none⟩) (by simp))
  have g1 := (hb1.cell (p := ⟨w.heap.size + 1, 1, none⟩) (by simp))
  have g2 := (hb1.cell (p := ⟨w.heap.size + 1, 2, none⟩) (by simp))
  have g3 := (hb1.cell (p := ⟨w.heap.size + 1, 3, none⟩) (by simp))
  have g4 := (hb1.cell (p := ⟨w.heap.size + 1, 4, none⟩) (by simp))
  have g5 := (hb1.cell (p := ⟨w.heap.size + 1, 5, none⟩) (by simp))
  simp [go_sem] at q0 g0 g1 g2 g3 g4 g5
  have hbw1 : Below w.heap.size w w1 := below_trans (below2 _ _ _) hb1
  have HD1 : Hid (Dns w1 B1 n (cv c)) := hd1
  clear hb1 hd1
  go_wp2_with fail
  refine Calls.mono (N2.out _ hbw1) ?_
  rintro e w2 ⟨B2, rfl, hd2, hb2, hs2⟩
  have p0 := (hb2.cell (p := ⟨w.heap.size, 0, none⟩) (cell_lt q0)).trans q0
  have hbw2 : Below w.heap.size w w2 := below_trans hbw1 hb2
  have HD2 : Hid (Dns w2 B2 n (cv d)) := hd2
  have HD3 : Hid (Dns w2 B1 n (cv c)) := HD1.out.below hb2 hs1
  have HB2 : Hid (∀ m, Below w.heap.size w (w2.drewN m)) := fun m => below_drewN hbw2 m
  clear hd2 HD1 q0 g0 g1 g2 g3 g4 g5 hb2 hbw1 N1 N2
  go_wp2
  go_loopw [9] (fun kk wr => ∃ k m : Nat, kk = .int .i64 k ∧ k ≤ n ∧ (∀ j, j < k → cv d j ≤ cv c j) ∧ wr = w2.drewN m) (fun kk _ => n - (intOf kk).toNat)
  case atStart => exact ⟨0, 0, rfl, Nat.zero_le _, fun j h => absurd h (Nat.not_lt_zero _), rfl⟩
  case round =>
    obtain ⟨k, m, rfl, hk, hok, rfl⟩ := hrel
    have HOK : Hid (∀ j, j < k → cv d j ≤ cv c j) := hok
    clear hok
    by_cases hlt : k < n
    · have x1 : w2.cell? ⟨B1, k, none⟩ = some (.int .u32 (cv c k)) := (HD3.out k hlt).1
      have x2 : w2.cell? ⟨B2, k, none⟩ = some (.int .u32 (cv d k)) := (HD2.out k hlt).1
      have i1 : (0 : Int) ≤ (k : Int) := by omega
      have i2 : (k : Int) < (n : Int) := by omega
      have HNk := HNo.out k hlt
      have HNkk : Hid (cv c k < cv d k → ¬ Knows n (fun k => nm k = s1) c d) := HNk
      have HOS : Hid (cv d k ≤ cv c k → ∀ j, j < k + 1 → cv d j ≤ cv c j) := fun h => allS HOK.out h
      clear HNk HNo HNn HF HI HD2 HD3
      have fck := fc k
      have fdk := fd k
      clear fc fd
      generalize cv c k = vc at *
      generalize cv d k = vd at *
      by_cases hcd : vc < vd
      · have hdc : decide ((vc : Int) < (vd : Int)) = true := decide_eq_true (by omega)
        have HN : Hid (¬ Knows n (fun k => nm k = s1) c d) := HNkk.out hcd
        clear HNkk
        go_wp2
        go_quiet (fail)
        go_wp2
        go_ret
        exact iff_no HN.out (below_drewN (HB2.out _) _)
      · have hdc : decide ((vc : Int) < (vd : Int)) = false := decide_eq_false (by omega)
        have HO2 : Hid (∀ j, j < k + 1 → cv d j ≤ cv c j) := HOS.out (by omega)
        clear HNkk
        go_wp2
        go_quiet (fail)
        go_wp2
        go_roundw
        case rel => exact ⟨k + 1, _, by go_num, by omega, HO2.out, rfl⟩
        case measure => simp [intOf]; omega
    · have HFA : Hid (∀ j, j < n → cv d j ≤ cv c j) := fun j hj => HOK.out j (by omega)
      clear HOK HNo
      go_wp2_with fail
      refine Calls.mono (HI.out _ (HB2.out _)) ?_
      rintro e w3 ⟨rfl, hh⟩
      rcases hh with ⟨i, hi, hei, rfl⟩ | ⟨hno, rfl⟩
      · have x1 : w2.cell? ⟨B1, i, none⟩ = some (.int .u32 (cv c i)) := (HD3.out i hi).1
        have x2 : w2.cell? ⟨B2, i, none⟩ = some (.int .u32 (cv d i)) := (HD2.out i hi).1
        have i1 : (0 : Int) ≤ (i : Int) := by omega
        have i2 : (i : Int) < (n : Int) := by omega
        have HFF : Hid (∀ w', Below w.heap.size w w' → Iff' (Knows n (fun k => nm k = s1) c d) w (.returned (.bool (decide (cv d i < cv c i)))) w') := HF.out HFA.out i hi hei
        clear HNn HF HI HD2 HD3 hei
        have fck := fc i
        have fdk := fd i
        clear fc fd
        generalize cv c i = vc at *
        generalize cv d i = vd at *
        go_wp2
        go_quiet (fail)
        go_wp2
        go_ret
        exact HFF.out _ (below_drewN (HB2.out _) _)
      · have HN : Hid (¬ Knows n (fun k => nm k = s1) c d) := HNn.out hno
        clear HNn HF HI HD2 HD3 hno
        go_wp2
        go_ret
        exact iff_no HN.out (HB2.out _)
end Go.Proofs.Qxb6609005a
