import Derived.Test.Qxb6609005aNumb
import Derived.WalkKit
import Derived.ProofKit

import Derived.WalkSpells
import Derived.WalkSmall
import Derived.BigQuiet
import Derived.Deep.QuietTactic
import Derived.Deep.RegionHeld3
import Derived.Deep.DrawnRows
import Derived.Deep.RegionWith
import Derived.Deep.DeepCutAuto
namespace Go.Proofs.Qxb6609005a
open Go.RowKit Go.Kx Go.Kn
attribute [local go_sem ↓] Go.wp_at_zero Go.wp_at_succ
/-- The four cells of a clock. -/
def Cl4 (w : World) (B o : Nat) (hp : Option Addr) (c : Ck) (ka : Option Addr) (kc : Nat) : Prop :=
  w.cell? ⟨B, o, none⟩ = some (.pointer hp) ∧ w.cell? ⟨B, o + 1, none⟩ = some (.int .u32 c.own) ∧ w.cell? ⟨B, o + 2, none⟩ = some (.int .u32 c.cn) ∧ w.cell? ⟨B, o + 3, none⟩ = some (.slice ka c.kl kc)
theorem Cl4.below {w w' : World} {B o : Nat} {hp : Option Addr} {c : Ck} {ka : Option Addr} {kc : Nat} (h : Cl4 w B o hp c ka kc) (hb : Below w.heap.size w w') : Cl4 w' B o hp c ka kc :=
  ⟨(hb.cell (p := ⟨B, o, none⟩) (cell_lt h.1)).trans h.1, (hb.cell (p := ⟨B, o + 1, none⟩) (cell_lt h.2.1)).trans h.2.1, (hb.cell (p := ⟨B, o + 2, none⟩) (cell_lt h.2.2.1)).trans h.2.2.1, (hb.cell (p := ⟨B, o + 3, none⟩) (cell_lt h.2.2.2)).trans h.2.2.2⟩
theorem bcell {W w1 : World} (hb : Below W.heap.size W w1) : ∀ b o, b < W.heap.size → w1.cell? ⟨b, o, none⟩ = W.cell? ⟨b, o, none⟩ := fun b o h => hb.cell (p := ⟨b, o, none⟩) h
theorem below2 (w : World) (a b : Obj) : Below w.heap.size w ((w.alloc a).alloc b) := ((Below.refl _ _).alloc (Nat.le_refl _) a).alloc (by simp) b
/-- A bool that is true just if p; nothing old has turned. -/
def Iff' (p : Prop) (w : World) (e : Ending) (w' : World) : Prop := ∃ r, e = .returned (.bool r) ∧ (r = true ↔ p) ∧ Below w.heap.size w w'
theorem iff_no {p : Prop} {w w' : World} (h : ¬ p) (hb : Below w.heap.size w w') : Iff' p w (.returned (.bool false)) w' := ⟨false, rfl, ⟨fun h' => absurd h' (by decide), fun h' => absurd h' h⟩, hb⟩
theorem iff_yes {p : Prop} {w w' : World} (h : p) (hb : Below w.heap.size w w') : Iff' p w (.returned (.bool true)) w' := ⟨true, rfl, ⟨fun _ => h, fun _ => rfl⟩, hb⟩
theorem allS {P : Nat → Prop} {k : Nat} (h : ∀ t, t < k → P t) (hk : P k) : ∀ t, t < k + 1 → P t := fun t ht => by
  by_cases e : t < k
  · exact h t e
  · obtain rfl : t = k := by omega
    exact hk
/-- Entry t of c is at most d's. -/
def OKt (c d : Ck) (t : Nat) : Prop := (c.kh t = d.own → c.kn t ≤ d.cn) ∧ (c.kh t ≠ d.own → ∃ s, s < d.kl ∧ d.kh s = c.kh t ∧ c.kn t ≤ d.kn s)
set_option maxRecDepth 100000 in
set_option maxHeartbeats 2000000 in
theorem atMost_any (h1 h2 : Option Addr) (c d : Ck) (ka1 ka2 : Option Addr) (kc1 kc2 : Nat) (w : World) (fc : Fits c) (fd : Fits d) (ac : Asc c) (ad : Asc d) (k1 : Knw w ka1 c) (k2 : Knw w ka2 d) :
    Calls Try.prog 33 #[Ckv h1 c ka1 kc1, Ckv h2 d ka2 kc2] w (Iff' (AtM c d) w) := by
  have HC := fun w1 (hb1 : Below w.heap.size w w1) => count_any h2 d ka2 kc2 c.own w1 fd ad fc.own (k2.below hb1)
  unfold Ckv at *
  have HHC : Hid _ := HC
  clear HC
  go_enter Try.func33, Try.ntmps33
  go_upto_region 1 with fail
  go_cut [14] (fun t wx => t = .bool (decide (cv d c.own < c.cn)) ∧ Below w.heap.size w wx ∧ Cl4 wx w.heap.size 0 h1 c ka1 kc1 ∧ Cl4 wx (w.heap.size + 1) 0 h2 d ka2 kc2)
  case first =>
    go_region_held3 (fun w' => w'.cell? ⟨w.heap.size, 2, none⟩ = some (.int .u32 c.cn) ∧ w'.cell? ⟨w.heap.size, 1, none⟩ = some (.int .u32 c.own) ∧ w'.cell? ⟨w.heap.size + 1, 0, none⟩ = some (.pointer h2) ∧ w'.cell? ⟨w.heap.size + 1, 1, none⟩ = some (.int .u32 d.own) ∧ w'.cell? ⟨w.heap.size + 1, 2, none⟩ = some (.int .u32 d.cn) ∧ w'.cell? ⟨w.heap.size + 1, 3, none⟩ = some (.slice ka2 d.kl kc2)) (first | (simp [go_sem]; done) | (simp [go_sem, hcw]; done))
      (first | (go_at_call 41; refine Calls.mono (HHC.out _ (below2 _ _ _).drew) ?_; rintro e w2 ⟨rfl, hb2⟩; have hcw := bcell hb2))
    go_wp2
    go_meet
    have hbw : Below w.heap.size w w2 := ((below2 w _ _).drew).trans (hb2.mono (by simp; omega))
    refine ⟨rfl, hbw, ⟨?_, ?_, ?_, ?_⟩, ⟨?_, ?_, ?_, ?_⟩⟩ <;> simp [go_sem, hcw]
  case rest =>
    obtain ⟨h14, hbw, hcl1, hcl2⟩ := hcut
    by_cases hcn : cv d c.own < c.cn
    · have hd9 : decide (cv d c.own < c.cn) = true := decide_eq_true (by omega)
      rw [hd9] at h14
      subst h14
      clear hd9
      generalize hvv : cv d c.own = vv at *
      go_wp2
      go_ret
      exact iff_no (fun h => by have := h.1; omega) hbw
    · have hd9 : decide (cv d c.own < c.cn) = false := decide_eq_false (by omega)
      rw [hd9] at h14
      subst h14
      clear hd9
      have HV : Hid (c.cn ≤ cv d c.own) := by show _ ≤ _; omega
      have HOK : Hid ((∀ t, t < c.kl → OKt c d t) → AtM c d) := fun h => ⟨HV.out, h⟩
      have HNO : Hid (∀ t, t < c.kl → ¬ OKt c d t → ¬ AtM c d) := fun t ht hn h => hn (h.2 t ht)
      have hkl1 := fc.kl
      have hkl2 := fd.kl
      obtain ⟨e0, e1, e2, e3⟩ := hcl1
      obtain ⟨g0, g1, g2, g3⟩ := hcl2
      simp only [Nat.zero_add] at e1 e2 e3 g1 g2 g3
      clear HHC hcn HV
      generalize cv d c.own = vv at *
      go_wp2
      go_loopw [5, 18] (fun kk tt wr => ∃ t k : Nat, tt = .int .i64 t ∧ kk = .int .i64 k ∧ t ≤ c.kl ∧ k ≤ d.kl ∧ (∀ x, x < t → OKt c d x) ∧ (∀ s, s < k → ∀ x, t ≤ x → x < c.kl → d.kh s < c.kh x) ∧ Below w.heap.size w wr ∧ Below wc.heap.size wc wr) (fun _ tt _ => c.kl - (intOf tt).toNat)
      case atStart => exact ⟨0, 0, rfl, rfl, Nat.zero_le _, Nat.zero_le _, fun x h => absurd h (Nat.not_lt_zero _), fun x h => absurd h (Nat.not_lt_zero _), hbw, Below.refl _ _⟩
      case round =>
        obtain ⟨t, k, rfl, rfl, ht, hk, hok, hlow, hbr, hcr⟩ := hrel
        by_cases htl : t < c.kl
        · obtain ⟨b1, off1, rfl, hB1, hc1⟩ := (k1.below hbr).at (by omega)
          obtain ⟨x0, x1⟩ := hc1 t htl
          have bh := fc.kh t htl
          have bn := fc.kn t htl
          have q1 := (hcr.cell (p := ⟨w.heap.size + 1, 1, none⟩) (cell_lt g1)).trans g1
          have q2 := (hcr.cell (p := ⟨w.heap.size + 1, 2, none⟩) (cell_lt g2)).trans g2
          have q3 := (hcr.cell (p := ⟨w.heap.size + 1, 3, none⟩) (cell_lt g3)).trans g3
          have hsz : w.heap.size + 1 < wr.heap.size := cell_lt q1
          have hob := fd.own
          have hcb := fd.cn
          have HNt : Hid (¬ OKt c d t → ¬ AtM c d) := HNO.out t htl
          have HLow : Hid (∀ s, s < k → ∀ x, t ≤ x → x < c.kl → d.kh s < c.kh x) := hlow
          have HOKs : Hid (∀ x, x < t → OKt c d x) := hok
          have HK2 : Hid (Knw wr ka2 d) := k2.below hbr
          have HAC : Hid (Asc c) := ac
          have HAD : Hid (Asc d) := ad
          have HFD : Hid (∀ s, s < d.kl → d.kh s < 4294967296 ∧ d.kn s < 4294967296) := fun s hs => ⟨fd.kh s hs, fd.kn s hs⟩
          have HBr : Hid (Below w.heap.size w wr) := hbr
          have HCr : Hid (Below wc.heap.size wc wr) := hcr
          clear hc1 e0 e1 e2 e3 g0 g1 g2 g3 hlow hok k1 k2 ac ad fc fd hbr hcr hbw HNO HOK
          by_cases hEO : c.kh t = d.own
          · have hEb : ((c.kh t : Int) == (d.own : Int)) = true := beq_iff_eq.2 (by omega)
            by_cases hN : d.cn < c.kn t
            · have HN := HNt.out (fun h => by have := h.1 hEO; omega)
              clear hEO
              go_wp2
              go_ret
              exact iff_no HN (below_trans HBr.out (below_alloc _ _))
            · have HO : Hid (∀ x, x < t + 1 → OKt c d x) := allS HOKs.out ⟨fun _ => by omega, fun h => absurd hEO h⟩
              clear hEO
              go_wp2
              go_roundw
              case rel => exact ⟨t + 1, k, by go_num, rfl, by omega, hk, HO.out, fun s hs x h1 h2 => HLow.out s hs x (by omega) h2, below_trans HBr.out (below_alloc _ _), below_trans HCr.out (below_alloc _ _)⟩
              case measure => simp [intOf]; omega
          · have hEb : ((c.kh t : Int) == (d.own : Int)) = false := beq_eq_false_iff_ne.2 (by omega)
            go_wp2
            obtain ⟨wo, rfl⟩ : ∃ wo : World, wo = wr := ⟨_, rfl⟩
            go_loopw [5] (fun kk wx => ∃ k' : Nat, kk = .int .i64 k' ∧ k' ≤ d.kl ∧ (∀ s, s < k' → d.kh s < c.kh t) ∧ ∃ m, wx = (wo.alloc (.cells #[.int .u32 (c.kh t), .int .u32 (c.kn t)] 76)).drewN m) (fun kk _ => d.kl - (intOf kk).toNat)
            case atStart => exact ⟨k, rfl, hk, fun s hs => HLow.out s hs t (Nat.le_refl _) htl, 0, rfl⟩
            case round =>
              obtain ⟨j, rfl, hj, hlo, m, rfl⟩ := hrel
              have HLo : Hid (∀ s, s < j → d.kh s < c.kh t) := hlo
              clear hlo
              have HBn : Hid (∀ n, Below w.heap.size w ((wo.alloc (.cells #[.int .u32 (c.kh t), .int .u32 (c.kn t)] 76)).drewN n)) := fun n => below_drewN (below_trans HBr.out (below_alloc _ _)) n
              have HCn : Hid (∀ n, Below wc.heap.size wc ((wo.alloc (.cells #[.int .u32 (c.kh t), .int .u32 (c.kn t)] 76)).drewN n)) := fun n => below_drewN (below_trans HCr.out (below_alloc _ _)) n
              by_cases hjd : j < d.kl
              · obtain ⟨b2, off2, rfl, hB2, hc2⟩ := HK2.out.at (by omega)
                obtain ⟨y0, y1⟩ := hc2 j hjd
                have yb := HFD.out j hjd
                have yb1 := yb.1
                have yb2 := yb.2
                have i1 : (0 : Int) ≤ (j : Int) := by omega
                have i2 : (j : Int) < (d.kl : Int) := by omega
                have hdj : decide ((j : Int) < (d.kl : Int)) = true := decide_eq_true (by omega)
                have hdk : ((j : Int) == (d.kl : Int)) = false := beq_eq_false_iff_ne.2 (by omega)
                clear hc2 yb
                by_cases hlt : d.kh j < c.kh t
                · have hdl : decide ((d.kh j : Int) < (c.kh t : Int)) = true := decide_eq_true (by omega)
                  have HLo2 : Hid (∀ s, s < j + 1 → d.kh s < c.kh t) := allS HLo.out hlt
                  clear hEO
                  go_wp2
                  go_quiet (fail)
                  go_wp2
                  go_roundw
                  case rel => exact ⟨j + 1, by go_num, by omega, HLo2.out, _, rfl⟩
                  case measure => simp [intOf]; omega
                · have hdl : decide ((d.kh j : Int) < (c.kh t : Int)) = false := decide_eq_false (by omega)
                  by_cases heq : d.kh j = c.kh t
                  · have hne9 : ((d.kh j : Int) != (c.kh t : Int)) = false := by rw [bne_eq_false_iff_eq]; omega
                    by_cases hN : d.kn j < c.kn t
                    · have hdn : decide ((d.kn j : Int) < (c.kn t : Int)) = true := decide_eq_true (by omega)
                      have HN := HNt.out (fun h => by
                        obtain ⟨s, hs, es, hle⟩ := h.2 hEO
                        have := HAD.out.inj hs hjd (es.trans heq.symm)
                        subst this
                        omega)
                      have HNN : Hid (¬ AtM c d) := HN
                      clear hEO heq HN
                      go_wp2
                      go_quiet (fail)
                      go_wp2
                      go_quiet (fail)
                      go_wp2
                      go_ret
                      exact iff_no HNN.out (below_drewN (below_drewN (HBn.out _) _) _)
                    · have hdn : decide ((d.kn j : Int) < (c.kn t : Int)) = false := decide_eq_false (by omega)
                      have HO : Hid (∀ x, x < t + 1 → OKt c d x) := allS HOKs.out ⟨fun h => absurd h hEO, fun _ => ⟨j, hjd, heq, by omega⟩⟩
                      have HL2 : Hid (∀ s, s < j → ∀ x, t + 1 ≤ x → x < c.kl → d.kh s < c.kh x) := fun s hs x h1 h2 => by
                        have := HLo.out s hs
                        have := HAC.out t x (by omega) h2
                        omega
                      clear hEO heq
                      go_wp2
                      go_quiet (fail)
                      go_wp2
                      go_quiet (fail)
                      go_wp2
                      go_roundw
                      case rel => exact ⟨t + 1, j, by go_num, rfl, by omega, by omega, HO.out, HL2.out, HBn.out _, HCn.out _⟩
                      case measure => simp [intOf]; omega
                  · have hne9 : ((d.kh j : Int) != (c.kh t : Int)) = true := by rw [bne_iff_ne]; omega
                    have HN := HNt.out (fun h => by
                      obtain ⟨s, hs, es, hle⟩ := h.2 hEO
                      by_cases g : s < j
                      · have := HLo.out s g; omega
                      · by_cases g2 : s = j
                        · subst g2; exact heq es
                        · have := HAD.out j s (by omega) hs; omega)
                    have HNN : Hid (¬ AtM c d) := HN
                    clear hEO heq HN
                    go_wp2
                    go_quiet (fail)
                    go_wp2
                    go_quiet (fail)
                    go_wp2
                    go_ret
                    exact iff_no HNN.out (below_drewN (below_drewN (HBn.out _) _) _)
              · have hdj : decide ((j : Int) < (d.kl : Int)) = false := decide_eq_false (by omega)
                have hdk : ((j : Int) == (d.kl : Int)) = true := beq_iff_eq.2 (by omega)
                have HN := HNt.out (fun h => by
                  obtain ⟨s, hs, es, hle⟩ := h.2 hEO
                  have := HLo.out s (by omega)
                  omega)
                have HNN : Hid (¬ AtM c d) := HN
                clear hEO HN
                go_wp2
                go_quiet (fail)
                go_wp2
                go_quiet (fail)
                go_wp2
                go_ret
                exact iff_no HNN.out (below_drewN (below_drewN (HBn.out _) _) _)
        · have HF := HOK.out (fun x hx => hok x (by omega))
          go_wp2
          go_ret
          exact iff_yes HF hbr
end Go.Proofs.Qxb6609005a
