import Derived.Test.Qxb6608767aEarly
import Derived.Test.Qxb6608767aPlain
import Derived.WalkKit
import Derived.ProofKit

import Derived.WalkSpells
import Derived.WalkSmall
import Derived.Deep.DeepCutAuto
namespace Go.Proofs.Qxb6608767a
open Go.RowKit Go.Kx
set_option maxRecDepth 100000 in
set_option maxHeartbeats 4000000 in
theorem law_any (na va oa : Option Addr) (n nc vl vc ol oc : Nat) (nm : Nat → ByteArray) (vv : Nat → Int) (od : Nat → Int) (j : Int) (w : World)
    (hN : Sl w na n (fun i => .string (nm i))) (hV : Sl w va vl (fun i => .int .i64 (vv i))) (hO : Sl w oa ol (fun i => .int .u16 (od i)))
    (hzz : Calls Try.prog 10 #[.slice na n nc, .slice va vl vc, .slice oa ol oc, .int .i64 j] w (SomeBool (∀ i, i < n → (nm i).size ≤ 1048576) w)) (n0 : na = none → n = 0 ∧ nc = 0) (v0 : va = none → vl = 0 ∧ vc = 0) (o0 : oa = none → ol = 0 ∧ oc = 0)
    (hod : ∀ i, i < ol → 0 ≤ od i ∧ od i < 65536) (h1 : n ≤ 4096) (h2 : vl ≤ 4096) (h3 : ol ≤ 4096) :
    Calls Try.prog 4 #[.slice na n nc, .slice va vl vc, .slice oa ol oc, .int .i64 j] w (Done w) := by
  have e22 := fun w a n c => run_neq_slice_nil_any (P := Try.prog) w 22 _ a n c 0 0 Try.underlying22
  have e23 := fun w a n c => run_neq_slice_nil_any (P := Try.prog) w 23 _ a n c 0 0 Try.underlying23
  have e24 := fun w a n c => run_neq_slice_nil_any (P := Try.prog) w 24 _ a n c 0 0 Try.underlying24
  have m22 := mk22 n h1
  have m23 := mk23 vl h2
  have m24 := mk24 ol h3
  go_enter Try.func4, Try.ntmps4
  go_upto_if 40 with (go_at_call 10; refine Calls.mono hzz ?_; rintro e w' ⟨r, rfl, rfl, hs0⟩; cases r)
  · go_ret
    exact done (Below.refl _ _)
  have hs := hs0 (by simp)
  clear hs0
  go_cut [0, 9] (fun v0 _ wc => Cp w wc v0 n (fun i => .string (nm i)) ∧ Below w.heap.size w wc)
  case first =>
    cases na with
    | none =>
      obtain ⟨rfl, rfl⟩ := n0 rfl
      go_wp2
      go_meet
      exact ⟨Or.inl ⟨rfl, rfl⟩, Below.refl _ _⟩
    | some a =>
      go_wp2_with (refine wpList_copy_full (by rfl) (.tmp 44) (.tmp 45) 22 22 (by rfl) 9 Try.underlying22 (by kernel_rfl) w.heap.size n nc (some a) (by rfl) (by rfl) (madeCells #[.string ByteArray.empty] n) 9 (heap_alloc_new w _) (size_madeCells _ _) (fun i => .string (nm i)) hN.srcA (fun i _ => rfl) w.heap.size w (below_alloc _ _) (Nat.le_refl _) ?_; intro w1 hrow hb hg)
      go_wp2
      go_meet
      exact ⟨Or.inr ⟨_, rfl, Nat.le_refl _, hg, hrow.out⟩, hb⟩
  case rest =>
    obtain ⟨hc0, hb0⟩ := hcut
    have hV0 := hV.below hb0
    have HC0 : Hid (Cp w wc u0 n (fun i => .string (nm i))) := hc0
    obtain ⟨w1, rfl⟩ : ∃ w1 : World, w1 = wc := ⟨_, rfl⟩
    clear hc0 hN hV hzz n0 m22 e22
    go_upto_if 49 with fail
    go_cut [1, 10] (fun v1 _ wx => Cp w wx v1 vl (fun i => .int .i64 (vv i)) ∧ Below w1.heap.size w1 wx)
    case first =>
      cases va with
      | none =>
        obtain ⟨rfl, rfl⟩ := v0 rfl
        go_wp2
        go_meet
        exact ⟨Or.inl ⟨rfl, rfl⟩, Below.refl _ _⟩
      | some a =>
        go_wp2_with (refine wpList_copy_full (by rfl) (.tmp 53) (.tmp 54) 23 23 (by rfl) 2 Try.underlying23 (by kernel_rfl) w1.heap.size vl vc (some a) (by rfl) (by rfl) (madeCells #[.int .i64 0] vl) 2 (heap_alloc_new w1 _) (size_madeCells _ _) (fun i => .int .i64 (vv i)) hV0.srcA (fun i _ => rfl) w1.heap.size w1 (below_alloc _ _) (Nat.le_refl _) ?_; intro w2 hrow hb hg)
        go_wp2
        go_meet
        exact ⟨Or.inr ⟨_, rfl, hb0.size, hg, hrow.out⟩, hb⟩
    case rest =>
      obtain ⟨hc1, hb1⟩ := hcut
      have HC0' : Hid (Cp w wc u0 n (fun i => .string (nm i))) := HC0.out.below hb1
      have HC1 : Hid (Cp w wc u1 vl (fun i => .int .i64 (vv i))) := hc1
      have hbb := below_trans hb0 hb1
      have hO1 := hO.below hbb
      obtain ⟨w2, rfl⟩ : ∃ w2 : World, w2 = wc := ⟨_, rfl⟩
      clear hc1 hV0 hb0 hb1 HC0 v0 m23 e23 hO
      go_upto_if 58 with fail
      go_cut [2, 11] (fun v2 _ wx => Od w wx v2 ol (fun i => .int .u16 (od i)) ∧ Below w2.heap.size w2 wx)
      case first =>
        cases oa with
        | none =>
          obtain ⟨rfl, rfl⟩ := o0 rfl
          go_wp2
          go_meet
          exact ⟨Or.inl rfl, Below.refl _ _⟩
        | some a =>
          go_wp2_with (refine wpList_copy_full (by rfl) (.tmp 62) (.tmp 63) 24 24 (by rfl) 29 Try.underlying24 (by kernel_rfl) w2.heap.size ol oc (some a) (by rfl) (by rfl) (madeCells #[.int .u16 0] ol) 29 (heap_alloc_new w2 _) (size_madeCells _ _) (fun i => .int .u16 (od i)) hO1.srcA (fun i _ => rfl) w2.heap.size w2 (below_alloc _ _) (Nat.le_refl _) ?_; intro w3 hrow hb hg)
          go_wp2
          go_meet
          exact ⟨Or.inr ⟨_, rfl, hbb.size, hg, hrow.out⟩, hb⟩
      case rest =>
        obtain ⟨hc2, hb2⟩ := hcut
        have hN2 := HC0'.out.below hb2
        have hV2 := HC1.out.below hb2
        have hB2 := below_trans hbb hb2
        clear HC0' HC1 hb2 hbb m24 e24 o0 hO1
        by_cases hn0 : n = 0
        · subst hn0
          obtain ⟨a0, c0, rfl, _⟩ := hN2.gen
          obtain ⟨a1, c1, rfl, _⟩ := hV2.gen
          obtain ⟨a2, l2, c2, rfl, hl2⟩ := hc2.gen h3
          clear hN2 hV2 hc2 hs hod
          go_wp2
          go_loop [12, 13] (fun t i => ∃ s : Nat, s ≤ 1048576 ∧ i = .int .i64 0 ∧ t = .int .i64 s) (fun _ _ => 0)
          case atStart => exact ⟨8 * vl + 2 * l2, by omega, rfl, by go_num⟩
          case round =>
            obtain ⟨s, hs, rfl, rfl⟩ := hrel
            by_cases hj : j < 0
            · go_wp2
              go_ret
              exact done hB2
            · go_wp2
              go_ret
              exact done hB2
        · obtain ⟨a0, c0, rfl, g0⟩ := hN2.gen
          obtain ⟨Bn, rfl, rfl, b1, b2, rN⟩ := g0 (Nat.pos_of_ne_zero hn0)
          obtain ⟨a1, c1, rfl, g1⟩ := hV2.gen
          clear hN2 hV2
          by_cases hvn : vl = n
          · obtain rfl : n = vl := hvn.symm
            obtain ⟨Bv, rfl, rfl, b3, b4, rV⟩ := g1 (Nat.pos_of_ne_zero hn0)
            clear hvn g1
            rcases hc2 with rfl | ⟨Bo, rfl, b5, b6, rO⟩
            · by_cases hj : 0 ≤ j ∧ j < n
              · obtain ⟨J, rfl⟩ := Int.eq_ofNat_of_zero_le hj.1
                have hJ : J < n := by omega
                clear hj
                have cN := fun k (hk : k < n) => (rN k hk).1
                go_wp2
                go_loop [12, 13] (fun t i => ∃ k s : Nat, k ≤ n ∧ s ≤ 1048576 ∧ i = .int .i64 k ∧ t = .int .i64 s) (fun _ i => n - (intOf i).toNat)
                case atStart => exact ⟨0, 8 * n + 2 * 0 + 16 * n, by omega, by omega, rfl, by go_num⟩
                case round =>
                  obtain ⟨k, s, hk, hsm, rfl, rfl⟩ := hrel
                  by_cases hlt : k < n
                  · have c := cN k hlt
                    have sz := hs k hlt
                    clear cN hs
                    by_cases h4 : s + (nm k).size ≤ 1048576
                    · go_wp2
                      go_round
                      case rel => exact ⟨k + 1, s + (nm k).size, by omega, h4, by go_num, by go_num⟩
                      case measure => simp [intOf]; omega
                    · go_wp2
                      go_ret
                      exact done hB2
                  · go_wp2_with fail
                    refine Calls.mono (layoutN_any Bn n nm (some ⟨Bv, 0, none⟩) n n wc h1 (fun i hi => Nat.le_trans (hs i hi) (by decide)) cN) ?_
                    rintro e w3 ⟨r, rfl, hr, hb3⟩
                    cases r
                    · go_wp2
                      go_ret
                      exact done (below_trans hB2 hb3)
                    · have hasc := (hr (by simp)).2
                      clear hr hs
                      have cN3 := fun k (hk : k < n) => (hb3.cell (p := ⟨Bn, k, none⟩) b2).trans (cN k hk)
                      have cV3 := fun k (hk : k < n) => (hb3.cell (p := ⟨Bv, k, none⟩) b4).trans (rV k hk).1
                      have hlt9 := fun i (hi : i < J) => chain_lt (fun i => (nm i).data.toList) hasc i J hi hJ
                      have hge9 : ∀ i, J ≤ i → i < n → 0 ≤ Lib.compareBytes (nm i).data.toList (nm J).data.toList := fun i h1 h2 => by
                        by_cases e : i = J
                        · subst e; rw [cmp_self]; exact Int.le_refl _
                        · exact cmp_back _ _ (chain_lt (fun i => (nm i).data.toList) hasc J i (by omega) h2)
                      clear hasc cN rN rV
                      have HL : Hid (∀ i, i < J → Lib.compareBytes (nm i).data.toList (nm J).data.toList < 0) := hlt9
                      have HG : Hid (∀ i, J ≤ i → i < n → 0 ≤ Lib.compareBytes (nm i).data.toList (nm J).data.toList) := hge9
                      clear hlt9 hge9
                      go_wp2_with fail
                      refine Calls.mono (newN_any Bn Bv n nm vv w3 h1 cN3 cV3) ?_
                      rintro e w4 ⟨Bb, Be, rfl, q0, q1, hE, hb4⟩
                      have cJ := (hb4.cell (p := ⟨Bn, J, none⟩) (Nat.lt_of_lt_of_le b2 hb3.size)).trans (cN3 J hJ)
                      have cV := (hb4.cell (p := ⟨Bv, J, none⟩) (Nat.lt_of_lt_of_le b4 hb3.size)).trans (cV3 J hJ)
                      have hS := zsearch_any (.pointer (some ⟨Bb, 0, none⟩)) (nm J) J w4 (searchE_any Bb Be n J (nm J) nm vv w4 h1 hJ q0 q1 (fun i hi => hE.at i hi (Nat.le_refl _)) HL.out HG.out (cmp_self _))
                      have HS : Hid _ := hS
                      clear hS HL HG cN3 cV3
                      go_wp2_with fail
                      refine Calls.mono HS.out ?_
                      rintro e w5 ⟨rfl, hb5⟩
                      clear HS
                      have cJ5 := (hb5.cell (p := ⟨Bn, J, none⟩) (cell_lt cJ)).trans cJ
                      have cV5 := (hb5.cell (p := ⟨Bv, J, none⟩) (cell_lt cV)).trans cV
                      have q5 := (hb5.cell (p := ⟨Bb, 0, none⟩) (cell_lt q0)).trans q0
                      have eS := (hb5.cell (p := ⟨Be, J * 2, none⟩) (cell_lt (hE.at J hJ (Nat.le_refl _)).1)).trans (hE.at J hJ (Nat.le_refl _)).1
                      have eV := (hb5.cell (p := ⟨Be, J * 2 + 1, none⟩) (cell_lt (hE.at J hJ (Nat.le_refl _)).2)).trans (hE.at J hJ (Nat.le_refl _)).2
                      have eJ : ((J : Int) % 32768).toNat = J := by omega
                      have hZ := zentry_any Bb Be n (J : Int) (by omega) (by omega) (by omega) (nm J) (vv J) w5 q5 (by rw [eJ]; exact eS) (by rw [eJ]; exact eV)
                      have HZ : Hid _ := hZ
                      have hpe : wrap64 (bits BinOp.andNot IntKind.u16 (J : Int) 32768) = (J : Int) := by rw [plc_eq _ (by omega) (by omega)]; omega
                      have e24 := fun w a n c => run_neq_slice_nil_any (P := Try.prog) w 24 _ a n c 0 0 Try.underlying24
                      have hbF := below_trans (below_trans (below_trans hB2 hb3) hb4) hb5
                      clear hZ eS eV eJ hE q0 q1 cJ cV hb3 hb4 hb5 q5
                      go_wp2_with fail
                      refine Calls.mono HZ.out ?_
                      rintro e w6 ⟨rfl, k6, rfl⟩
                      go_wp2
                      go_ret
                      exact done (below_drewN hbF _)
              · 
                have cN := fun k (hk : k < n) => (rN k hk).1
                go_wp2
                go_loop [12, 13] (fun t i => ∃ k s : Nat, k ≤ n ∧ s ≤ 1048576 ∧ i = .int .i64 k ∧ t = .int .i64 s) (fun _ i => n - (intOf i).toNat)
                case atStart => exact ⟨0, 8 * n + 2 * 0 + 16 * n, by omega, by omega, rfl, by go_num⟩
                case round =>
                  obtain ⟨k, s, hk, hsm, rfl, rfl⟩ := hrel
                  by_cases hlt : k < n
                  · have c := cN k hlt
                    have sz := hs k hlt
                    clear cN hs
                    by_cases h4 : s + (nm k).size ≤ 1048576
                    · go_wp2
                      go_round
                      case rel => exact ⟨k + 1, s + (nm k).size, by omega, h4, by go_num, by go_num⟩
                      case measure => simp [intOf]; omega
                    · go_wp2
                      go_ret
                      exact done hB2
                  · by_cases hj0 : j < 0
                    · go_wp2
                      go_ret
                      exact done hB2
                    · go_wp2
                      go_ret
                      exact done hB2

            · by_cases hol : ol = n
              · obtain rfl : n = ol := hol.symm
                clear hol
                by_cases hj : 0 ≤ j ∧ j < n
                · obtain ⟨J, rfl⟩ := Int.eq_ofNat_of_zero_le hj.1
                  have hJ : J < n := by omega
                  clear hj
                  have cN := fun k (hk : k < n) => (rN k hk).1
                  go_wp2
                  go_loop [12, 13] (fun t i => ∃ k s : Nat, k ≤ n ∧ s ≤ 1048576 ∧ i = .int .i64 k ∧ t = .int .i64 s) (fun _ i => n - (intOf i).toNat)
                  case atStart => exact ⟨0, 8 * n + 2 * n + 16 * n, by omega, by omega, rfl, by go_num⟩
                  case round =>
                    obtain ⟨k, s, hk, hsm, rfl, rfl⟩ := hrel
                    by_cases hlt : k < n
                    · have c := cN k hlt
                      have sz := hs k hlt
                      clear cN hs
                      by_cases h4 : s + (nm k).size ≤ 1048576
                      · go_wp2
                        go_round
                        case rel => exact ⟨k + 1, s + (nm k).size, by omega, h4, by go_num, by go_num⟩
                        case measure => simp [intOf]; omega
                      · go_wp2
                        go_ret
                        exact done hB2
                    · go_wp2_with fail
                      refine Calls.mono (layoutO_any Bn Bo n n nm od (fun i => (od i % 32768).toNat) (some ⟨Bv, 0, none⟩) n n wc h1 (fun i hi => Nat.le_trans (hs i hi) (by decide)) cN (fun i hi => ⟨(rO i hi).1, hod i hi⟩) (fun i hi => by have := hod i hi; omega)) ?_
                      rintro e w3 ⟨r, rfl, hr, hb3⟩
                      cases r
                      · go_wp2
                        go_ret
                        exact done (below_trans hB2 hb3)
                      · obtain ⟨_, _, hpn, hasc⟩ := hr (by simp)
                        clear hr hs
                        have hpi : ∀ i k, i < k → k < n → (od i % 32768).toNat ≠ (od k % 32768).toNat := fun i k h1 h2 e => by
                          have := chain_lt (fun i => (nm (od i % 32768).toNat).data.toList) hasc i k h1 h2
                          simp only [e] at this
                          rw [cmp_self] at this
                          exact absurd this (by decide)
                        obtain ⟨m, hm, hpm⟩ := onto (fun i => (od i % 32768).toNat) hpn hpi J hJ
                        clear hpi
                        have hpm : (od m % 32768).toNat = J := hpm
                        have cN3 := fun k (hk : k < n) => (hb3.cell (p := ⟨Bn, k, none⟩) b2).trans (cN k hk)
                        have cV3 := fun k (hk : k < n) => (hb3.cell (p := ⟨Bv, k, none⟩) b4).trans (rV k hk).1
                        have cO3 := fun k (hk : k < n) => (hb3.cell (p := ⟨Bo, k, none⟩) b6).trans (rO k hk).1
                        have hlt9 : ∀ i, i < m → Lib.compareBytes (nm (od i % 32768).toNat).data.toList (nm J).data.toList < 0 := fun i hi => by
                          have := chain_lt (fun i => (nm (od i % 32768).toNat).data.toList) hasc i m hi hm
                          simp only [hpm] at this
                          exact this
                        have hge9 : ∀ i, m ≤ i → i < n → 0 ≤ Lib.compareBytes (nm (od i % 32768).toNat).data.toList (nm J).data.toList := fun i h1 h2 => by
                          by_cases e : i = m
                          · subst e; rw [hpm, cmp_self]; exact Int.le_refl _
                          · have := cmp_back _ _ (chain_lt (fun i => (nm (od i % 32768).toNat).data.toList) hasc m i (by omega) h2)
                            simp only [hpm] at this
                            exact this
                        have heq9 : Lib.compareBytes (nm (od m % 32768).toNat).data.toList (nm J).data.toList = 0 := by rw [hpm]; exact cmp_self _
                        clear hasc cN rN rV rO
                        have HL : Hid (∀ i, i < m → Lib.compareBytes (nm (od i % 32768).toNat).data.toList (nm J).data.toList < 0) := hlt9
                        have HG : Hid (∀ i, m ≤ i → i < n → 0 ≤ Lib.compareBytes (nm (od i % 32768).toNat).data.toList (nm J).data.toList) := hge9
                        have HQ : Hid (Lib.compareBytes (nm (od m % 32768).toNat).data.toList (nm J).data.toList = 0) := heq9
                        have HM : Hid ((od m % 32768).toNat = J) := hpm
                        have HPN : Hid (∀ i, i < n → (od i % 32768).toNat < n) := hpn
                        have om := hod m hm
                        have HOD : Hid (∀ i, i < n → 0 ≤ od i ∧ od i < 65536) := hod
                        clear hlt9 hge9 heq9 hpm hpn hod
                        go_wp2_with fail
                        refine Calls.mono (newO_any Bn Bv Bo n nm vv od w3 h1 cN3 cV3 cO3) ?_
                        rintro e w4 ⟨Bb, Be, Bp, rfl, q0, q1, hE, hP, hb4⟩
                        have cJ := (hb4.cell (p := ⟨Bn, J, none⟩) (Nat.lt_of_lt_of_le b2 hb3.size)).trans (cN3 J hJ)
                        have cV := (hb4.cell (p := ⟨Bv, J, none⟩) (Nat.lt_of_lt_of_le b4 hb3.size)).trans (cV3 J hJ)
                        have cO := (hb4.cell (p := ⟨Bo, m, none⟩) (Nat.lt_of_lt_of_le b6 hb3.size)).trans (cO3 m hm)
                        have hS := zsearch_any (.pointer (some ⟨Bb, 0, none⟩)) (nm J) m w4 (searchO_any Bb Be Bp n m (nm J) (fun i => nm (od i % 32768).toNat) od w4 h1 hm q0 q1 (fun i hi => ⟨hP i hi, (HOD.out i hi).1, (HOD.out i hi).2, by have := HPN.out i hi; have := HOD.out i hi; omega⟩) (fun i hi => (hE.at _ (HPN.out i hi) (Nat.le_refl _)).1) HL.out HG.out HQ.out)
                        have HS : Hid _ := hS
                        clear hS HL HG cN3 cV3 cO3 HQ HPN HOD hP
                        go_wp2_with fail
                        refine Calls.mono HS.out ?_
                        rintro e w5 ⟨rfl, hb5⟩
                        clear HS
                        have cJ5 := (hb5.cell (p := ⟨Bn, J, none⟩) (cell_lt cJ)).trans cJ
                        have cV5 := (hb5.cell (p := ⟨Bv, J, none⟩) (cell_lt cV)).trans cV
                        have cO5 := (hb5.cell (p := ⟨Bo, m, none⟩) (cell_lt cO)).trans cO
                        have q5 := (hb5.cell (p := ⟨Bb, 0, none⟩) (cell_lt q0)).trans q0
                        have eS := (hb5.cell (p := ⟨Be, J * 2, none⟩) (cell_lt (hE.at J hJ (Nat.le_refl _)).1)).trans (hE.at J hJ (Nat.le_refl _)).1
                        have eV := (hb5.cell (p := ⟨Be, J * 2 + 1, none⟩) (cell_lt (hE.at J hJ (Nat.le_refl _)).2)).trans (hE.at J hJ (Nat.le_refl _)).2
                        have hZ := zentry_any Bb Be n (od m) om.1 om.2 (by have := HM.out; omega) (nm J) (vv J) w5 q5 (by rw [HM.out]; exact eS) (by rw [HM.out]; exact eV)
                        have HZ : Hid _ := hZ
                        have hpe : wrap64 (bits BinOp.andNot IntKind.u16 (od m) 32768) = (J : Int) := by rw [plc_eq _ om.1 om.2]; have := HM.out; omega
                        have e24 := fun w a n c => run_neq_slice_nil_any (P := Try.prog) w 24 _ a n c 0 0 Try.underlying24
                        have hbF := below_trans (below_trans (below_trans hB2 hb3) hb4) hb5
                        clear hZ eS eV hE q0 q1 cJ cV cO hb3 hb4 hb5 q5 HM
                        go_wp2_with fail
                        refine Calls.mono HZ.out ?_
                        rintro e w6 ⟨rfl, k6, rfl⟩
                        go_wp2
                        go_ret
                        exact done (below_drewN hbF _)
                · 
                  have cN := fun k (hk : k < n) => (rN k hk).1
                  go_wp2
                  go_loop [12, 13] (fun t i => ∃ k s : Nat, k ≤ n ∧ s ≤ 1048576 ∧ i = .int .i64 k ∧ t = .int .i64 s) (fun _ i => n - (intOf i).toNat)
                  case atStart => exact ⟨0, 8 * n + 2 * n + 16 * n, by omega, by omega, rfl, by go_num⟩
                  case round =>
                    obtain ⟨k, s, hk, hsm, rfl, rfl⟩ := hrel
                    by_cases hlt : k < n
                    · have c := cN k hlt
                      have sz := hs k hlt
                      clear cN hs
                      by_cases h4 : s + (nm k).size ≤ 1048576
                      · go_wp2
                        go_round
                        case rel => exact ⟨k + 1, s + (nm k).size, by omega, h4, by go_num, by go_num⟩
                        case measure => simp [intOf]; omega
                      · go_wp2
                        go_ret
                        exact done hB2
                    · by_cases hj0 : j < 0
                      · go_wp2
                        go_ret
                        exact done hB2
                      · go_wp2
                        go_ret
                        exact done hB2

              · by_cases hj : 0 ≤ j ∧ j < n
                · obtain ⟨J, rfl⟩ := Int.eq_ofNat_of_zero_le hj.1
                  have hJ : J < n := by omega
                  clear hj
                  have cN := fun k (hk : k < n) => (rN k hk).1
                  go_wp2
                  go_loop [12, 13] (fun t i => ∃ k s : Nat, k ≤ n ∧ s ≤ 1048576 ∧ i = .int .i64 k ∧ t = .int .i64 s) (fun _ i => n - (intOf i).toNat)
                  case atStart => exact ⟨0, 8 * n + 2 * ol + 16 * n, by omega, by omega, rfl, by go_num⟩
                  case round =>
                    obtain ⟨k, s, hk, hsm, rfl, rfl⟩ := hrel
                    by_cases hlt : k < n
                    · have c := cN k hlt
                      have sz := hs k hlt
                      clear cN hs
                      by_cases h4 : s + (nm k).size ≤ 1048576
                      · go_wp2
                        go_round
                        case rel => exact ⟨k + 1, s + (nm k).size, by omega, h4, by go_num, by go_num⟩
                        case measure => simp [intOf]; omega
                      · go_wp2
                        go_ret
                        exact done hB2
                    · go_wp2_with fail
                      refine Calls.mono (layoutO_any Bn Bo n ol nm od (fun i => (od i % 32768).toNat) (some ⟨Bv, 0, none⟩) n n wc h1 (fun i hi => Nat.le_trans (hs i hi) (by decide)) cN (fun i hi => ⟨(rO i hi).1, hod i hi⟩) (fun i hi => by have := hod i hi; omega)) ?_
                      rintro e w3 ⟨r, rfl, hr, hb3⟩
                      cases r
                      · go_wp2
                        go_ret
                        exact done (below_trans hB2 hb3)
                      · exact absurd (hr (by simp)).2.1 hol
                · 
                  have cN := fun k (hk : k < n) => (rN k hk).1
                  go_wp2
                  go_loop [12, 13] (fun t i => ∃ k s : Nat, k ≤ n ∧ s ≤ 1048576 ∧ i = .int .i64 k ∧ t = .int .i64 s) (fun _ i => n - (intOf i).toNat)
                  case atStart => exact ⟨0, 8 * n + 2 * ol + 16 * n, by omega, by omega, rfl, by go_num⟩
                  case round =>
                    obtain ⟨k, s, hk, hsm, rfl, rfl⟩ := hrel
                    by_cases hlt : k < n
                    · have c := cN k hlt
                      have sz := hs k hlt
                      clear cN hs
                      by_cases h4 : s + (nm k).size ≤ 1048576
                      · go_wp2
                        go_round
                        case rel => exact ⟨k + 1, s + (nm k).size, by omega, h4, by go_num, by go_num⟩
                        case measure => simp [intOf]; omega
                      · go_wp2
                        go_ret
                        exact done hB2
                    · by_cases hj0 : j < 0
                      · go_wp2
                        go_ret
                        exact done hB2
                      · go_wp2
                        go_ret
                        exact done hB2

          · clear g1
            rcases hc2 with rfl | ⟨Bo, rfl, b5, b6, rO⟩
            · by_cases hj : 0 ≤ j ∧ j < n
              · obtain ⟨J, rfl⟩ := Int.eq_ofNat_of_zero_le hj.1
                have hJ : J < n := by omega
                clear hj
                have cN := fun k (hk : k < n) => (rN k hk).1
                go_wp2
                go_loop [12, 13] (fun t i => ∃ k s : Nat, k ≤ n ∧ s ≤ 1048576 ∧ i = .int .i64 k ∧ t = .int .i64 s) (fun _ i => n - (intOf i).toNat)
                case atStart => exact ⟨0, 8 * vl + 2 * 0 + 16 * n, by omega, by omega, rfl, by go_num⟩
                case round =>
                  obtain ⟨k, s, hk, hsm, rfl, rfl⟩ := hrel
                  by_cases hlt : k < n
                  · have c := cN k hlt
                    have sz := hs k hlt
                    clear cN hs
                    by_cases h4 : s + (nm k).size ≤ 1048576
                    · go_wp2
                      go_round
                      case rel => exact ⟨k + 1, s + (nm k).size, by omega, h4, by go_num, by go_num⟩
                      case measure => simp [intOf]; omega
                    · go_wp2
                      go_ret
                      exact done hB2
                  · go_wp2_with fail
                    refine Calls.mono (layoutN_any Bn n nm a1 vl c1 wc h1 (fun i hi => Nat.le_trans (hs i hi) (by decide)) cN) ?_
                    rintro e w3 ⟨r, rfl, hr, hb3⟩
                    cases r
                    · go_wp2
                      go_ret
                      exact done (below_trans hB2 hb3)
                    · exact absurd (hr rfl).1 hvn
              · 
                have cN := fun k (hk : k < n) => (rN k hk).1
                go_wp2
                go_loop [12, 13] (fun t i => ∃ k s : Nat, k ≤ n ∧ s ≤ 1048576 ∧ i = .int .i64 k ∧ t = .int .i64 s) (fun _ i => n - (intOf i).toNat)
                case atStart => exact ⟨0, 8 * vl + 2 * 0 + 16 * n, by omega, by omega, rfl, by go_num⟩
                case round =>
                  obtain ⟨k, s, hk, hsm, rfl, rfl⟩ := hrel
                  by_cases hlt : k < n
                  · have c := cN k hlt
                    have sz := hs k hlt
                    clear cN hs
                    by_cases h4 : s + (nm k).size ≤ 1048576
                    · go_wp2
                      go_round
                      case rel => exact ⟨k + 1, s + (nm k).size, by omega, h4, by go_num, by go_num⟩
                      case measure => simp [intOf]; omega
                    · go_wp2
                      go_ret
                      exact done hB2
                  · by_cases hj0 : j < 0
                    · go_wp2
                      go_ret
                      exact done hB2
                    · go_wp2
                      go_ret
                      exact done hB2

            · by_cases hj : 0 ≤ j ∧ j < n
              · obtain ⟨J, rfl⟩ := Int.eq_ofNat_of_zero_le hj.1
                have hJ : J < n := by omega
                clear hj
                have cN := fun k (hk : k < n) => (rN k hk).1
                go_wp2
                go_loop [12, 13] (fun t i => ∃ k s : Nat, k ≤ n ∧ s ≤ 1048576 ∧ i = .int .i64 k ∧ t = .int .i64 s) (fun _ i => n - (intOf i).toNat)
                case atStart => exact ⟨0, 8 * vl + 2 * ol + 16 * n, by omega, by omega, rfl, by go_num⟩
                case round =>
                  obtain ⟨k, s, hk, hsm, rfl, rfl⟩ := hrel
                  by_cases hlt : k < n
                  · have c := cN k hlt
                    have sz := hs k hlt
                    clear cN hs
                    by_cases h4 : s + (nm k).size ≤ 1048576
                    · go_wp2
                      go_round
                      case rel => exact ⟨k + 1, s + (nm k).size, by omega, h4, by go_num, by go_num⟩
                      case measure => simp [intOf]; omega
                    · go_wp2
                      go_ret
                      exact done hB2
                  · go_wp2_with fail
                    refine Calls.mono (layoutO_any Bn Bo n ol nm od (fun i => (od i % 32768).toNat) a1 vl c1 wc h1 (fun i hi => Nat.le_trans (hs i hi) (by decide)) cN (fun i hi => ⟨(rO i hi).1, hod i hi⟩) (fun i hi => by have := hod i hi; omega)) ?_
                    rintro e w3 ⟨r, rfl, hr, hb3⟩
                    cases r
                    · go_wp2
                      go_ret
                      exact done (below_trans hB2 hb3)
                    · exact absurd (hr rfl).1 hvn
              · 
                have cN := fun k (hk : k < n) => (rN k hk).1
                go_wp2
                go_loop [12, 13] (fun t i => ∃ k s : Nat, k ≤ n ∧ s ≤ 1048576 ∧ i = .int .i64 k ∧ t = .int .i64 s) (fun _ i => n - (intOf i).toNat)
                case atStart => exact ⟨0, 8 * vl + 2 * ol + 16 * n, by omega, by omega, rfl, by go_num⟩
                case round =>
                  obtain ⟨k, s, hk, hsm, rfl, rfl⟩ := hrel
                  by_cases hlt : k < n
                  · have c := cN k hlt
                    have sz := hs k hlt
                    clear cN hs
                    by_cases h4 : s + (nm k).size ≤ 1048576
                    · go_wp2
                      go_round
                      case rel => exact ⟨k + 1, s + (nm k).size, by omega, h4, by go_num, by go_num⟩
                      case measure => simp [intOf]; omega
                    · go_wp2
                      go_ret
                      exact done hB2
                  · by_cases hj0 : j < 0
                    · go_wp2
                      go_ret
                      exact done hB2
                    · go_wp2
                      go_ret
                      exact done hB2


end Go.Proofs.Qxb6608767a
