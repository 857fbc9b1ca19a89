import Derived.Test.Qxb6609005aDoorRows
import Derived.Test.Qxb6609005aDoorView
import Derived.Test.Qxb6609005aDoorLaw4
import Derived.Test.Qxb6609005aDoorTie
import Derived.Test.Qxb6609005aDoorCards
import Derived.WalkKit
import Derived.ProofKit
import Derived.OpenShut
import Derived.ChangeOld
import Derived.Below
import Derived.LaidMore
import Derived.Stop.Joined
import Derived.SevenTiedAt
namespace Go.Proofs.Qxb6609005aDoor.fnMarksNextEnumeratesMarks
open Go.ChangeShapes Go.WideShapes Go.ChangeAt Go.RowKit Go.Kx
set_option linter.unusedVariables false

theorem own : ownKnob Tryd.prog.godebug = none := by kernel_rfl
theorem laidOut : laidOutB Tryd.prog = true := by kernel_rfl

theorem law_all (ao : Option Addr) (n nc : Nat) (A : Nat → Option Addr) (L C : Nat → Nat) (z : Nat → Nat → Nat) (fr wd ps lm pc : Int) (w : World) (bn : n ≤ maxLen) (hr : 0 < n → ∃ b off, ao = some ⟨b, off, none⟩ ∧ Rws w b off n A L C)
    (hs : ∀ i, i < n → Sl w (A i) (L i) (fun k => .int .u64 (z i k))) (hz : ∀ i k, i < n → k < L i → z i k < 18446744073709551616) (hT : Tab w) :
    Calls Tryd.prog 4 #[.int .i64 fr, .slice ao n nc, .int .i64 wd, .int .i64 pc, .int .i64 ps, .int .i64 lm] w (Done w) := by
  by_cases h0 : n = 0
  · subst h0
    exact law4_nofit (p := False) ao 0 nc fr wd ps lm pc w bn (zzBytes10_zero ao nc fr wd pc ps lm w) (fun _ => fit_zero ao nc fr pc ps lm False w) (fun h => h)
  · obtain ⟨b, off, rfl, hc⟩ := hr (Nat.pos_of_ne_zero h0)
    have hzz := zzBytes10_pos b off n nc A L C fr wd pc ps lm w bn hc
    by_cases hF : n ≤ 131072 ∧ Fit n L fr pc ps lm
    · obtain ⟨hn, hF⟩ := hF
      have hft := fit_pos b off n nc A L C fr pc ps lm w hn hc
      obtain ⟨q, rfl⟩ := Int.eq_ofNat_of_zero_le hF.2.2.2.1.1
      have hq : q < n := by have := hF.2.2.2.1.2; omega
      by_cases hl : L q = 0
      · have c2 := (hc q hq).1
        rw [hl] at c2
        exact law4_zero b off n nc (A q) (C q) fr wd ps lm q w hn c2 hT L hzz hft hF hq
      · obtain ⟨rb, rf, e, _⟩ := hs q hq 0 (by omega)
        exact law4_main b off n nc A L C z fr wd ps lm q w hn hc hz hs hT hzz hft hF hq rb rf e
    · by_cases hn : n ≤ 131072
      · exact law4_nofit _ n nc fr wd ps lm pc w bn hzz (fun _ => fit_pos b off n nc A L C fr pc ps lm w hn hc) (fun h => hF ⟨hn, h⟩)
      · exact law4_nofit (p := False) _ n nc fr wd ps lm pc w bn hzz (fun h => absurd h hn) (fun h => h)

set_option maxRecDepth 100000 in
theorem lifted (os : Os) (started : os.Started) (H : Type) (enc : TypeId × Value → H) :
    ReturnsInHanded {} Tryd.checked os 4 .any (fun w args => (Rows.fnMarksNextEnumeratesMarksSpec.pre enc Tryd.prog Tryd.f4 [] false w args ∧ laidMetH Tryd.prog Rows.fnMarksNextEnumeratesMarksRow.laid w) ∧ sizedMet enc Tryd.prog Tryd.f4 (OpenSpec.ofChange Rows.fnMarksNextEnumeratesMarksSpec) false w args)
      (Rows.fnMarksNextEnumeratesMarksSpec.post enc Tryd.prog Tryd.f4 false true false false) := by
  refine returnsInHanded_of_change_and (C := Tryd.checked) (X := fun w _ => laidMetH Tryd.prog Rows.fnMarksNextEnumeratesMarksRow.laid w) (fun _ _ _ hh h => h.of_heap hh) own started (by kernel_rfl) Tryd.func4
    (ChangeSpec.witness_shaped (enc := enc) (C := Tryd.checked) (os := os) (X := fun w _ => laidMetH Tryd.prog Rows.fnMarksNextEnumeratesMarksRow.laid w) false (World.doorLaid Tryd.prog 400 os) #[.int .i64 0, .slice none 0 0, .int .i64 0, .int .i64 0, .int .i64 0, .int .i64 0] 8 rfl (World.shaped_of_RefB (by kernel_rfl) (by kernel_rfl)) (by kernel_rfl) (by kernel_rfl) (by kernel_rfl) (door_met os _)) ?_
  intro W base args ds gs before hval0 hW _ _ hL _
  have hval : ∀ (j : Nat) t v, Tryd.f4.params[j]? = some t → args[j]? = some v → Value.okWide Tryd.prog W .any base t v := hval0
  have hW' := hW
  obtain ⟨p, q, hA0, hV, rfl, hfz, hnd⟩ := hW
  have hA : DataW.TrodAll enc Tryd.prog W 0 (fun _ => true) true Tryd.f4.params.toList args.toList ds p := hA0
  rw [Tryd.params4] at hA hval
  obtain ⟨v0, vs0, d0, ds0, p0, q0, hargs, rfl, rfl, h0, r0⟩ := trodAll_cons hA
  obtain ⟨v1, vs1, d1, ds1, p1, q1, rfl, rfl, rfl, h1, r1⟩ := trodAll_cons r0
  obtain ⟨v2, vs2, d2, ds2, p2, q2, rfl, rfl, rfl, h2, r2⟩ := trodAll_cons r1
  obtain ⟨v3, vs3, d3, ds3, p3, q3, rfl, rfl, rfl, h3, r3⟩ := trodAll_cons r2
  obtain ⟨v4, vs4, d4, ds4, p4, q4, rfl, rfl, rfl, h4, r4⟩ := trodAll_cons r3
  obtain ⟨v5, vs5, d5, ds5, p5, q5, rfl, rfl, rfl, h5, r5⟩ := trodAll_cons r4
  obtain ⟨rfl, rfl, rfl⟩ := trodAll_nil r5
  obtain rfl : args = #[v0, v1, v2, v3, v4, v5] := by cases args; simp_all
  obtain ⟨rfl, rfl⟩ := trodVars_none hV
  have lt0 : ∀ x ∈ p0, x.block < W.heap.size := by obtain ⟨m, hm⟩ := h0; exact DataW.trod_lt m _ _ _ hm
  have lt1 : ∀ x ∈ p1, x.block < W.heap.size := by obtain ⟨m, hm⟩ := h1; exact DataW.trod_lt m _ _ _ hm
  have lt2 : ∀ x ∈ p2, x.block < W.heap.size := by obtain ⟨m, hm⟩ := h2; exact DataW.trod_lt m _ _ _ hm
  have lt3 : ∀ x ∈ p3, x.block < W.heap.size := by obtain ⟨m, hm⟩ := h3; exact DataW.trod_lt m _ _ _ hm
  have lt4 : ∀ x ∈ p4, x.block < W.heap.size := by obtain ⟨m, hm⟩ := h4; exact DataW.trod_lt m _ _ _ hm
  have lt5 : ∀ x ∈ p5, x.block < W.heap.size := by obtain ⟨m, hm⟩ := h5; exact DataW.trod_lt m _ _ _ hm
  have core : Calls Tryd.prog 4 #[v0, v1, v2, v3, v4, v5] W fun e w' => e = .returned (.bool true) ∧ Below W.heap.size W w' := by
    clear hA0 hval0 hW' hV hA hfz hnd
    obtain ⟨fr, rfl, _, _, _⟩ := open_int Tryd.underlying3 (hval 0 3 v0 rfl rfl) h0
    obtain ⟨a1, n1, c1, rfl⟩ := okWide_slice Tryd.underlying22 (hval 1 22 v1 rfl rfl)
    obtain ⟨wd, rfl, _, _, _⟩ := open_int Tryd.underlying3 (hval 2 3 v2 rfl rfl) h2
    obtain ⟨pc, rfl, _, _, _⟩ := open_int Tryd.underlying3 (hval 3 3 v3 rfl rfl) h3
    obtain ⟨ps, rfl, _, _, _⟩ := open_int Tryd.underlying3 (hval 4 3 v4 rfl rfl) h4
    obtain ⟨lm, rfl, _, _, _⟩ := open_int Tryd.underlying3 (hval 5 3 v5 rfl rfl) h5
    obtain ⟨A, L, C, z, bn, hr, hs, hz⟩ := view_rows Tryd.underlying22 Tryd.underlying25 Tryd.underlying30 (by kernel_rfl) (by kernel_rfl) h1
    exact law_all a1 n1 c1 A L C z fr wd ps lm pc W bn hr hs hz (tab_of hL)
  refine core.mono fun e W' ⟨he, bel⟩ => ?_
  subst he
  exact ⟨_, rfl, _, _, _, [], _, [], hW', trodAll_mk1 (shut_bool Tryd.underlying4 _), (trodAll_cons_mk (Below.trod laidOut (by kernel_rfl) (of_decide_eq_true (by kernel_rfl)) h0 bel lt0) (trodAll_cons_mk (Below.trod laidOut (by kernel_rfl) (of_decide_eq_true (by kernel_rfl)) h1 bel lt1) (trodAll_cons_mk (Below.trod laidOut (by kernel_rfl) (of_decide_eq_true (by kernel_rfl)) h2 bel lt2) (trodAll_cons_mk (Below.trod laidOut (by kernel_rfl) (of_decide_eq_true (by kernel_rfl)) h3 bel lt3) (trodAll_cons_mk (Below.trod laidOut (by kernel_rfl) (of_decide_eq_true (by kernel_rfl)) h4 bel lt4) (trodAll_cons_mk (Below.trod laidOut (by kernel_rfl) (of_decide_eq_true (by kernel_rfl)) h5 bel lt5) trodAll_mk0)))))), rfl, bel.frame _, fun h => by cases h⟩

theorem over : Rows.fnMarksNextEnumeratesMarksRow.holds Tryd.pinned (OpenSpec.ofChange Rows.fnMarksNextEnumeratesMarksSpec) :=
  OpenClaim.holds_of_wide 4 Tryd.f4 rfl rfl rfl rfl rfl rfl rfl ⟨rfl, rfl, rfl, rfl, rfl⟩ rfl rfl rfl rfl rfl (by kernel_rfl) Tryd.func4 (by kernel_rfl)
    (of_decide_eq_true (by kernel_rfl)) (by unfold Func.isWrapper; first | (rw [if_pos (by decide +kernel)]; kernel_rfl) | (rw [if_neg (by decide +kernel)]; exact ⟨rfl, rfl⟩))
    (fun os started H enc _ => lifted os started H enc)
#print axioms over

/-- The tied card. -/
theorem proved : Rows.FnMarksNextEnumeratesMarksCardSaid :=
  Claim7.holds_tied_plain_at .later [] [.data] true Rows.fnMarksNextEnumeratesMarksCard.stood.harness false
    over (fun _ h => by cases h) (by kernel_rfl) (fun _ h => by cases h) fnMarksNextEnumeratesMarks_row_tie rfl ⟨rfl, rfl⟩ (by kernel_rfl) rfl
    (fun f fn hf hfn => by
      obtain rfl : f = 4 := Option.some.inj ((show Tryd.prog.funcNamed Rows.fnMarksNextEnumeratesMarksRow.func = some 4 by kernel_rfl).symm.trans hf) |>.symm
      obtain rfl : fn = Tryd.f4 := (Option.some.inj (Tryd.func4.symm.trans hfn)).symm
      exact ⟨by kernel_rfl, fun j t ht => by
        rw [Tryd.params4] at ht
        have hm : t ∈ [3, 22, 3, 3, 3, 3] := by simpa using Array.mem_of_getElem? ht
        have hall : ([3, 22, 3, 3, 3, 3].all fun u => !Tryd.prog.wantsStandIn u) = true := by kernel_rfl
        exact (show Tryd.prog.wantsStandIn t = false by simpa using List.all_eq_true.1 hall t hm)⟩)
    (by kernel_rfl)
#print axioms proved
end Go.Proofs.Qxb6609005aDoor.fnMarksNextEnumeratesMarks
