import Derived.Test.Qxb6608767aRows
import Derived.Test.Qxb6608767aLaw
import Derived.Test.Qxb6608767aView
import Derived.WalkKit
import Derived.ProofKit
import Derived.OpenShut
import Derived.ShutString
import Derived.ChangeOld
import Derived.Below
namespace Go.Proofs.Qxb6608767a.fnRowBlockSearchFindsItsEntry
open Go.ChangeShapes Go.WideShapes Go.ChangeAt Go.RowKit
open Go.ChangeMaps (open_string shut_string)
open Go.Kx
set_option linter.unusedVariables false

theorem own : ownKnob Try.prog.godebug = none := by kernel_rfl
theorem laidOut : laidOutB Try.prog = true := by kernel_rfl

theorem u16_of {x : Int} (h : (Lit.int .u16 x).wf = true) : 0 ≤ x ∧ x < 65536 := by
  simp [Lit.wf, IntKind.min, IntKind.max, IntKind.signed, IntKind.bits] at h
  exact ⟨by omega, by omega⟩

theorem law_all (na va oa : Option Addr) (n nc vl vc ol oc : Nat) (nm : Nat → ByteArray) (vv : Nat → Int) (od : Nat → Int) (j : Int) (w : World)
    (hN : Sl w na n (fun i => .string (nm i))) (hV : Sl w va vl (fun i => .int .i64 (vv i))) (hO : Sl w oa ol (fun i => .int .u16 (od i)))
    (n0 : na = none → n = 0 ∧ nc = 0) (v0 : va = none → vl = 0 ∧ vc = 0) (o0 : oa = none → ol = 0 ∧ oc = 0) (bn : n ≤ maxLen) (bv : vl ≤ maxLen) (bo : ol ≤ maxLen) (hs : ∀ i, i < n → (nm i).size ≤ maxLen)
    (hod : ∀ i, i < ol → 0 ≤ od i ∧ od i < 65536) :
    Calls Try.prog 4 #[.slice na n nc, .slice va vl vc, .slice oa ol oc, .int .i64 j] w (Done w) := by
  have hzz : Calls Try.prog 10 #[.slice na n nc, .slice va vl vc, .slice oa ol oc, .int .i64 j] w (SomeBool (∀ i, i < n → (nm i).size ≤ 1048576) w) := by
    by_cases h : n = 0
    · subst h
      exact zzBytes_zero (fun i hi => absurd hi (Nat.not_lt_zero _)) na nc va oa vl vc ol oc j w bv bo
    · obtain ⟨b, off, rfl, hc⟩ := hN.plain (Nat.pos_of_ne_zero h)
      exact zzBytes_pos b off n nc nm va oa vl vc ol oc j w hs hc bn bv bo
  by_cases h : n ≤ 4096 ∧ vl ≤ 4096 ∧ ol ≤ 4096
  · exact law_any na va oa n nc vl vc ol oc nm vv od j w hN hV hO hzz n0 v0 o0 hod h.1 h.2.1 h.2.2
  · exact law_early na va oa n nc vl vc ol oc j w hzz bn bv bo h

set_option maxRecDepth 100000 in
theorem lifted (os : Os) (started : os.Started) (H : Type) (enc : TypeId × Value → H) :
    ReturnsInHanded {} Try.checked os 4 .any (Rows.fnRowBlockSearchFindsItsEntrySpec.pre6 enc Try.prog Try.f4 Rows.fnRowBlockSearchFindsItsEntryRow.domain false) (Rows.fnRowBlockSearchFindsItsEntrySpec.post enc Try.prog Try.f4 false true false false) := by
  refine returnsInHanded_of_change (C := Try.checked) own started (by kernel_rfl) Try.func4
    (ChangeSpec.witness6 (enc := enc) (C := Try.checked) false ⟨#[], #[.slice none 0 0, .slice none 0 0, .slice none 0 0, .int .i64 0], []⟩ 8 (by kernel_rfl) (by kernel_rfl) (by kernel_rfl) (by kernel_rfl)) ?_
  intro W base args ds gs before hval0 hW hcnd _
  have hval : ∀ (j : Nat) t v, Try.f4.params[j]? = some t → args[j]? = some v → Value.okWide Try.prog W .any base t v := hval0
  have hW' := hW
  obtain ⟨p, q, hA0, hV, rfl, hfz, hnd⟩ := hW
  have hA : DataW.TrodAll enc Try.prog W 0 (fun _ => true) true Try.f4.params.toList args.toList ds p := hA0
  rw [Try.params4] at hA hval
  obtain ⟨v0, vs0, d0, ds0, p0, q0, hargs, rfl, rfl, h0, r0⟩ := trodAll_cons hA
  obtain ⟨v1, vs1, d1, ds1, p1, q1, rfl, rfl, rfl, h1, r1⟩ := trodAll_cons r0
  obtain ⟨v2, vs2, d2, ds2, p2, q2, rfl, rfl, rfl, h2, r2⟩ := trodAll_cons r1
  obtain ⟨v3, vs3, d3, ds3, p3, q3, rfl, rfl, rfl, h3, r3⟩ := trodAll_cons r2
  obtain ⟨rfl, rfl, rfl⟩ := trodAll_nil r3
  obtain rfl : args = #[v0, v1, v2, v3] := by cases args; simp_all
  obtain ⟨rfl, rfl⟩ := trodVars_none hV
  have lt0 : ∀ x ∈ p0, x.block < W.heap.size := by obtain ⟨m, hm⟩ := h0; exact DataW.trod_lt m _ _ _ hm
  have lt1 : ∀ x ∈ p1, x.block < W.heap.size := by obtain ⟨m, hm⟩ := h1; exact DataW.trod_lt m _ _ _ hm
  have lt2 : ∀ x ∈ p2, x.block < W.heap.size := by obtain ⟨m, hm⟩ := h2; exact DataW.trod_lt m _ _ _ hm
  have lt3 : ∀ x ∈ p3, x.block < W.heap.size := by obtain ⟨m, hm⟩ := h3; exact DataW.trod_lt m _ _ _ hm
  have core : Calls Try.prog 4 #[v0, v1, v2, v3] W fun e w' => e = .returned (.bool true) ∧ Below W.heap.size W w' := by
    clear hA0 hval0 hW' hV hA hcnd hfz hnd
    obtain ⟨a0, n0, c0, rfl⟩ := okWide_slice Try.underlying22 (hval 0 22 v0 rfl rfl)
    obtain ⟨a1, n1, c1, rfl⟩ := okWide_slice Try.underlying23 (hval 1 23 v1 rfl rfl)
    obtain ⟨a2, n2, c2, rfl⟩ := okWide_slice Try.underlying24 (hval 2 24 v2 rfl rfl)
    obtain ⟨j, rfl, _, _, wj⟩ := open_int Try.underlying3 (hval 3 3 v3 rfl rfl) h3
    obtain ⟨nm, z0, m0, s0, hN⟩ := view_strs Try.underlying22 Try.underlying9 (by kernel_rfl) h0
    obtain ⟨vv, z1, m1, s1, hV⟩ := view_ints Try.underlying23 Try.underlying2 (by kernel_rfl) h1
    obtain ⟨od, z2, m2, s2, hO⟩ := view_ints Try.underlying24 Try.underlying29 (by kernel_rfl) h2
    exact law_all a0 a1 a2 n0 c0 n1 c1 n2 c2 nm vv od j W hN hV hO z0 z1 z2 m0 m1 m2 s0 (fun i hi => u16_of (s2 i hi))
  refine core.mono fun e W' ⟨he, bel⟩ => ?_
  subst he
  exact ⟨_, rfl, _, _, _, [], _, [], hW', trodAll_mk1 (shut_bool Try.underlying4 _), (trodAll_cons_mk (Below.trod laidOut (by kernel_rfl) (of_decide_eq_true (by kernel_rfl)) h0 bel lt0) (trodAll_cons_mk (Below.trod laidOut (by kernel_rfl) (of_decide_eq_true (by kernel_rfl)) h1 bel lt1) (trodAll_cons_mk (Below.trod laidOut (by kernel_rfl) (of_decide_eq_true (by kernel_rfl)) h2 bel lt2) (trodAll_cons_mk (Below.trod laidOut (by kernel_rfl) (of_decide_eq_true (by kernel_rfl)) h3 bel lt3) trodAll_mk0)))), rfl, bel.frame _, fun h => by cases h⟩

theorem over : Rows.fnRowBlockSearchFindsItsEntryRow.holds Try.pinned (OpenSpec.ofChange Rows.fnRowBlockSearchFindsItsEntrySpec) :=
  OpenClaim.holds_of_wide 4 Try.f4 rfl rfl rfl rfl rfl rfl rfl ⟨rfl, rfl, rfl, rfl, rfl⟩ rfl rfl rfl rfl rfl (by kernel_rfl) Try.func4 (by kernel_rfl)
    (of_decide_eq_true (by kernel_rfl)) (by unfold Func.isWrapper; first | (rw [if_pos (by decide +kernel)]; kernel_rfl) | (rw [if_neg (by decide +kernel)]; exact ⟨rfl, rfl⟩))
    (fun os started H enc _ => lifted os started H enc)

theorem proved : Rows.FnRowBlockSearchFindsItsEntrySaid := over
#print axioms proved
end Go.Proofs.Qxb6608767a.fnRowBlockSearchFindsItsEntry
