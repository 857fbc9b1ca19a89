/-
  THE PROOF OF 'Rows.FnLimitAddUndoRestoresUseKeepsPeakSaid': the shell is the kit's; the walk and its contracts are the seat's own.
-/
import Derived.Test.Qxb6608849aRows
import Derived.WalkKit
import Derived.ProofKit
import Derived.OpenShut
import Derived.ShutString
namespace Go.Proofs.Qxb6608849a.fnLimitAddUndoRestoresUseKeepsPeak
open Go.ChangeShapes Go.WideShapes Go.ChangeAt Go.RowKit
open Go.ChangeMaps (open_string shut_string)
set_option linter.unusedVariables false      -- a walk need not use every 'w<i>' (that an integer argument fits its kind)

theorem own : ownKnob Try.prog.godebug = none := by kernel_rfl

def imax (a b : Int) : Int := if a < b then b else a
theorem imax_lt {a b : Int} (h : a < b) : imax a b = b := by simp [imax, h]
theorem imax_ge {a b : Int} (h : b ≤ a) : imax a b = a := by simp [imax]; omega
theorem add_any (b : Nat) (u p k d : Int) (w : World) (h3 : w.cell? ⟨b, 3, none⟩ = some (.int .i64 u)) (h5 : w.cell? ⟨b, 5, none⟩ = some (.int .i64 p))
   (h6 : w.cell? ⟨b, 6, none⟩ = some (.int .i64 k)) (h7 : w.cell? ⟨b, 7, none⟩ = some (.pointer none)) (f3 : w.frozen? ⟨b, 3, none⟩ = false) (f5 : w.frozen? ⟨b, 5, none⟩ = false) :
    Calls Try.prog 9 #[.pointer (some ⟨b, 0, none⟩), .int .i64 d] w fun e w' => e = .returned (.tuple #[]) ∧ w' = ((w.setCell ⟨b, 3, none⟩ (.int .i64 (wrap64 (u + d)))).setCell ⟨b, 5, none⟩ (.int .i64 (imax p (wrap64 (u + d))))).drew.drew := by
  go_enter Try.func9, Try.ntmps9
  go_wp2
  go_region
  all_goals go_wp2
  all_goals go_region
  all_goals go_wp2
  all_goals go_end0
  all_goals first | (rw [imax_lt (by assumption)]; exact ⟨rfl, rfl⟩) | (rw [imax_ge (by assumption)]; exact ⟨rfl, rfl⟩)
theorem undo (u d : Int) (h1 : -9223372036854775808 ≤ u) (h2 : u ≤ 9223372036854775807) : wrap64 (wrap64 (u + d) + wrap64 (-d)) = u := by
  unfold wrap64; omega
theorem peak_back (u p x : Int) (h : u ≤ p) : imax (imax p x) u = imax p x := by
  unfold imax; split <;> split <;> omega
theorem new_any (u p k : Int) (w : World) :
    Calls Try.prog 4 #[.int .i64 u, .int .i64 p, .int .i64 k] w fun e w' => e = .returned (.pointer (some ⟨w.heap.size, 0, none⟩)) ∧ w' = w.alloc (.cells #[.int .u8 0, .int .i64 0, .int .i64 0, .int .i64 u, .bool false, .int .i64 p, .int .i64 k, .pointer none] 31) := by
  go_enter Try.func4, Try.ntmps4
  go_wp2
  go_ret
  exact ⟨rfl, rfl⟩
theorem zadd_any (b : Nat) (u p k d : Int) (w : World) (h3 : w.cell? ⟨b, 3, none⟩ = some (.int .i64 u)) (h5 : w.cell? ⟨b, 5, none⟩ = some (.int .i64 p))
   (h6 : w.cell? ⟨b, 6, none⟩ = some (.int .i64 k)) (h7 : w.cell? ⟨b, 7, none⟩ = some (.pointer none)) (f3 : w.frozen? ⟨b, 3, none⟩ = false) (f5 : w.frozen? ⟨b, 5, none⟩ = false) :
    Calls Try.prog 5 #[.pointer (some ⟨b, 0, none⟩), .int .i64 d] w fun e w' => e = .returned (.tuple #[]) ∧ w' = ((w.setCell ⟨b, 3, none⟩ (.int .i64 (wrap64 (u + d)))).setCell ⟨b, 5, none⟩ (.int .i64 (imax p (wrap64 (u + d))))).drew.drew := by
  go_enter Try.func5, Try.ntmps5
  go_wp2_with (go_at_call 9; refine (add_any b u p k d _ h3 h5 h6 h7 f3 f5).mono ?_; rintro e w' ⟨rfl, rfl⟩)
  go_end0
  exact ⟨rfl, rfl⟩
theorem law_main (u p k d : Int) (h1 : -9223372036854775808 ≤ u) (h2 : u ≤ 9223372036854775807) (hup : u ≤ p) (w : World) :
    Calls Try.prog 3 #[.int .i64 u, .int .i64 p, .int .i64 k, .int .i64 d] w fun e w' => e = .returned (.bool true) ∧ Grown w w' := by
  have HU : Hid (wrap64 (wrap64 (u + d) + wrap64 (-d)) = u) := undo u d h1 h2
  have HP : Hid (imax (imax p (wrap64 (u + d))) u = imax p (wrap64 (u + d))) := peak_back u p (wrap64 (u + d)) hup
  go_enter Try.func3, Try.ntmps3
  go_wp2_with (first | (go_at_call 4; refine (new_any _ _ _ _).mono ?_; rintro e w' ⟨rfl, rfl⟩) | fail)
  refine (zadd_any w.heap.size u p k d _ (by simp) (by simp) (by simp) (by simp) (by simp) (by simp)).mono ?_
  rintro e w' ⟨rfl, rfl⟩
  go_wp2_with fail
  refine (zadd_any w.heap.size (wrap64 (u + d)) (imax p (wrap64 (u + d))) k (wrap64 (-d)) _ (by simp) (by simp) (by simp) (by simp) (by simp) (by simp)).mono ?_
  rintro e w' ⟨rfl, rfl⟩
  rw [HU.out, HP.out]
  go_wp2_with (first | (go_at_call 4; refine (new_any _ _ _ _).mono ?_; rintro e w' ⟨rfl, rfl⟩) | fail)
  refine (zadd_any (w.heap.size + 1) u p k d _ (by simp) (by simp) (by simp) (by simp) (by simp) (by simp)).mono ?_
  rintro e w' ⟨rfl, rfl⟩
  clear HP HU
  by_cases hc : p < wrap64 (u + d)
  · rw [imax_lt hc]
    go_wp2
    go_ret
    exact ⟨rfl, by repeat (first | exact Grown.refl _ | apply Grown.drew | apply Grown.alloc)⟩
  · rw [imax_ge (by omega)]
    go_wp2
    go_ret
    exact ⟨rfl, by repeat (first | exact Grown.refl _ | apply Grown.drew | apply Grown.alloc)⟩

theorem walk (a0 : Int) (a1 : Int) (a2 : Int) (a3 : Int) (w0 : (Lit.int .i64 a0).wf = true) (w1 : (Lit.int .i64 a1).wf = true) (w2 : (Lit.int .i64 a2).wf = true) (w3 : (Lit.int .i64 a3).wf = true) (w : World) :
    Calls Try.prog 3 #[.int .i64 a0, .int .i64 a1, .int .i64 a2, .int .i64 a3] w fun e w' => e = .returned (.bool true) ∧ Grown w w' := by
  have b0 : -9223372036854775808 ≤ a0 ∧ a0 ≤ 9223372036854775807 := by
    simp [Lit.wf, IntKind.min, IntKind.max, IntKind.signed, IntKind.bits] at w0
    exact ⟨by omega, by omega⟩
  by_cases hlt : a1 < a0
  · go_enter Try.func3, Try.ntmps3
    go_wp2
    go_ret
    exact ⟨rfl, by repeat (first | exact Grown.refl _ | apply Grown.drew | apply Grown.alloc)⟩
  · exact law_main a0 a1 a2 a3 b0.1 b0.2 (by omega) w

/-! ### THE ROW's STEP: WRITTEN OUT: LEAVE IT -/
set_option maxRecDepth 100000 in
theorem lifted (os : Os) (started : os.Started) (H : Type) (enc : TypeId × Value → H) :
    ReturnsInHanded {} Try.checked os 3 .any (Rows.fnLimitAddUndoRestoresUseKeepsPeakSpec.pre6 enc Try.prog Try.f3 Rows.fnLimitAddUndoRestoresUseKeepsPeakRow.domain false) (Rows.fnLimitAddUndoRestoresUseKeepsPeakSpec.post enc Try.prog Try.f3 false true false false) := by
  refine returnsInHanded_of_change (C := Try.checked) own started (by kernel_rfl) Try.func3
    (ChangeSpec.witness6 (enc := enc) (C := Try.checked) false ⟨#[], #[.int .i64 0, .int .i64 0, .int .i64 0, .int .i64 0], []⟩ 8 (by kernel_rfl) (by kernel_rfl) (by kernel_rfl) (by kernel_rfl)) ?_
  intro W base args ds gs before hval0 hW hcnd _
  have hval : ∀ (j : Nat) t v, Try.f3.params[j]? = some t → args[j]? = some v → Value.okWide Try.prog W .any base t v := hval0
  have hW' := hW
  obtain ⟨p, q, hA0, hV, rfl, hfz, hnd⟩ := hW
  have hA : DataW.TrodAll enc Try.prog W 0 (fun _ => true) true Try.f3.params.toList args.toList ds p := hA0
  rw [Try.params3] at hA hval
  obtain ⟨v0, vs0, d0, ds0, p0, q0, hargs, rfl, rfl, h0, r0⟩ := trodAll_cons hA
  obtain ⟨v1, vs1, d1, ds1, p1, q1, rfl, rfl, rfl, h1, r1⟩ := trodAll_cons r0
  obtain ⟨v2, vs2, d2, ds2, p2, q2, rfl, rfl, rfl, h2, r2⟩ := trodAll_cons r1
  obtain ⟨v3, vs3, d3, ds3, p3, q3, rfl, rfl, rfl, h3, r3⟩ := trodAll_cons r2
  obtain ⟨rfl, rfl, rfl⟩ := trodAll_nil r3
  obtain rfl : args = #[v0, v1, v2, v3] := by cases args; simp_all
  obtain ⟨rfl, rfl⟩ := trodVars_none hV
  obtain ⟨a0, rfl, rfl, rfl, w0⟩ := open_int Try.underlying2 (hval 0 2 v0 rfl rfl) h0
  obtain ⟨a1, rfl, rfl, rfl, w1⟩ := open_int Try.underlying2 (hval 1 2 v1 rfl rfl) h1
  obtain ⟨a2, rfl, rfl, rfl, w2⟩ := open_int Try.underlying2 (hval 2 2 v2 rfl rfl) h2
  obtain ⟨a3, rfl, rfl, rfl, w3⟩ := open_int Try.underlying2 (hval 3 2 v3 rfl rfl) h3
  clear hA0 hval0
  simp only [List.append_nil] at hW'
  refine (walk a0 a1 a2 a3 w0 w1 w2 w3 W).mono fun e W' ⟨he, hg⟩ => ?_
  subst he
  exact ⟨_, rfl, post_of_same (pa := []) (pv := []) hW' (fun _ _ _ => (trodAll_cons_mk (shut_bool Try.underlying4 _) trodAll_mk0)) (fun sp _ => (trodAll_cons_mk (shut_int Try.underlying2 w0) (trodAll_cons_mk (shut_int Try.underlying2 w1) (trodAll_cons_mk (shut_int Try.underlying2 w2) (trodAll_cons_mk (shut_int Try.underlying2 w3) trodAll_mk0))))) (fun _ _ => rfl) rfl
    (hg.frame _) hg.2.1 (ok_one (by kernel_rfl) rfl (okWide_bool_mk Try.underlying4 _))⟩

theorem over : Rows.fnLimitAddUndoRestoresUseKeepsPeakRow.holds Try.pinned (OpenSpec.ofChange Rows.fnLimitAddUndoRestoresUseKeepsPeakSpec) :=
  OpenClaim.holds_of_wide 3 Try.f3 rfl rfl rfl rfl rfl rfl rfl ⟨rfl, rfl, rfl, rfl, rfl⟩ rfl rfl rfl rfl rfl (by kernel_rfl) Try.func3 (by kernel_rfl)
    (of_decide_eq_true (by kernel_rfl)) (by unfold Func.isWrapper; first | (rw [if_pos (by decide +kernel)]; kernel_rfl) | (rw [if_neg (by decide +kernel)]; exact ⟨rfl, rfl⟩))
    (fun os started H enc _ => lifted os started H enc)

/-- ████ THE STATEMENT ████ -/
theorem proved : Rows.FnLimitAddUndoRestoresUseKeepsPeakSaid :=
  over
#print axioms proved
end Go.Proofs.Qxb6608849a.fnLimitAddUndoRestoresUseKeepsPeak
