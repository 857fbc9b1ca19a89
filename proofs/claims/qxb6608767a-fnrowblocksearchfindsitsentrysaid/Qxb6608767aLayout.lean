import Derived.Test.Qxb6608767aCmp
import Derived.Test.Qxb6608767aKit
import Derived.WalkKit
import Derived.ProofKit
import Derived.WalkSpells
import Derived.WalkSmall
import Derived.BigQuiet
import Derived.Deep.QuietTactic
namespace Go.Proofs.Qxb6608767a
open Go.RowKit Go.Kx
set_option maxHeartbeats 1000000 in
theorem layoutN_any (Bn n : Nat) (nm : Nat → ByteArray) (va : Option Addr) (vl vc : Nat) (w : World) (hn : n ≤ 4096) (hs : ∀ i, i < n → (nm i).size ≤ maxLen) (hc : ∀ i, i < n → w.cell? ⟨Bn, i, none⟩ = some (.string (nm i))) :
    Calls Try.prog 6 #[.slice (some ⟨Bn, 0, none⟩) n n, .slice va vl vc, .slice none 0 0] w fun e w' => ∃ r, e = .returned (.bool r) ∧ (r = true → vl = n ∧ ∀ i, i + 1 < n → Lib.compareBytes (nm i).data.toList (nm (i + 1)).data.toList < 0) ∧ Below w.heap.size w w' := by
  have e24 := fun w a n c => Lib.run_eql_slice_nil (P := Try.prog) w 24 _ a n c 0 0 Try.underlying24
  by_cases hv : vl = n
  · subst hv
    go_enter Try.func6, Try.ntmps6
    go_wp2
    go_loopw [8] (fun i wr => ∃ j : Nat, i = .int .i64 ((j : Int) + 1) ∧ j ≤ vl ∧ (∀ t, t + 1 < vl → t < j → Lib.compareBytes (nm t).data.toList (nm (t + 1)).data.toList < 0) ∧ Below w.heap.size w wr) (fun i _ => (vl + 1 : Int).toNat - (intOf i).toNat)
    case atStart => exact ⟨0, rfl, Nat.zero_le _, fun t _ h => absurd h (Nat.not_lt_zero _), Below.refl _ _⟩
    case round =>
      obtain ⟨j, rfl, hj, hinv, hbel⟩ := hrel
      have hBn : 0 < vl → Bn < w.heap.size := fun h0 => cell_lt (hc 0 h0)
      have HI : Hid (∀ t, t + 1 < vl → t < j → Lib.compareBytes (nm t).data.toList (nm (t + 1)).data.toList < 0) := hinv
      clear hinv
      by_cases hlt : j + 1 < vl
      · have hB := hBn (by omega)
        have c0 := (hbel.cell (p := ⟨Bn, j, none⟩) hB).trans (hc j (by omega))
        have c1 := (hbel.cell (p := ⟨Bn, j + 1, none⟩) hB).trans (hc (j + 1) hlt)
        have s0 := hs j (by omega)
        have s1 := hs (j + 1) hlt
        clear hc hs hBn hB
        have hwj : IntKind.i64.wrap (j : Int) = (j : Int) := by rw [IntKind.wrap_i64]; omega
        have i0 : (0 : Int) ≤ (j : Int) := by omega
        have i1 : (j : Int) < (vl : Int) := by omega
        have i2 : (j : Int) + 1 < (vl : Int) := by omega
        have i3 : (0 : Int) ≤ (j : Int) + 1 := by omega
        go_wp2
        go_quiet ((go_at_call 8; exact Calls.quiet_of (rbCmp_any _ _ _ s0 s1)))
        go_wp2
        · go_ret
          exact ⟨false, rfl, fun h => absurd h (by decide), below_drewN hbel _⟩
        · go_roundw
          case rel => exact ⟨j + 1, by go_num, by omega, fun t h1 h2 => (by
            by_cases e : t < j
            · exact HI.out t h1 e
            · obtain rfl : t = j := by omega
              assumption), below_drewN hbel _⟩
          case measure => simp [intOf]; omega
      · go_wp2
        go_ret
        exact ⟨true, rfl, fun _ => ⟨trivial, fun i hi => HI.out i hi (by omega)⟩, hbel⟩
  · have hv' : ((vl : Int) != (n : Int)) = true := by rw [bne_iff_ne]; omega
    go_enter Try.func6, Try.ntmps6
    go_wp2
    go_ret
    exact ⟨false, rfl, fun h => absurd h (by decide), Below.refl _ _⟩

theorem all_succ {P : Nat → Prop} {k : Nat} (h : ∀ t, t < k → P t) (hk : P k) : ∀ t, t < k + 1 → P t := fun t ht => by
  by_cases e : t < k
  · exact h t e
  · obtain rfl : t = k := by omega
    exact hk
theorem adj_succ {P : Nat → Prop} {j : Nat} (h : ∀ t, t + 1 < j + 1 → P t) (hj : P j) : ∀ t, t + 1 < j + 2 → P t := fun t ht => by
  by_cases e : t + 1 < j + 1
  · exact h t e
  · obtain rfl : t = j := by omega
    exact hj
theorem row_bool {w : World} {B n k : Nat} {f : Nat → Bool} (h : Row w B n (fun i => if i = k then .bool true else .bool (f i))) : Row w B n (fun x => .bool ((fun x => if x = k then true else f x) x)) :=
  h.congr fun i _ => by
    by_cases e : i = k
    · simp only [e, if_true]
    · simp only [if_neg e]
/-- The place before k: -1 at the start. -/
def prevI (pl : Nat → Nat) : Nat → Int
  | 0 => -1
  | k + 1 => (pl k : Int)
/-- What rbLayoutOK answers of a layout with an order. -/
def LayO (n ol vl : Nat) (nm : Nat → ByteArray) (pl : Nat → Nat) (w : World) (e : Ending) (w' : World) : Prop :=
  ∃ r, e = .returned (.bool r) ∧ (r = true → vl = n ∧ ol = n ∧ (∀ i, i < n → pl i < n) ∧ ∀ i, i + 1 < n → Lib.compareBytes (nm (pl i)).data.toList (nm (pl (i + 1))).data.toList < 0) ∧ Below w.heap.size w w'
theorem layO_no {n ol vl : Nat} {nm : Nat → ByteArray} {pl : Nat → Nat} {w w' : World} (h : Below w.heap.size w w') : LayO n ol vl nm pl w (.returned (.bool false)) w' := ⟨false, rfl, fun h => absurd h (by decide), h⟩

theorem info4 : (Try.prog.info? 4).map (fun i => (i.zero, i.size, i.bytes)) = some (some (.bool false), 1, 1) := by kernel_rfl

/-- 'make([]bool, n)'. -/
theorem mk_bools (n : Nat) (hn : n ≤ 4096) (w : World) : (Instr.makeSlice 36 (.int .i64 (n : Int)) (.int .i64 (n : Int))).run Try.prog w = .ok (.slice (some ⟨w.heap.size, 0, none⟩) n n) (w.alloc (.cells (madeCells #[.bool false] n) 4)) := by
  obtain ⟨i0, hi, hz0, hz1, hz2⟩ := info_parts info4
  have := run_make (P := Try.prog) w 36 4 i0 (.bool false) Try.underlying36 hi hz0 .i64 .i64 n n (by omega) (by omega) (by rw [hz2]; omega) (by omega)
  rw [this, hz1]
  simp [Value.cells]

set_option maxHeartbeats 2000000 in
theorem layoutO_any (Bn Bo n ol : Nat) (nm : Nat → ByteArray) (od : Nat → Int) (pl : Nat → Nat) (va : Option Addr) (vl vc : Nat) (w : World) (hn : n ≤ 4096) (hs : ∀ i, i < n → (nm i).size ≤ maxLen) (hc : ∀ i, i < n → w.cell? ⟨Bn, i, none⟩ = some (.string (nm i)))
    (ho : ∀ i, i < ol → w.cell? ⟨Bo, i, none⟩ = some (.int .u16 (od i)) ∧ 0 ≤ od i ∧ od i < 65536) (hpl : ∀ i, i < ol → (pl i : Int) = od i % 32768) :
    Calls Try.prog 6 #[.slice (some ⟨Bn, 0, none⟩) n n, .slice va vl vc, .slice (some ⟨Bo, 0, none⟩) ol ol] w (LayO n ol vl nm pl w) := by
  have e24 := fun w a n c => Lib.run_eql_slice_nil (P := Try.prog) w 24 _ a n c 0 0 Try.underlying24
  by_cases hv : vl = n
  · subst hv
    by_cases hol : ol = vl
    · subst hol
      have hmk := mk_bools ol hn
      go_enter Try.func6, Try.ntmps6
      go_wp2
      go_loopw [10, 11] (fun pv i wr => ∃ (k : Nat) (f : Nat → Bool), i = .int .i64 k ∧ k ≤ ol ∧ pv = .int .i64 (prevI pl k) ∧ (∀ t, t < k → pl t < ol) ∧ (∀ t, t + 1 < k → Lib.compareBytes (nm (pl t)).data.toList (nm (pl (t + 1))).data.toList < 0) ∧ Row wr w.heap.size ol (fun x => .bool (f x)) ∧ Below w.heap.size w wr ∧ w.heap.size < wr.heap.size) (fun _ i _ => ol - (intOf i).toNat)
      case atStart => exact ⟨0, fun _ => false, rfl, Nat.zero_le _, rfl, fun t h => absurd h (Nat.not_lt_zero _), fun t h => absurd h (Nat.not_lt_zero _), (Row.made w #[.bool false] ol 4).congr (fun i _ => by simp [Nat.mod_one]), below_alloc _ _, by simp⟩
      case round =>
        obtain ⟨k, f, rfl, hk, rfl, hin, hasc, hrow, hbel, hsz⟩ := hrel
        by_cases hlt : k < ol
        · have hBo : Bo < w.heap.size := cell_lt (ho k hlt).1
          have hBn : Bn < w.heap.size := cell_lt (hc k hlt)
          obtain ⟨co, o0, o1⟩ := ho k hlt
          rw [← hbel.cell (p := ⟨Bo, k, none⟩) hBo] at co
          have hpe : wrap64 (bits BinOp.andNot IntKind.u16 (od k) 32768) = (pl k : Int) := by rw [plc_eq _ o0 o1, hpl k hlt]
          by_cases hp : pl k < ol
          · have hsn := (hrow (pl k) hp).1
            have hfz := (hrow (pl k) hp).2
            simp only at hsn
            have hrow2 := hrow.set (pl k) hp (.bool true)
            have hbel2 := hbel.setCell (p := ⟨w.heap.size, pl k, none⟩) (Nat.le_refl _) (.bool true)
            have cn := (hbel2.cell (p := ⟨Bn, pl k, none⟩) hBn).trans (hc (pl k) hp)
            have sn := hs (pl k) hp
            have HR : Hid (Row (wr.setCell ⟨w.heap.size, pl k, none⟩ (.bool true)) w.heap.size ol (fun i => if i = pl k then .bool true else .bool (f i))) := hrow2
            have HB : Hid (Below w.heap.size w (wr.setCell ⟨w.heap.size, pl k, none⟩ (.bool true))) := hbel2
            have HIN : Hid (∀ t, t < k → pl t < ol) := hin
            have HAS : Hid (∀ t, t + 1 < k → Lib.compareBytes (nm (pl t)).data.toList (nm (pl (t + 1))).data.toList < 0) := hasc
            have HBel : Hid (Below w.heap.size w wr) := hbel
            clear hasc hrow hrow2 hbel2 
            cases hfk : f (pl k)
            · rw [hfk] at hsn
              cases k with
              | zero =>
                have hpv : prevI pl 0 = -1 := rfl
                clear hc ho hs hpl hin hbel
                go_wp2
                go_quiet (fail)
                go_wp2
                go_roundw
                case rel => exact ⟨1, fun x => if x = pl 0 then true else f x, rfl, by omega, rfl, all_succ HIN.out hp, fun t h => absurd h (by omega), row_bool (HR.out.drewN _), below_drewN HB.out _, by simpa using hsz⟩
                case measure => simp [intOf]; omega
              | succ j =>
                have hpv : prevI pl (j + 1) = (pl j : Int) := rfl
                have hpj := HIN.out j (by omega)
                have cj := (HB.out.cell (p := ⟨Bn, pl j, none⟩) hBn).trans (hc (pl j) hpj)
                have sj := hs (pl j) hpj
                have i1 : (0 : Int) ≤ (pl j : Int) := by omega
                have i2 : (pl j : Int) < (ol : Int) := by omega
                have i3 : (0 : Int) ≤ (pl (j + 1) : Int) := by omega
                have i4 : (pl (j + 1) : Int) < (ol : Int) := by omega
                clear hc ho hs hpl hin hbel
                go_wp2
                go_quiet ((go_at_call 8; exact Calls.quiet_of (rbCmp_any _ _ _ sj sn)))
                go_wp2
                · go_ret
                  exact layO_no (below_drewN HB.out _)
                · go_roundw
                  case rel => exact ⟨j + 2, fun x => if x = pl (j + 1) then true else f x, by go_num, by omega, rfl, all_succ HIN.out hp, adj_succ HAS.out (by assumption), row_bool (HR.out.drewN _), below_drewN HB.out _, by simpa using hsz⟩
                  case measure => simp [intOf]; omega
            · rw [hfk] at hsn
              clear hc ho hs hpl hin hbel
              go_wp2
              go_ret
              exact layO_no HBel.out
          · clear hc ho hs hpl hin hrow hasc
            go_wp2
            go_ret
            exact layO_no hbel
        · obtain rfl : k = ol := by omega
          clear hc ho hs hpl
          go_wp2
          go_ret
          exact ⟨true, rfl, fun _ => ⟨rfl, rfl, hin, hasc⟩, hbel⟩
    · have hv' : ((ol : Int) != (vl : Int)) = true := by rw [bne_iff_ne]; omega
      go_enter Try.func6, Try.ntmps6
      go_wp2
      go_ret
      exact layO_no (Below.refl _ _)
  · have hv' : ((vl : Int) != (n : Int)) = true := by rw [bne_iff_ne]; omega
    go_enter Try.func6, Try.ntmps6
    go_wp2
    go_ret
    exact layO_no (Below.refl _ _)

end Go.Proofs.Qxb6608767a
