import Derived.Test.Qxb6609005aCount
import Derived.WalkKit
import Derived.ProofKit
import Derived.WalkSpells
import Derived.WalkSmall
import Derived.BigQuiet
import Derived.Deep.QuietTactic
import Derived.Deep.RegionHeld3
import Derived.Deep.DrawnRows
namespace Go.Proofs.Qxb6609005a
open Go.RowKit Go.Kx Go.Kn
theorem zero24 (w : World) : (zeroValue 24).run Try.prog w = .ok (.int .u32 0) w := by kernel_rfl
/-- The names' numbers in the map of the clock's log. -/
def Hst (w : World) (hb r n : Nat) (f : List UInt8 → Option Int) : Prop := w.cell? ⟨hb, 1, none⟩ = some (.map (some r)) ∧ SMap Try.prog 9 24 .u32 w r n f
theorem Hst.below {w w' : World} {hb r n : Nat} {f : List UInt8 → Option Int} (h : Hst w hb r n f) (hbel : Below w.heap.size w w') : Hst w' hb r n f :=
  ⟨(hbel.cell (p := ⟨hb, 1, none⟩) (cell_lt h.1)).trans h.1, h.2.below hbel h.2.lt⟩
theorem number_zero (c : Ck) (ka : Option Addr) (kc : Nat) (s : ByteArray) (w : World) :
    Calls Try.prog 42 #[Ckv none c ka kc, .string s] w fun e w' => e = .returned (.tuple #[.int .u32 0, .bool false]) ∧ Below w.heap.size w w' := by
  have H := isZero_any none c ka kc
  unfold Ckv at *
  have HH : Hid _ := H
  clear H
  go_enter Try.func42, Try.ntmps42
  go_wp2_with fail
  refine Calls.mono (HH.out _) ?_
  rintro e w1 ⟨rfl, hb⟩
  go_wp2
  go_ret2
  exact ⟨rfl, below_trans (below_alloc _ _) hb⟩
theorem number_map (hb r n : Nat) (f : List UInt8 → Option Int) (c : Ck) (ka : Option Addr) (kc : Nat) (s : ByteArray) (w : World) (hs : s.size ≤ maxLen) (hh : Hst w hb r n f) (fo : Option Int) (hfo : f s.data.toList = fo) :
    Calls Try.prog 42 #[Ckv (some ⟨hb, 0, none⟩) c ka kc, .string s] w fun e w' => e = .returned (.tuple #[.int .u32 (fo.getD 0), .bool fo.isSome]) ∧ Below w.heap.size w w' := by
  have H := isZero_any (some ⟨hb, 0, none⟩) c ka kc
  unfold Ckv at *
  have HH : Hid _ := H
  have HX : Hid (Hst w hb r n f) := hh
  clear H hh
  go_enter Try.func42, Try.ntmps42
  go_wp2_with fail
  refine Calls.mono (HH.out _) ?_
  rintro e w1 ⟨rfl, hb1⟩
  have hbb := below_trans (below_alloc w (.cells #[.pointer (some ⟨hb, 0, none⟩), .int .u32 c.own, .int .u32 c.cn, .slice ka c.kl kc] 71)) hb1
  have hst := HX.out.below hbb
  have hq := hst.1
  have hlk := hst.2.look_ok (t := 33) Try.underlying9 Try.underlying33 Try.underlying24 (zero24 _) s hs
  have hcc := hb1.cell (p := ⟨w.heap.size, 0, none⟩) (by simp)
  simp at hcc
  rw [hfo] at hlk
  clear hst HH HX hb1 hfo
  go_wp2
  go_ret2
  exact ⟨rfl, hbb⟩
/-- (Clock).Count: the count of a host by its name: 0 for a name that the log does not know. -/
theorem ccount_zero (c : Ck) (ka : Option Addr) (kc : Nat) (s : ByteArray) (w : World) :
    Calls Try.prog 34 #[Ckv none c ka kc, .string s] w fun e w' => e = .returned (.int .u64 0) ∧ Below w.heap.size w w' := by
  have H := number_zero c ka kc s
  unfold Ckv at *
  have HH : Hid _ := H
  clear H
  go_enter Try.func34, Try.ntmps34
  go_wp2_with fail
  refine Calls.mono (HH.out _) ?_
  rintro e w1 ⟨rfl, hb⟩
  go_wp2
  go_ret
  exact ⟨rfl, below_trans (below_alloc _ _) hb⟩

theorem ccount_no (hb r n : Nat) (f : List UInt8 → Option Int) (c : Ck) (ka : Option Addr) (kc : Nat) (s : ByteArray) (w : World) (hs : s.size ≤ maxLen) (hh : Hst w hb r n f) (hfo : f s.data.toList = none) :
    Calls Try.prog 34 #[Ckv (some ⟨hb, 0, none⟩) c ka kc, .string s] w fun e w' => e = .returned (.int .u64 0) ∧ Below w.heap.size w w' := by
  have H := fun w1 (hb1 : Below w.heap.size w w1) => number_map hb r n f c ka kc s w1 hs (hh.below hb1) none hfo
  unfold Ckv at *
  have HH : Hid _ := H
  clear H hh
  go_enter Try.func34, Try.ntmps34
  go_wp2_with fail
  refine Calls.mono (HH.out _ (below_alloc _ _)) ?_
  rintro e w1 ⟨rfl, hb⟩
  go_wp2
  go_ret
  exact ⟨rfl, below_trans (below_alloc _ _) hb⟩
theorem ccount_yes (hb r n : Nat) (f : List UInt8 → Option Int) (c : Ck) (ka : Option Addr) (kc : Nat) (s : ByteArray) (w : World) (hs : s.size ≤ maxLen) (hh : Hst w hb r n f) (i : Nat) (hi : i < 4294967296) (hfo : f s.data.toList = some (i : Int))
    (hf : Fits c) (ha : Asc c) (hk : Knw w ka c) (hcv : cv c i < 4294967296) :
    Calls Try.prog 34 #[Ckv (some ⟨hb, 0, none⟩) c ka kc, .string s] w fun e w' => e = .returned (.int .u64 (cv c i)) ∧ Below w.heap.size w w' := by
  have H := fun w1 (hb1 : Below w.heap.size w w1) => number_map hb r n f c ka kc s w1 hs (hh.below hb1) (some (i : Int)) hfo
  have HC := fun w1 (hb1 : Below w.heap.size w w1) => count_any (some ⟨hb, 0, none⟩) c ka kc i w1 hf ha hi (hk.below hb1)
  unfold Ckv at *
  have HH : Hid _ := H
  have HHC : Hid _ := HC
  clear H hh HC hk hf ha
  generalize cv c i = v at *
  go_enter Try.func34, Try.ntmps34
  go_wp2_with fail
  refine Calls.mono (HH.out _ (below_alloc _ _)) ?_
  rintro e w1 ⟨rfl, hb1⟩
  have hbb := below_trans (below_alloc w (.cells #[.pointer (some ⟨hb, 0, none⟩), .int .u32 c.own, .int .u32 c.cn, .slice ka c.kl kc] 71)) hb1
  have d0 := hb1.cell (p := ⟨w.heap.size, 0, none⟩) (by simp)
  have d1 := hb1.cell (p := ⟨w.heap.size, 1, none⟩) (by simp)
  have d2 := hb1.cell (p := ⟨w.heap.size, 2, none⟩) (by simp)
  have d3 := hb1.cell (p := ⟨w.heap.size, 3, none⟩) (by simp)
  simp at d0 d1 d2 d3
  clear hb1
  go_wp2_with fail
  refine Calls.mono (HHC.out _ hbb) ?_
  rintro e w2 ⟨rfl, hb2⟩
  go_wp2
  go_ret
  exact ⟨rfl, below_trans hbb hb2⟩

end Go.Proofs.Qxb6609005a
