import Derived.Test.Qxb6608767aRows
import Derived.WalkKit
import Derived.ProofKit
import Derived.WalkSpells
import Derived.Lib.Bytealg
import Derived.Lib.Walk
import Derived.BigQuiet
import Derived.Deep.QuietTactic
import Derived.Laws.BitsAllLaws
namespace Go.Proofs.Qxb6608767a
open Go.RowKit
set_option maxHeartbeats 1000000 in
set_option maxRecDepth 100000 in
theorem compareString_any (a b : ByteArray) (w : World) :
    Calls Try.prog 20 #[.string a, .string b] w fun e w' => e = .returned (.int .i64 (Lib.compareBytes a.data.toList b.data.toList)) ∧ w' = w := by
  go_enter Try.func20, Try.ntmps20
  go_wp2
  rw [run_callFunc_extern Try.func21 (by kernel_rfl) (by kernel_rfl) (by kernel_rfl) (e := Extern.BytealgCompare.compare) (by kernel_rfl), Lib.run_compareString]
  simp only [Result.andThen]
  rw [Oper.upon_value]
  go_wp2
  go_ret
  exact ⟨rfl, rfl⟩
theorem compare_any (a b : ByteArray) (w : World) :
    Calls Try.prog 16 #[.string a, .string b] w fun e w' => e = .returned (.int .i64 (Lib.compareBytes a.data.toList b.data.toList)) ∧ w' = w := by
  go_enter Try.func16, Try.ntmps16
  go_wp2_with (go_at_call 20; refine (compareString_any _ _ _).mono ?_; rintro e w' ⟨rfl, rfl⟩)
  go_ret
  exact ⟨rfl, rfl⟩
theorem search1_any (s q : ByteArray) (v : Int) (w : World) :
    Calls Try.prog 15 #[.agg #[.string s, .int .i64 v], .string q] w fun e w' => e = .returned (.int .i64 (Lib.compareBytes s.data.toList q.data.toList)) ∧ w' = w.alloc (.cells #[.string s, .int .i64 v] 39) := by
  go_enter Try.func15, Try.ntmps15
  go_wp2_with (go_at_call 16; refine (compare_any _ _ _).mono ?_; rintro e w' ⟨rfl, rfl⟩)
  go_ret
  exact ⟨rfl, rfl⟩
theorem plc_eq (p : Int) (h0 : 0 ≤ p) (h1 : p < 65536) : wrap64 (bits BinOp.andNot IntKind.u16 p 32768) = p % 32768 := by
  rw [u16_andNot p 32768 h0 h1 (by decide) (by decide)]
  obtain ⟨n, rfl⟩ := Int.eq_ofNat_of_zero_le h0
  have e : (n &&& (65535 - (32768 : Int).toNat)) = n % 32768 := Nat.and_two_pow_sub_one_eq_mod n 15
  rw [Int.toNat_natCast, e]
  unfold wrap64
  omega
theorem place_any (p : Int) (h0 : 0 ≤ p) (h1 : p < 65536) (w : World) :
    Calls Try.prog 19 #[.int .u16 p] w fun e w' => e = .returned (.int .i64 (p % 32768)) ∧ w' = w := by
  have HP : Hid (wrap64 (bits BinOp.andNot IntKind.u16 p 32768) = p % 32768) := plc_eq p h0 h1
  go_enter Try.func19, Try.ntmps19
  go_wp2
  go_ret
  rw [HP.out]
  exact ⟨rfl, rfl⟩
/-- (*rowBlock).entry: the address of entry p. -/
theorem entry_any (Bb Be n : Nat) (p : Int) (h0 : 0 ≤ p) (h1 : p < 65536) (hp : p % 32768 < n) (w : World) (hc : w.cell? ⟨Bb, 0, none⟩ = some (.slice (some ⟨Be, 0, none⟩) n n)) :
    Calls Try.prog 13 #[.pointer (some ⟨Bb, 0, none⟩), .int .u16 p] w fun e w' => e = .returned (.pointer (some ⟨Be, (p % 32768).toNat * 2, none⟩)) ∧ ∃ k, w' = w.drewN k := by
  have hp0 : 0 ≤ p % 32768 := by omega
  go_enter Try.func13, Try.ntmps13
  go_wp2
  go_quiet ((go_at_call 19; exact Calls.quiet_of_same (place_any _ h0 h1 _)))
  go_wp2
  go_ret
  exact ⟨rfl, nq, rfl⟩
theorem search2_any (Bx Bb Be n : Nat) (p : Int) (h0 : 0 ≤ p) (h1 : p < 65536) (hp : p % 32768 < n) (s q : ByteArray) (w : World) (hx : w.cell? ⟨Bx, 0, none⟩ = some (.pointer (some ⟨Bb, 0, none⟩)))
    (hc : w.cell? ⟨Bb, 0, none⟩ = some (.slice (some ⟨Be, 0, none⟩) n n)) (hs : w.cell? ⟨Be, (p % 32768).toNat * 2, none⟩ = some (.string s)) :
    Calls Try.prog 18 #[.int .u16 p, .string q, .pointer (some ⟨Bx, 0, none⟩)] w fun e w' => e = .returned (.int .i64 (Lib.compareBytes s.data.toList q.data.toList)) ∧ ∃ k, w' = w.drewN k := by
  go_enter Try.func18, Try.ntmps18
  go_wp2_with (first | (go_at_call 13; refine (entry_any Bb Be n p h0 h1 hp _ hc).mono ?_; rintro e w' ⟨rfl, k, rfl⟩) | (go_at_call 16; refine (compare_any _ _ _).mono ?_; rintro e w' ⟨rfl, rfl⟩))
  go_ret
  exact ⟨rfl, _, rfl⟩
theorem zentry_any (Bb Be n : Nat) (p : Int) (h0 : 0 ≤ p) (h1 : p < 65536) (hp : p % 32768 < n) (s : ByteArray) (v : Int) (w : World)
    (hc : w.cell? ⟨Bb, 0, none⟩ = some (.slice (some ⟨Be, 0, none⟩) n n)) (hs : w.cell? ⟨Be, (p % 32768).toNat * 2, none⟩ = some (.string s)) (hv : w.cell? ⟨Be, (p % 32768).toNat * 2 + 1, none⟩ = some (.int .i64 v)) :
    Calls Try.prog 11 #[.pointer (some ⟨Bb, 0, none⟩), .int .u16 p] w fun e w' => e = .returned (.tuple #[.string s, .int .i64 v]) ∧ ∃ k, w' = w.drewN k := by
  go_enter Try.func11, Try.ntmps11
  go_wp2_with (first | (go_at_call 13; refine (entry_any Bb Be n p h0 h1 hp _ hc).mono ?_; rintro e w' ⟨rfl, k, rfl⟩))
  go_quiet (fail)
  go_wp2
  go_ret2
  exact ⟨rfl, _, World.drewN_drewN _ _ _⟩

set_option maxHeartbeats 1000000 in
theorem bsE_any (Be n m : Nat) (q : ByteArray) (nm : Nat → ByteArray) (vl : Nat → Int) (w : World) (hn : n ≤ 4096) (hm : m < n) (hB : Be < w.heap.size)
    (hc : ∀ i, i < n → w.cell? ⟨Be, i * 2, none⟩ = some (.string (nm i)) ∧ w.cell? ⟨Be, i * 2 + 1, none⟩ = some (.int .i64 (vl i)))
    (hlt : ∀ i, i < m → Lib.compareBytes (nm i).data.toList q.data.toList < 0) (hge : ∀ i, m ≤ i → i < n → 0 ≤ Lib.compareBytes (nm i).data.toList q.data.toList)
    (heq : Lib.compareBytes (nm m).data.toList q.data.toList = 0) :
    Calls Try.prog 14 #[.slice (some ⟨Be, 0, none⟩) n n, .string q, .func (.func 15) #[] #[]] w fun e w' => e = .returned (.tuple #[.int .i64 m, .bool true]) ∧ Below w.heap.size w w' := by
  go_enter Try.func14, Try.ntmps14
  go_wp2
  go_loopw [9, 10] (fun i j wr => ∃ a b : Nat, a ≤ m ∧ m ≤ b ∧ b ≤ n ∧ i = .int .i64 a ∧ j = .int .i64 b ∧ Below w.heap.size w wr) (fun i j _ => (intOf j - intOf i).toNat)
  case atStart => exact ⟨0, n, Nat.zero_le _, by omega, Nat.le_refl _, rfl, rfl, Below.refl _ _⟩
  case round =>
    obtain ⟨a, b, ha, hb, hbn, rfl, rfl, hbel⟩ := hrel
    have hcr : ∀ i, i < n → wr.cell? ⟨Be, i * 2, none⟩ = some (.string (nm i)) ∧ wr.cell? ⟨Be, i * 2 + 1, none⟩ = some (.int .i64 (vl i)) := fun i hi => by
      rw [hbel.cell (p := ⟨Be, i * 2, none⟩) hB, hbel.cell (p := ⟨Be, i * 2 + 1, none⟩) hB]; exact hc i hi
    clear hc
    by_cases hab : a < b
    · have c0 := (hcr ((a + b) / 2) (by omega)).1
      have c1 := (hcr ((a + b) / 2) (by omega)).2
      clear hcr
      by_cases hmid : (a + b) / 2 < m
      · have hcm := hlt _ hmid
        clear hlt hge heq
        go_wp2_with (go_at_call 15; refine (search1_any (nm ((a + b) / 2)) q (vl ((a + b) / 2)) _).mono ?_; rintro e w' ⟨rfl, rfl⟩)
        go_roundw
        case rel => exact ⟨(a + b) / 2 + 1, b, by omega, hb, hbn, by go_num, rfl, hbel.alloc hbel.size _⟩
        case measure => simp [intOf]; omega
      · have hcm := hge _ (by omega) (show (a + b) / 2 < n by omega)
        clear hlt hge heq
        go_wp2_with (go_at_call 15; refine (search1_any (nm ((a + b) / 2)) q (vl ((a + b) / 2)) _).mono ?_; rintro e w' ⟨rfl, rfl⟩)
        go_roundw
        case rel => exact ⟨a, (a + b) / 2, ha, by omega, by omega, rfl, by go_num, hbel.alloc hbel.size _⟩
        case measure => simp [intOf]; omega
    · obtain rfl : a = m := by omega
      have c0 := (hcr a (by omega)).1
      have c1 := (hcr a (by omega)).2
      have hcm : (Lib.compareBytes (nm a).data.toList q.data.toList == 0) = true := by rw [heq]; rfl
      clear hlt hge heq hcr
      go_wp2_with (go_at_call 15; refine (search1_any (nm a) q (vl a) _).mono ?_; rintro e w' ⟨rfl, rfl⟩)
      go_ret2
      exact ⟨rfl, hbel.alloc hbel.size _⟩

end Go.Proofs.Qxb6608767a
