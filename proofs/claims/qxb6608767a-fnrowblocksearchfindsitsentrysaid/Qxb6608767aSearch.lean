import Derived.Test.Qxb6608767aCalls
import Derived.WalkKit
import Derived.ProofKit
import Derived.WalkSpells
import Derived.WalkSmall
import Derived.Lib.Bytealg
import Derived.Lib.Walk
import Derived.BigQuiet
import Derived.Deep.QuietTactic
import Derived.Laws.BitsAllLaws
namespace Go.Proofs.Qxb6608767a
open Go.RowKit

set_option maxHeartbeats 1000000 in
theorem bsO_any (Bx Bb Be Bo n m : Nat) (q : ByteArray) (nm : Nat → ByteArray) (od : Nat → Int) (w : World) (hn : n ≤ 4096) (hm : m < n) (hB : Bo < w.heap.size) (hBe : Be < w.heap.size) (hBx : Bx < w.heap.size) (hBb : Bb < w.heap.size)
    (hx : w.cell? ⟨Bx, 0, none⟩ = some (.pointer (some ⟨Bb, 0, none⟩))) (hcb : w.cell? ⟨Bb, 0, none⟩ = some (.slice (some ⟨Be, 0, none⟩) n n))
    (ho : ∀ i, i < n → w.cell? ⟨Bo, i, none⟩ = some (.int .u16 (od i)) ∧ 0 ≤ od i ∧ od i < 65536 ∧ od i % 32768 < n)
    (hc : ∀ i, i < n → w.cell? ⟨Be, (od i % 32768).toNat * 2, none⟩ = some (.string (nm i)))
    (hlt : ∀ i, i < m → Lib.compareBytes (nm i).data.toList q.data.toList < 0) (hge : ∀ i, m ≤ i → i < n → 0 ≤ Lib.compareBytes (nm i).data.toList q.data.toList)
    (heq : Lib.compareBytes (nm m).data.toList q.data.toList = 0) :
    Calls Try.prog 17 #[.slice (some ⟨Bo, 0, none⟩) n n, .string q, .func (.func 18) #[] #[.pointer (some ⟨Bx, 0, none⟩)]] w fun e w' => e = .returned (.tuple #[.int .i64 m, .bool true]) ∧ Below w.heap.size w w' := by
  go_enter Try.func17, Try.ntmps17
  go_wp2
  go_loopw [9, 10] (fun i j wr => ∃ a b : Nat, a ≤ m ∧ m ≤ b ∧ b ≤ n ∧ i = .int .i64 a ∧ j = .int .i64 b ∧ Below w.heap.size w wr) (fun i j _ => (intOf j - intOf i).toNat)
  case atStart => exact ⟨0, n, Nat.zero_le _, by omega, Nat.le_refl _, rfl, rfl, Below.refl _ _⟩
  case round =>
    obtain ⟨a, b, ha, hb, hbn, rfl, rfl, hbel⟩ := hrel
    have hcr : ∀ i, i < n → wr.cell? ⟨Be, (od i % 32768).toNat * 2, none⟩ = some (.string (nm i)) := fun i hi => by
      rw [hbel.cell (p := ⟨Be, (od i % 32768).toNat * 2, none⟩) hBe]; exact hc i hi
    have hor : ∀ i, i < n → wr.cell? ⟨Bo, i, none⟩ = some (.int .u16 (od i)) ∧ 0 ≤ od i ∧ od i < 65536 ∧ od i % 32768 < n := fun i hi => by
      rw [hbel.cell (p := ⟨Bo, i, none⟩) hB]; exact ho i hi
    rw [← hbel.cell (p := ⟨Bx, 0, none⟩) hBx] at hx
    rw [← hbel.cell (p := ⟨Bb, 0, none⟩) hBb] at hcb
    clear hc ho
    by_cases hab : a < b
    · have c0 := hcr ((a + b) / 2) (by omega)
      obtain ⟨c1, o0, o1, o2⟩ := hor ((a + b) / 2) (by omega)
      clear hcr hor
      by_cases hmid : (a + b) / 2 < m
      · have hcm := hlt _ hmid
        clear hlt hge heq
        go_wp2_with (go_at_call 18; refine (search2_any Bx Bb Be n (od ((a + b) / 2)) o0 o1 o2 (nm ((a + b) / 2)) q _ hx hcb c0).mono ?_; rintro e w' ⟨rfl, k, rfl⟩)
        go_roundw
        case rel => exact ⟨(a + b) / 2 + 1, b, by omega, hb, hbn, by go_num, rfl, below_drewN hbel _⟩
        case measure => simp [intOf]; omega
      · have hcm := hge _ (by omega) (show (a + b) / 2 < n by omega)
        clear hlt hge heq
        go_wp2_with (go_at_call 18; refine (search2_any Bx Bb Be n (od ((a + b) / 2)) o0 o1 o2 (nm ((a + b) / 2)) q _ hx hcb c0).mono ?_; rintro e w' ⟨rfl, k, rfl⟩)
        go_roundw
        case rel => exact ⟨a, (a + b) / 2, ha, by omega, by omega, rfl, by go_num, below_drewN hbel _⟩
        case measure => simp [intOf]; omega
    · obtain rfl : a = m := by omega
      have c0 := hcr a (by omega)
      obtain ⟨c1, o0, o1, o2⟩ := hor a (by omega)
      have hcm : (Lib.compareBytes (nm a).data.toList q.data.toList == 0) = true := by rw [heq]; rfl
      clear hlt hge heq hcr hor
      go_wp2_with (go_at_call 18; refine (search2_any Bx Bb Be n (od a) o0 o1 o2 (nm a) q _ hx hcb c0).mono ?_; rintro e w' ⟨rfl, k, rfl⟩)
      go_ret2
      exact ⟨rfl, below_drewN hbel _⟩
theorem searchE_any (Bb : Nat) (Be n m : Nat) (q : ByteArray) (nm : Nat → ByteArray) (vl : Nat → Int) (w : World) (hn : n ≤ 4096) (hm : m < n) (c0 : w.cell? ⟨Bb, 0, none⟩ = some (.slice (some ⟨Be, 0, none⟩) n n))
   (c1 : w.cell? ⟨Bb, 1, none⟩ = some (.slice none 0 0))
    (hc : ∀ i, i < n → w.cell? ⟨Be, i * 2, none⟩ = some (.string (nm i)) ∧ w.cell? ⟨Be, i * 2 + 1, none⟩ = some (.int .i64 (vl i)))
    (hlt : ∀ i, i < m → Lib.compareBytes (nm i).data.toList q.data.toList < 0) (hge : ∀ i, m ≤ i → i < n → 0 ≤ Lib.compareBytes (nm i).data.toList q.data.toList)
    (heq : Lib.compareBytes (nm m).data.toList q.data.toList = 0) :
    Calls Try.prog 12 #[.pointer (some ⟨Bb, 0, none⟩), .string q] w fun e w' => e = .returned (.tuple #[.int .i64 m, .bool true]) ∧ Below w.heap.size w w' := by
  have hBb : Bb < w.heap.size := World.block_lt_of_cell? w _ c0
  have hBe : Be < w.heap.size := World.block_lt_of_cell? w _ (hc m hm).1
  have H := bsE_any Be n m q nm vl (w.alloc (.cells #[.pointer (some ⟨Bb, 0, none⟩)] 27)) hn hm (by simp; omega) (fun i hi => by
    rw [World.cell?_alloc_past _ _ _ hBe, World.cell?_alloc_past _ _ _ hBe]; exact hc i hi) hlt hge heq
  clear hc hlt hge heq
  have e40 := fun w a n c => Lib.run_eql_slice_nil (P := Try.prog) w 40 _ a n c 0 0 Try.underlying40
  go_enter Try.func12, Try.ntmps12
  go_wp2_with (go_at_call 14; refine Calls.mono H ?_; rintro e w' ⟨rfl, hb⟩)
  go_ret2
  exact ⟨rfl, ((Below.refl _ _).alloc (Nat.le_refl _) _).trans (hb.mono (by simp))⟩
theorem searchO_any (Bb : Nat) (Be Bo n m : Nat) (q : ByteArray) (nm : Nat → ByteArray) (od : Nat → Int) (w : World) (hn : n ≤ 4096) (hm : m < n) (c0 : w.cell? ⟨Bb, 0, none⟩ = some (.slice (some ⟨Be, 0, none⟩) n n))
   (c1 : w.cell? ⟨Bb, 1, none⟩ = some (.slice (some ⟨Bo, 0, none⟩) n n))
    (ho : ∀ i, i < n → w.cell? ⟨Bo, i, none⟩ = some (.int .u16 (od i)) ∧ 0 ≤ od i ∧ od i < 65536 ∧ od i % 32768 < n)
    (hc : ∀ i, i < n → w.cell? ⟨Be, (od i % 32768).toNat * 2, none⟩ = some (.string (nm i)))
    (hlt : ∀ i, i < m → Lib.compareBytes (nm i).data.toList q.data.toList < 0) (hge : ∀ i, m ≤ i → i < n → 0 ≤ Lib.compareBytes (nm i).data.toList q.data.toList)
    (heq : Lib.compareBytes (nm m).data.toList q.data.toList = 0) :
    Calls Try.prog 12 #[.pointer (some ⟨Bb, 0, none⟩), .string q] w fun e w' => e = .returned (.tuple #[.int .i64 m, .bool true]) ∧ Below w.heap.size w w' := by
  have hBb : Bb < w.heap.size := World.block_lt_of_cell? w _ c0
  have hBe : Be < w.heap.size := World.block_lt_of_cell? w _ (hc m hm)
  have hBo : Bo < w.heap.size := World.block_lt_of_cell? w _ (ho m hm).1
  have H := bsO_any w.heap.size Bb Be Bo n m q nm od (w.alloc (.cells #[.pointer (some ⟨Bb, 0, none⟩)] 27)) hn hm (by simp; omega) (by simp; omega) (by simp) (by simp; omega) (by simp)
    (by rw [World.cell?_alloc_past _ _ _ hBb]; exact c0)
    (fun i hi => by rw [World.cell?_alloc_past _ _ _ hBo]; exact ho i hi)
    (fun i hi => by rw [World.cell?_alloc_past _ _ _ hBe]; exact hc i hi) hlt hge heq
  clear hc hlt hge heq ho
  have e40 := fun w a n c => Lib.run_eql_slice_nil (P := Try.prog) w 40 _ a n c 0 0 Try.underlying40
  go_enter Try.func12, Try.ntmps12
  go_wp2_with (go_at_call 17; refine Calls.mono H ?_; rintro e w' ⟨rfl, hb⟩)
  go_ret2
  exact ⟨rfl, ((Below.refl _ _).alloc (Nat.le_refl _) _).trans (hb.mono (by simp))⟩
theorem zsearch_any (v : Value) (q : ByteArray) (m : Nat) (w : World) (H : Calls Try.prog 12 #[v, .string q] w fun e w' => e = .returned (.tuple #[.int .i64 m, .bool true]) ∧ Below w.heap.size w w') :
    Calls Try.prog 9 #[v, .string q] w fun e w' => e = .returned (.tuple #[.int .i64 m, .bool true]) ∧ Below w.heap.size w w' := by
  go_enter Try.func9, Try.ntmps9
  go_wp2_with (go_at_call 12; refine Calls.mono H ?_; rintro e w' ⟨rfl, hb⟩)
  go_ret2
  exact ⟨rfl, hb⟩

end Go.Proofs.Qxb6608767a
