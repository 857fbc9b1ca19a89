import Derived.Test.Qxb6609020aCells
import Derived.WalkKit
import Derived.ProofKit
import Derived.WalkSpells
import Derived.WalkSmall
import Derived.BigQuiet
import Derived.Deep.QuietTactic
namespace Go.Proofs.Qxb6609020a
open Go.RowKit Go.Kx
/-- What zzBuildNames leaves: a new map, or nil. -/
def NamesPost (n : Nat) (f : List UInt8 → Option Int) (w : World) (e : Ending) (w' : World) : Prop := ∃ mv : Option Nat, e = .returned (.map mv) ∧ NM w' mv n f ∧ (∀ b, mv = some b → w.heap.size ≤ b) ∧ Below w.heap.size w w'
set_option maxHeartbeats 1000000 in
theorem buildNames_any (na : Option Addr) (n nc : Nat) (nm : Nat → ByteArray) (va : Option Addr) (vl vc : Nat) (z : Nat → Int) (w : World) (hn : n ≤ maxLen) (hs : ∀ i, i < n → (nm i).size ≤ maxLen) (h0 : na = none → n = 0) (hN : Nms w na n nm) (hZ : Zs w va vl z) (hz : ∀ i, i < vl → (Lit.int .i64 (z i)).wf = true) :
    Calls Try.prog 17 #[.slice na n nc, .slice va vl vc] w (NamesPost n (mp nm (vat vl z) n) w) := by
  have e32 := fun w a n c => Lib.run_eql_slice_nil (P := Try.prog) w 32 _ a n c 0 0 Try.underlying32
  cases na with
  | none =>
    obtain rfl : n = 0 := h0 rfl
    have HF : Hid (NM w none 0 (mp nm (vat vl z) 0)) := fun _ => rfl
    clear hN hZ hs hz
    go_enter Try.func17, Try.ntmps17
    go_wp2
    go_ret
    exact ⟨none, rfl, HF.out, (fun b h => by cases h), Below.refl _ _⟩
  | some ad =>
    have hmm := mk_map
    have HN : Hid (Nms w (some ad) n nm) := hN
    have HZ : Hid (Zs w va vl z) := hZ
    have HS : Hid (∀ i, i < n → (nm i).size ≤ maxLen) := hs
    have HW : Hid (∀ i, i < vl → (Lit.int .i64 (z i)).wf = true) := hz
    have hn' : n ≤ 2 ^ 63 - 1 := hn
    clear hN hZ hs hz h0
    go_enter Try.func17, Try.ntmps17
    go_wp2
    go_loopw [6, 7] (fun kk _ wr => ∃ k : Nat, kk = .int .i64 k ∧ k ≤ n ∧ SMap Try.prog 9 2 .i64 wr w.heap.size k (mp nm (vat vl z) k) ∧ Below w.heap.size w wr) (fun kk _ _ => n - (intOf kk).toNat)
    case atStart => exact ⟨0, rfl, Nat.zero_le _, SMap.made w Try.prog 9 2 .i64, below_alloc _ _⟩
    case round =>
      obtain ⟨k, rfl, hk, hm, hb⟩ := hrel
      by_cases hkn : k < n
      · obtain ⟨b, off, hab, hc⟩ := HN.out.below hb k hkn
        injection hab with hab; subst hab
        have hsz := HS.out k hkn
        have HM : Hid (SMap Try.prog 9 2 .i64 wr w.heap.size k (mp nm (vat vl z) k)) := hm
        clear hm
        by_cases hv : k < vl
        · obtain ⟨b2, off2, rfl, hc2⟩ := HZ.out.below hb k hv
          have hwf := HW.out k hv
          have ex : vat vl z k = z k := by unfold vat; rw [if_pos hv]
          have HX : Hid (vat vl z k = z k) := ex
          clear ex HZ HN HS HW
          go_wp2_with (at_mapUpdate; refine wpList_smap_put (by rfl) _ _ _ 37 (by rfl) 9 2 .i64 Try.underlying9 Try.underlying37 Try.underlying2 w.heap.size k (mp nm (vat vl z) k) (by rfl) HM.out (by simp [maxLen]; omega) (nm k) hsz (z k) hwf (by rfl) (by rfl) w.heap.size w hb (Nat.le_refl _) ?_; intro w1 hrow hb1 hg1)
          go_roundw
          case rel => exact ⟨k + 1, by go_num, by omega, by rw [← HX.out] at hrow; exact hrow.out, hb1⟩
          case measure => simp [intOf]; omega
        · have ex : vat vl z k = 0 := by unfold vat; rw [if_neg hv]
          have HX : Hid (vat vl z k = 0) := ex
          clear ex HZ HN HS HW
          go_wp2_with (at_mapUpdate; refine wpList_smap_put (by rfl) _ _ _ 37 (by rfl) 9 2 .i64 Try.underlying9 Try.underlying37 Try.underlying2 w.heap.size k (mp nm (vat vl z) k) (by rfl) HM.out (by simp [maxLen]; omega) (nm k) hsz 0 (by decide) (by rfl) (by rfl) w.heap.size w hb (Nat.le_refl _) ?_; intro w1 hrow hb1 hg1)
          go_roundw
          case rel => exact ⟨k + 1, by go_num, by omega, by rw [← HX.out] at hrow; exact hrow.out, hb1⟩
          case measure => simp [intOf]; omega
      · obtain rfl : k = n := by omega
        have HM : Hid (SMap Try.prog 9 2 .i64 wr w.heap.size k (mp nm (vat vl z) k)) := hm
        clear hm
        go_wp2
        go_ret
        exact ⟨some w.heap.size, rfl, HM.out, (fun b h => by cases h; exact Nat.le_refl _), hb⟩
/-- A census in memory: count i's map holds f i. -/
def Cen (w : World) (ca : Option Addr) (n : Nat) (f : Nat → List UInt8 → Option Int) : Prop := ∀ i, i < n → ∃ b off mv fl m, ca = some ⟨b, off, none⟩ ∧ w.cell? ⟨b, off + i * 2, none⟩ = some (.int .i64 fl) ∧ w.cell? ⟨b, off + i * 2 + 1, none⟩ = some (.map mv) ∧ NM w mv m (f i)
theorem Cen.below {w w' : World} {ca : Option Addr} {n : Nat} {f : Nat → List UInt8 → Option Int} (h : Cen w ca n f) (hb : Below w.heap.size w w') : Cen w' ca n f := fun i hi => by
  obtain ⟨b, off, mv, fl, m, e, h1, h2, h3⟩ := h i hi
  exact ⟨b, off, mv, fl, m, e, (hb.cell (p := ⟨b, off + i * 2, none⟩) (cell_lt h1)).trans h1, (hb.cell (p := ⟨b, off + i * 2 + 1, none⟩) (cell_lt h2)).trans h2, h3.below hb⟩
/-- The sum as the machine takes it. -/
def ws (x : Nat → Int) : Nat → Int
  | 0 => 0
  | k + 1 => wrap64 (ws x k + x k)
set_option maxHeartbeats 1000000 in
theorem of_any (ca : Option Addr) (n cc : Nat) (f : Nat → List UInt8 → Option Int) (s : ByteArray) (w : World) (hn : n ≤ 1048576) (hs : s.size ≤ maxLen) (hC : Cen w ca n f) :
    Calls Try.prog 14 #[.slice ca n cc, .string s] w fun e w' => e = .returned (.int .i64 (ws (fun i => (f i s.data.toList).getD 0) n)) ∧ Below w.heap.size w w' := by
  have HC : Hid (Cen w ca n f) := hC
  clear hC
  go_enter Try.func14, Try.ntmps14
  go_wp2
  go_loopw [5, 10] (fun tt kk wr => ∃ k : Nat, tt = .int .i64 (ws (fun i => (f i s.data.toList).getD 0) k) ∧ kk = .int .i64 k ∧ k ≤ n ∧ Below w.heap.size w wr) (fun _ kk _ => n - (intOf kk).toNat)
  case atStart => exact ⟨0, rfl, rfl, Nat.zero_le _, Below.refl _ _⟩
  case round =>
    obtain ⟨k, rfl, rfl, hk, hb⟩ := hrel
    by_cases hkn : k < n
    · obtain ⟨b, off, mv, fl, m, rfl, c0, c1, hm⟩ := HC.out.below hb k hkn
      have hlk := (hm.below (below_alloc wr (.cells #[.int .i64 fl, .map mv] 40))).look s hs
      have HX : Hid (ws (fun i => (f i s.data.toList).getD 0) (k + 1) = wrap64 (ws (fun i => (f i s.data.toList).getD 0) k + (f k s.data.toList).getD 0)) := rfl
      have hbb := below_trans hb (below_alloc wr (.cells #[.int .i64 fl, .map mv] 40))
      clear hm HC
      generalize (f k s.data.toList).getD 0 = x at *
      go_wp2
      go_roundw
      case rel => exact ⟨k + 1, by rw [HX.out], by go_num, by omega, hbb⟩
      case measure => simp [intOf]; omega
    · obtain rfl : k = n := by omega
      clear HC
      go_wp2
      go_ret
      exact ⟨rfl, hb⟩
end Go.Proofs.Qxb6609020a
