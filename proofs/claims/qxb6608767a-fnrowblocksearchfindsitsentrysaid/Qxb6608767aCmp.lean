import Derived.Test.Qxb6608767aCalls
import Derived.WalkKit
import Derived.ProofKit
import Derived.WalkSpells
import Derived.WalkSmall
import Derived.Lib.Bytealg
import Derived.Lib.Walk
import Derived.BigQuiet
import Derived.Deep.QuietTactic
import Derived.Laws.BitsAllLaws
namespace Go.Proofs.Qxb6608767a
open Go.RowKit


theorem cmp_drop (a b : List UInt8) (k : Nat) (ha : k < a.length) (hb : k < b.length) :
    Lib.compareBytes (a.drop k) (b.drop k) = if a[k] < b[k] then -1 else if b[k] < a[k] then 1 else Lib.compareBytes (a.drop (k + 1)) (b.drop (k + 1)) := by
  rw [List.drop_eq_getElem_cons ha, List.drop_eq_getElem_cons hb]
  rfl
theorem cmp_nil_cons (c : UInt8) (l : List UInt8) : Lib.compareBytes [] (c :: l) = -1 := rfl
theorem cmp_cons_nil (c : UInt8) (l : List UInt8) : Lib.compareBytes (c :: l) [] = 1 := rfl
theorem cmp_nil_nil : Lib.compareBytes [] [] = 0 := rfl
theorem cmp_endL (a b : List UInt8) (h1 : a.length < b.length) : Lib.compareBytes (a.drop a.length) (b.drop a.length) = -1 := by
  rw [List.drop_eq_getElem_cons h1, List.drop_length]; rfl
theorem cmp_endR (a b : List UInt8) (h1 : b.length < a.length) : Lib.compareBytes (a.drop b.length) (b.drop b.length) = 1 := by
  rw [List.drop_eq_getElem_cons h1, List.drop_length]; rfl
theorem cmp_end0 (a b : List UInt8) (h1 : a.length = b.length) : Lib.compareBytes (a.drop a.length) (b.drop a.length) = 0 := by
  rw [List.drop_length, h1, List.drop_length]; rfl
theorem cmp_lt (a b : ByteArray) (k : Nat) (ha : k < a.size) (hb : k < b.size) (h : a[k].toNat < b[k].toNat) : Lib.compareBytes (a.data.toList.drop k) (b.data.toList.drop k) = -1 := by
  rw [cmp_drop _ _ k ha hb, if_pos (show a.data.toList[k]'ha < b.data.toList[k]'hb from UInt8.lt_iff_toNat_lt.2 h)]
theorem cmp_gt (a b : ByteArray) (k : Nat) (ha : k < a.size) (hb : k < b.size) (h : b[k].toNat < a[k].toNat) : Lib.compareBytes (a.data.toList.drop k) (b.data.toList.drop k) = 1 := by
  rw [cmp_drop _ _ k ha hb, if_neg (show ¬ a.data.toList[k]'ha < b.data.toList[k]'hb from fun h' => absurd h (Nat.not_lt.2 (Nat.le_of_lt (UInt8.lt_iff_toNat_lt.1 h')))), if_pos (show b.data.toList[k]'hb < a.data.toList[k]'ha from UInt8.lt_iff_toNat_lt.2 h)]
theorem cmp_same (a b : ByteArray) (k : Nat) (ha : k < a.size) (hb : k < b.size) (h : ¬ a[k].toNat < b[k].toNat) (h' : ¬ b[k].toNat < a[k].toNat) :
    Lib.compareBytes (a.data.toList.drop (k + 1)) (b.data.toList.drop (k + 1)) = Lib.compareBytes (a.data.toList.drop k) (b.data.toList.drop k) := by
  rw [cmp_drop _ _ k ha hb, if_neg (show ¬ a.data.toList[k]'ha < b.data.toList[k]'hb from fun e => h (UInt8.lt_iff_toNat_lt.1 e)), if_neg (show ¬ b.data.toList[k]'hb < a.data.toList[k]'ha from fun e => h' (UInt8.lt_iff_toNat_lt.1 e))]

theorem drew3 (w : World) (a b c : Nat) : ((w.drewN a).drewN b).drewN c = w.drewN (a + (b + c)) := by rw [World.drewN_drewN, World.drewN_drewN]
theorem ret_int {k : IntKind} {a b : Int} (h : a = b) : Ending.returned (.int k a) = .returned (.int k b) := by rw [h]

set_option maxHeartbeats 1000000 in
theorem rbCmp_any (a b : ByteArray) (w : World) (ha : a.size ≤ maxLen) (hb : b.size ≤ maxLen) :
    Calls Try.prog 8 #[.string a, .string b] w fun e w' => e = .returned (.int .i64 (Lib.compareBytes a.data.toList b.data.toList)) ∧ ∃ k, w' = w.drewN k := by
  unfold maxLen at ha hb
  by_cases hba : b.size < a.size
  · have hn : ¬ a.size < b.size := by omega
    go_enter Try.func8, Try.ntmps8
    go_wp2
    go_loopw [6] (fun i wr => ∃ k n : Nat, k ≤ b.size ∧ i = .int .i64 k ∧ wr = w.drewN n ∧ Lib.compareBytes (a.data.toList.drop k) (b.data.toList.drop k) = Lib.compareBytes a.data.toList b.data.toList) (fun i _ => b.size - (intOf i).toNat)
    case atStart => exact ⟨0, 0, Nat.zero_le _, rfl, rfl, rfl⟩
    case round =>
      obtain ⟨k, n, hk, rfl, rfl, hinv⟩ := hrel
      have HI : Hid (Lib.compareBytes (a.data.toList.drop k) (b.data.toList.drop k) = Lib.compareBytes a.data.toList b.data.toList) := hinv
      clear hinv
      by_cases hkb : k < b.size
      · have hka : k < a.size := by omega
        by_cases h1 : a[k].toNat < b[k].toNat
        · go_wp2
          go_quiet (fail)
          go_wp2
          go_ret
          exact ⟨ret_int (by rw [← HI.out, cmp_lt a b k (by omega) (by omega) h1]), _, World.drewN_drewN _ _ _⟩
        · by_cases h2 : b[k].toNat < a[k].toNat
          · go_wp2
            go_quiet (fail)
            go_wp2
            go_quiet (fail)
            go_wp2
            go_ret
            exact ⟨ret_int (by rw [← HI.out, cmp_gt a b k (by omega) (by omega) h2]), _, drew3 _ _ _ _⟩
          · go_wp2
            go_quiet (fail)
            go_wp2
            go_quiet (fail)
            go_wp2
            go_roundw
            case rel => exact ⟨k + 1, _, by omega, by go_num, rfl, by rw [cmp_same a b k (by omega) (by omega) h1 h2]; exact HI.out⟩
            case measure => simp [intOf]; omega
      · obtain rfl : k = b.size := by omega
        go_wp2
        go_ret
        exact ⟨ret_int (by rw [← HI.out]; exact (cmp_endR a.data.toList b.data.toList hba).symm), _, rfl⟩
  · by_cases hab : a.size < b.size
    · have hn : ¬ b.size < a.size := hba
      go_enter Try.func8, Try.ntmps8
      go_wp2
      go_loopw [6] (fun i wr => ∃ k n : Nat, k ≤ a.size ∧ i = .int .i64 k ∧ wr = w.drewN n ∧ Lib.compareBytes (a.data.toList.drop k) (b.data.toList.drop k) = Lib.compareBytes a.data.toList b.data.toList) (fun i _ => a.size - (intOf i).toNat)
      case atStart => exact ⟨0, 0, Nat.zero_le _, rfl, rfl, rfl⟩
      case round =>
        obtain ⟨k, n, hk, rfl, rfl, hinv⟩ := hrel
        have HI : Hid (Lib.compareBytes (a.data.toList.drop k) (b.data.toList.drop k) = Lib.compareBytes a.data.toList b.data.toList) := hinv
        clear hinv
        by_cases hkb : k < a.size
        · have hka : k < b.size := by omega
          by_cases h1 : a[k].toNat < b[k].toNat
          · go_wp2
            go_quiet (fail)
            go_wp2
            go_ret
            exact ⟨ret_int (by rw [← HI.out, cmp_lt a b k (by omega) (by omega) h1]), _, World.drewN_drewN _ _ _⟩
          · by_cases h2 : b[k].toNat < a[k].toNat
            · go_wp2
              go_quiet (fail)
              go_wp2
              go_quiet (fail)
              go_wp2
              go_ret
              exact ⟨ret_int (by rw [← HI.out, cmp_gt a b k (by omega) (by omega) h2]), _, drew3 _ _ _ _⟩
            · go_wp2
              go_quiet (fail)
              go_wp2
              go_quiet (fail)
              go_wp2
              go_roundw
              case rel => exact ⟨k + 1, _, by omega, by go_num, rfl, by rw [cmp_same a b k (by omega) (by omega) h1 h2]; exact HI.out⟩
              case measure => simp [intOf]; omega
        · obtain rfl : k = a.size := by omega
          go_wp2
          go_ret
          exact ⟨ret_int (by rw [← HI.out]; exact (cmp_endL a.data.toList b.data.toList hab).symm), _, rfl⟩
    · have hn : ¬ b.size < a.size := hba
      go_enter Try.func8, Try.ntmps8
      go_wp2
      go_loopw [6] (fun i wr => ∃ k n : Nat, k ≤ a.size ∧ i = .int .i64 k ∧ wr = w.drewN n ∧ Lib.compareBytes (a.data.toList.drop k) (b.data.toList.drop k) = Lib.compareBytes a.data.toList b.data.toList) (fun i _ => a.size - (intOf i).toNat)
      case atStart => exact ⟨0, 0, Nat.zero_le _, rfl, rfl, rfl⟩
      case round =>
        obtain ⟨k, n, hk, rfl, rfl, hinv⟩ := hrel
        have HI : Hid (Lib.compareBytes (a.data.toList.drop k) (b.data.toList.drop k) = Lib.compareBytes a.data.toList b.data.toList) := hinv
        clear hinv
        by_cases hkb : k < a.size
        · have hka : k < b.size := by omega
          by_cases h1 : a[k].toNat < b[k].toNat
          · go_wp2
            go_quiet (fail)
            go_wp2
            go_ret
            exact ⟨ret_int (by rw [← HI.out, cmp_lt a b k (by omega) (by omega) h1]), _, World.drewN_drewN _ _ _⟩
          · by_cases h2 : b[k].toNat < a[k].toNat
            · go_wp2
              go_quiet (fail)
              go_wp2
              go_quiet (fail)
              go_wp2
              go_ret
              exact ⟨ret_int (by rw [← HI.out, cmp_gt a b k (by omega) (by omega) h2]), _, drew3 _ _ _ _⟩
            · go_wp2
              go_quiet (fail)
              go_wp2
              go_quiet (fail)
              go_wp2
              go_roundw
              case rel => exact ⟨k + 1, _, by omega, by go_num, rfl, by rw [cmp_same a b k (by omega) (by omega) h1 h2]; exact HI.out⟩
              case measure => simp [intOf]; omega
        · obtain rfl : k = a.size := by omega
          go_wp2
          go_ret
          exact ⟨ret_int (by rw [← HI.out]; exact (cmp_end0 a.data.toList b.data.toList (by show a.size = b.size; omega)).symm), _, rfl⟩

end Go.Proofs.Qxb6608767a
