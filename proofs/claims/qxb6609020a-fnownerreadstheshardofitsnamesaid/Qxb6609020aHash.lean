import Derived.Test.Qxb6609020aCells
import Derived.WalkKit
import Derived.ProofKit
import Derived.WalkSpells
import Derived.WalkSmall
set_option linter.unusedSimpArgs false
namespace Go.Proofs.Qxb6609020a
open Go.RowKit Go.Kx
/-- One byte of FNV-1a. -/
def stp (h b : Int) : Int := IntKind.u64.wrap (bits .xor .u64 h (IntKind.u64.wrap b) * 1099511628211)
/-- FNV-1a from h0 over k bytes. -/
def hsh (h0 : Int) (z : Nat → Int) : Nat → Int
  | 0 => h0
  | k + 1 => stp (hsh h0 z k) (z k)
def sq (h : Int) : Int := bits .xor .u64 h (h / 8589934592)
/-- fmix64. -/
def mixp (h : Int) : Int := sq (IntKind.u64.wrap (sq (IntKind.u64.wrap (sq h * 18397679294719823053)) * 14181476777654086739))
theorem bits_in (x y : Int) : 0 ≤ bits .xor .u64 x y ∧ bits .xor .u64 x y < 18446744073709551616 := by
  unfold bits
  simp only [IntKind.wrap, IntKind.bits, IntKind.signed]
  simp
  omega
theorem mixp_in (h : Int) : 0 ≤ mixp h ∧ mixp h < 18446744073709551616 := bits_in _ _
/-- The bytes of a string. -/
def byt (s : ByteArray) (k : Nat) : Int := if h : k < s.size then ((s[k]'h).toNat : Int) else 0
theorem byt_at (s : ByteArray) {k : Nat} (h : k < s.size) : byt s k = ((s[k]'h).toNat : Int) := by unfold byt; rw [dif_pos h]
/-- The shard of a name. -/
def shd (s : ByteArray) : Nat := (mixp (hsh 14695981039346656037 (byt s) s.size) / 4503599627370496).toNat
theorem shd_eq (s : ByteArray) : mixp (hsh 14695981039346656037 (byt s) s.size) / 4503599627370496 = (shd s : Int) ∧ shd s < 4096 := by
  have := mixp_in (hsh 14695981039346656037 (byt s) s.size)
  unfold shd
  omega
theorem zzshard_any (s : ByteArray) (hs : s.size ≤ maxLen) (w : World) : Calls Try.prog 19 #[.string s] w fun e w' => e = .returned (.int .i64 (shd s)) ∧ w' = w := by
  unfold maxLen at hs
  have HS := shd_eq s
  have HH : Hid (mixp (hsh 14695981039346656037 (byt s) s.size) / 4503599627370496 = (shd s : Int)) := HS.1
  have HL := HS.2
  clear HS
  go_enter Try.func19, Try.ntmps19
  go_wp2
  go_loopw [3, 4] (fun hh kk wr => ∃ (k : Nat), hh = .int .u64 (hsh 14695981039346656037 (byt s) k) ∧ kk = .int .i64 k ∧ k ≤ s.size ∧ wr = w) (fun _ kk _ => s.size - (intOf kk).toNat)
  case atStart => exact ⟨0, rfl, rfl, Nat.zero_le _, rfl⟩
  case round =>
    obtain ⟨k, rfl, rfl, hk, rfl⟩ := hrel
    by_cases hlt : k < s.size
    · have i1 : (0 : Int) ≤ (k : Int) := by omega
      have i2 : (k : Int) < (s.size : Int) := by omega
      have HX : Hid (hsh 14695981039346656037 (byt s) (k + 1) = IntKind.u64.wrap (bits .xor .u64 (hsh 14695981039346656037 (byt s) k) (IntKind.u64.wrap (s[k]'hlt).toNat) * 1099511628211)) := by
        show stp _ _ = _
        rw [byt_at s hlt]; rfl
      generalize hsh 14695981039346656037 (byt s) k = h at *
      clear HH
      go_wp2
      go_roundw
      case rel => exact ⟨k + 1, by rw [HX.out], by go_num, by omega, trivial⟩
      case measure => simp [intOf]; omega
    · obtain rfl : k = s.size := by omega
      generalize hsh 14695981039346656037 (byt s) s.size = h at *
      go_wp2
      go_ret
      refine ⟨?_, rfl⟩
      have e : wrap64 (mixp h / 4503599627370496) = (shd s : Int) := by
        rw [HH.out]; unfold wrap64; omega
      exact congrArg (fun x => Ending.returned (.int .i64 x)) e
/-- Bytes in memory. -/
def Bts (w : World) (b n : Nat) (z : Nat → Int) : Prop := ∀ i, i < n → w.cell? ⟨b, i, none⟩ = some (.int .u8 (z i))
theorem Bts.below {w w' : World} {b n : Nat} {z : Nat → Int} (h : Bts w b n z) (hb : Below w.heap.size w w') : Bts w' b n z := fun i hi => (hb.cell (p := ⟨b, i, none⟩) (cell_lt (h i hi))).trans (h i hi)
theorem write_any (p b n c : Nat) (h0 : Int) (z : Nat → Int) (w : World) (hn : n ≤ maxLen) (hp : w.cell? ⟨p, 0, none⟩ = some (.int .u64 h0)) (hf : w.frozen? ⟨p, 0, none⟩ = false) (hZ : Bts w b n z) :
    Calls Try.prog 48 #[.pointer (some ⟨p, 0, none⟩), .slice (some ⟨b, 0, none⟩) n c] w fun e w' => (∃ v, e = .returned v) ∧ w' = w.setCell ⟨p, 0, none⟩ (.int .u64 (hsh h0 z n)) := by
  unfold maxLen at hn
  have HZ : Hid (Bts w b n z) := hZ
  clear hZ
  go_enter Try.func48, Try.ntmps48
  go_wp2
  go_loopw [6, 14] (fun hh kk wr => ∃ (k : Nat), hh = .int .u64 (hsh h0 z k) ∧ kk = .int .i64 k ∧ k ≤ n ∧ wr = w) (fun _ kk _ => n - (intOf kk).toNat)
  case atStart => exact ⟨0, rfl, rfl, Nat.zero_le _, rfl⟩
  case round =>
    obtain ⟨k, rfl, rfl, hk, rfl⟩ := hrel
    by_cases hlt : k < n
    · have i1 : (0 : Int) ≤ (k : Int) := by omega
      have i2 : (k : Int) < (n : Int) := by omega
      have hc := HZ.out k hlt
      have HX : Hid (hsh h0 z (k + 1) = IntKind.u64.wrap (bits .xor .u64 (hsh h0 z k) (IntKind.u64.wrap (z k)) * 1099511628211)) := rfl
      generalize hsh h0 z k = h at *
      generalize z k = u at *
      clear HZ
      go_wp2
      go_roundw
      case rel => exact ⟨k + 1, by rw [HX.out], by go_num, by omega, trivial⟩
      case measure => simp [intOf]; omega
    · obtain rfl : k = n := by omega
      clear HZ
      go_wp2
      go_ret2
      exact ⟨⟨_, rfl⟩, rfl⟩
theorem new64a_any (w : World) : Calls Try.prog 23 #[] w fun e w' => e = .returned (.iface 66 (.pointer (some ⟨w.heap.size, 0, none⟩))) ∧ w' = w.alloc (.cells #[.int .u64 14695981039346656037] 65) := by
  go_enter Try.func23, Try.ntmps23
  go_wp2
  go_ret
  exact ⟨rfl, rfl⟩
theorem method_write (p : Addr) (w : World) : (method 187 66 (.pointer (some p)) "Write").run Try.prog w = .ok (48, .pointer (some p)) w := by kernel_rfl
theorem method_sum (p : Addr) (w : World) : (method 187 66 (.pointer (some p)) "Sum64").run Try.prog w = .ok (47, .pointer (some p)) w := by kernel_rfl
theorem sum64_any (p : Nat) (h : Int) (w : World) (hp : w.cell? ⟨p, 0, none⟩ = some (.int .u64 h)) : Calls Try.prog 47 #[.pointer (some ⟨p, 0, none⟩)] w fun e w' => e = .returned (.int .u64 h) ∧ w' = w := by
  go_enter Try.func47, Try.ntmps47
  go_wp2
  go_ret
  exact ⟨rfl, rfl⟩
theorem mix_any (h : Int) (w : World) : Calls Try.prog 24 #[.int .u64 h] w fun e w' => e = .returned (.int .u64 (mixp h)) ∧ w' = w := by
  go_enter Try.func24, Try.ntmps24
  go_wp2
  go_ret
  exact ⟨rfl, rfl⟩
theorem shards22 (g gc b n nc : Nat) (z : Nat → Int) (w : World) (hn : n ≤ maxLen) (hg : w.cell? ⟨g, 0, none⟩ = some (.slice (some ⟨b, 0, none⟩) n nc)) (hZ : Bts w b n z) :
    Calls Try.prog 22 #[.slice (some ⟨g, 0, none⟩) 1 gc] w fun e w' => e = .returned (.int .u16 (IntKind.u16.wrap (mixp (hsh 14695981039346656037 z n) / 4503599627370496))) ∧ Below w.heap.size w w' := by
  have HZ : Hid (Bts w b n z) := hZ
  have HG : Hid (∀ w', Below w.heap.size w w' → w'.cell? ⟨g, 0, none⟩ = some (.slice (some ⟨b, 0, none⟩) n nc)) := fun w' h => (h.cell (p := ⟨g, 0, none⟩) (cell_lt hg)).trans hg
  clear hZ hg
  go_enter Try.func22, Try.ntmps22
  go_wp2_with fail
  refine Calls.mono (new64a_any w) ?_
  rintro e w1 ⟨rfl, rfl⟩
  go_wp2
  go_loopw [5, 9] (fun _ kk wr => ∃ (k : Nat), kk = .int .i64 k ∧ k ≤ 1 ∧ wr.cell? ⟨w.heap.size, 0, none⟩ = some (.int .u64 (if k = 0 then 14695981039346656037 else hsh 14695981039346656037 z n)) ∧ wr.frozen? ⟨w.heap.size, 0, none⟩ = false ∧ Below w.heap.size w wr) (fun _ kk _ => 1 - (intOf kk).toNat)
  case atStart => exact ⟨0, rfl, by omega, by rw [if_pos rfl, World.cell?_alloc_at _ _ _ _ rfl]; rfl, World.frozen?_alloc_at _ _ _ _ rfl, below_alloc _ _⟩
  case round =>
    obtain ⟨k, rfl, hk, hp, hf, hb⟩ := hrel
    by_cases hlt : k < 1
    · obtain rfl : k = 0 := by omega
      have hgg := HG.out _ hb
      rw [if_pos rfl] at hp
      have C48 : Hid (Calls Try.prog 48 #[.pointer (some ⟨w.heap.size, 0, none⟩), .slice (some ⟨b, 0, none⟩) n nc] wr fun e w' => (∃ v, e = .returned v) ∧ w' = wr.setCell ⟨w.heap.size, 0, none⟩ (.int .u64 (hsh 14695981039346656037 z n))) := write_any w.heap.size b n nc _ z wr hn hp hf (HZ.out.below hb)
      have HR : Row wr w.heap.size 1 (fun _ => .int .u64 14695981039346656037) := fun i hi => by
        obtain rfl : i = 0 := by omega
        exact ⟨hp, hf⟩
      have HRR : Hid ((wr.setCell ⟨w.heap.size, 0, none⟩ (.int .u64 (hsh 14695981039346656037 z n))).cell? ⟨w.heap.size, 0, none⟩ = some (.int .u64 (hsh 14695981039346656037 z n)) ∧ (wr.setCell ⟨w.heap.size, 0, none⟩ (.int .u64 (hsh 14695981039346656037 z n))).frozen? ⟨w.heap.size, 0, none⟩ = false) := HR.set 0 (by omega) (.int .u64 (hsh 14695981039346656037 z n)) 0 (by omega)
      have HBB : Hid (Below w.heap.size w (wr.setCell ⟨w.heap.size, 0, none⟩ (.int .u64 (hsh 14695981039346656037 z n)))) := hb.setCell (p := ⟨w.heap.size, 0, none⟩) (Nat.le_refl _) _
      have hm := method_write
      clear HZ HG HR hb hp hf
      generalize hsh 14695981039346656037 z n = hh at *
      go_wp2_with fail
      refine Calls.mono C48.out ?_
      rintro e w2 ⟨⟨v, rfl⟩, rfl⟩
      go_wp2
      go_roundw
      case rel => exact ⟨1, rfl, by omega, by rw [if_neg (by omega)]; exact HRR.out.1, HRR.out.2, HBB.out⟩
      case measure => simp [intOf]
    · obtain rfl : k = 1 := by omega
      rw [if_neg (by omega)] at hp
      clear HZ HG
      have hm := method_sum
      have HBB : Hid (Below w.heap.size w wr) := hb
      have C47 : Hid (Calls Try.prog 47 #[.pointer (some ⟨w.heap.size, 0, none⟩)] wr fun e w' => e = .returned (.int .u64 (hsh 14695981039346656037 z n)) ∧ w' = wr) := sum64_any _ _ _ hp
      have C24 : Hid (Calls Try.prog 24 #[.int .u64 (hsh 14695981039346656037 z n)] wr fun e w' => e = .returned (.int .u64 (mixp (hsh 14695981039346656037 z n))) ∧ w' = wr) := mix_any _ _
      clear hp hf hb
      go_wp2_with fail
      refine Calls.mono C47.out ?_
      rintro e w2 ⟨rfl, rfl⟩
      go_wp2_with fail
      refine Calls.mono C24.out ?_
      rintro e w2 ⟨rfl, rfl⟩
      go_wp2
      go_ret
      exact ⟨rfl, HBB.out⟩
end Go.Proofs.Qxb6609020a
