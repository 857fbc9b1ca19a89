import Derived.Test.Qxb6609020aCensus
import Derived.Test.Qxb6609020aAdds
import Derived.Test.Qxb6609020aBytes
import Derived.WalkKit
import Derived.ProofKit
import Derived.Outline
import Derived.WalkSpells
import Derived.WalkSmall
import Derived.BigQuiet
import Derived.Deep.QuietTactic
namespace Go.Proofs.Qxb6609020a
open Go.RowKit Go.Kx
/-- The sum without wrapping. -/
def ts (x : Nat → Int) : Nat → Int
  | 0 => 0
  | k + 1 => ts x k + x k
theorem ws_eq (x : Nat → Int) : ∀ k, ws x k = wrap64 (ts x k)
  | 0 => by show (0 : Int) = wrap64 0; unfold wrap64; omega
  | k + 1 => by
    show wrap64 (ws x k + x k) = wrap64 (ts x k + x k)
    rw [ws_eq x k]
    unfold wrap64
    omega
theorem ts_shift (x : Nat → Int) (c : Nat) : ∀ k, ts (fun i => x (c + i)) k = ts x (c + k) - ts x c
  | 0 => by show (0 : Int) = ts x c - ts x c; omega
  | k + 1 => by
    show ts (fun i => x (c + i)) k + x (c + k) = ts x (c + k) + x (c + k) - ts x c
    rw [ts_shift x c k]
    omega
theorem ws_right (x : Nat → Int) (c n : Nat) (h : c ≤ n) : ws (fun i => x (c + i)) (n - c) = wrap64 (ws x n - ws x c) := by
  rw [ws_eq, ws_eq, ws_eq, ts_shift]
  have e : c + (n - c) = n := by omega
  rw [e]
  unfold wrap64
  omega
/-- The law's answer. -/
def Yes (w : World) (e : Ending) (w' : World) : Prop := e = .returned (.bool true) ∧ Below w.heap.size w w'
theorem Cen.drop {w : World} {b : Nat} {n : Nat} {f : Nat → List UInt8 → Option Int} (h : Cen w (some ⟨b, 0, none⟩) n f) (c : Nat) (hc : c ≤ n) : Cen w (some ⟨b, c * 2, none⟩) (n - c) (fun i => f (c + i)) := fun i hi => by
  obtain ⟨b', off, mv, fl, m, e, h1, h2, h3⟩ := h (c + i) (by omega)
  cases e
  refine ⟨b, c * 2, mv, fl, m, rfl, ?_, ?_, h3⟩
  · rw [← h1]; congr 2; omega
  · rw [← h2]; congr 2; omega
theorem Cen.take {w : World} {ca : Option Addr} {n : Nat} {f : Nat → List UInt8 → Option Int} (h : Cen w ca n f) (c : Nat) (hc : c ≤ n) : Cen w ca c f := fun i hi => h i (by omega)
structure Inp (w : World) (fa : Option Addr) (fl : Nat) (fz : Nat → Int) (ka : Option Addr) (n : Nat) (KA : Nat → Option Addr) (KL KC : Nat → Nat) (km : Nat → Nat → ByteArray) (va : Option Addr) (m : Nat) (VA : Nat → Option Addr) (VL VC : Nat → Nat) (vz : Nat → Nat → Int) : Prop where
  hfl : fl ≤ maxLen
  hn : n ≤ maxLen
  hm : m ≤ maxLen
  hF : Zs w fa fl fz
  k0 : ka = none → n = 0
  hK : Rw w ka n KA KL KC
  hN : ∀ i, i < n → Nms w (KA i) (KL i) (km i)
  hKl : ∀ i, i < n → KL i ≤ maxLen
  hK0 : ∀ i, i < n → KA i = none → KL i = 0
  hKs : ∀ i j, i < n → j < KL i → (km i j).size ≤ maxLen
  hV : Rw w va m VA VL VC
  hVo : ∀ i, m ≤ i → VA i = none ∧ VL i = 0 ∧ VC i = 0
  hVl : ∀ i, i < m → VL i ≤ maxLen
  hZ : ∀ i, Zs w (VA i) (VL i) (vz i)
  hZw : ∀ i j, j < VL i → (Lit.int .i64 (vz i j)).wf = true
set_option maxRecDepth 100000 in
set_option maxHeartbeats 1000000 in
theorem law5_any (fa : Option Addr) (fl fc : Nat) (fz : Nat → Int) (ka : Option Addr) (n kc : Nat) (KA : Nat → Option Addr) (KL KC : Nat → Nat) (km : Nat → Nat → ByteArray) (va : Option Addr) (m vc : Nat) (VA : Nat → Option Addr) (VL VC : Nat → Nat) (vz : Nat → Nat → Int) (s : ByteArray) (cut : Int) (w : World) (hs : s.size ≤ maxLen)
    (wcut : -9223372036854775808 ≤ cut ∧ cut ≤ 9223372036854775807) (hI : Inp w fa fl fz ka n KA KL KC km va m VA VL VC vz) :
    Calls Try.prog 5 #[.slice fa fl fc, .slice ka n kc, .slice va m vc, .string s, .int .i64 cut] w (Yes w) := by
  have C9 : Hid (Calls Try.prog 9 #[.slice fa fl fc, .slice ka n kc, .slice va m vc, .string s, .int .i64 cut] w (BytesPost (n ≤ 1048576) w)) := bytes9_any fa fl fc ka n kc KA KL KC km va m vc VA VL VC s cut w hI.hfl hI.hn hI.hm hs hI.hK hI.hN hI.hKl hI.hKs hI.hV hI.hVl
  have C10 : Hid (s.size ≤ 1048576 → Calls Try.prog 10 #[.int .i64 s.size, .slice fa fl fc, .slice ka n kc, .slice va m vc] w (SomeInt w)) := fun h => censusBytes_any s.size fa fl fc ka n kc KA KL KC km va m vc VA VL VC w h hI.hfl hI.hn hI.hm hI.hK hI.hN hI.hKl hI.hKs hI.hV hI.hVl
  have C11 : Hid (n ≤ 1048576 → Calls Try.prog 11 #[.slice fa fl fc, .slice ka n kc, .slice va m vc] w (CensusPost n (fun i => mp (km i) (vat (VL i) (vz i)) (KL i)) w)) := fun h => census_any fa fl fc fz ka n kc KA KL KC km va m vc VA VL VC vz w h hI.hF hI.k0 hI.hK hI.hN hI.hKl hI.hK0 hI.hKs hI.hV hI.hVo hI.hZ hI.hZw
  have C13 : Hid (∀ i w1, Below w.heap.size w w1 → Calls Try.prog 13 #[.slice va m vc, .int .i64 (i : Nat)] w1 fun e w' => e = .returned (.slice (VA i) (VL i) (VC i)) ∧ w' = w1) := fun i w1 hb => valsAt_any va m vc VA VL VC i w1 (hI.hV.below hb) hI.hVo
  have C12 : Hid (∀ i w1, i < n → Below w.heap.size w w1 → Calls Try.prog 12 #[.slice (KA i) (KL i) (KC i), .slice (VA i) (VL i) (VC i), .string s] w1 fun e w' => e = .returned (.int .i64 ((mp (km i) (vat (VL i) (vz i)) (KL i) s.data.toList).getD 0)) ∧ w' = w1) := fun i w1 hi hb => model_any (KA i) (KL i) (KC i) (km i) (VA i) (VL i) (VC i) (vz i) s w1 (hI.hKl i hi) ((hI.hN i hi).below hb) ((hI.hZ i).below hb)
  have HK : Hid (Rw w ka n KA KL KC) := hI.hK
  have hs' : s.size ≤ 2 ^ 63 - 1 := hs
  have hn' : n ≤ 2 ^ 63 - 1 := hI.hn
  obtain ⟨X, hX⟩ : ∃ X : Nat → Int, X = fun i => (mp (km i) (vat (VL i) (vz i)) (KL i) s.data.toList).getD 0 := ⟨_, rfl⟩
  clear hI
  go_enter Try.func5, Try.ntmps5
  go_wp2_with fail
  refine Calls.mono C9.out ?_
  rintro e w1 ⟨r, rfl, hr, rfl⟩
  cases r with
  | false =>
    clear hr C9 C10 C11 C12 C13 HK hX
    go_wp2
    go_ret
    exact ⟨rfl, Below.refl _ _⟩
  | true =>
    have n9 := hr rfl
    clear hr C9
    by_cases g1 : 1048576 < s.size
    · clear C10 C11 C12 C13 HK hX
      go_wp2
      go_ret
      exact ⟨rfl, Below.refl _ _⟩
    have d1 : decide ((1048576 : Int) < (s.size : Int)) = false := decide_eq_false (by omega)
    go_wp2_with fail
    refine Calls.mono (C10.out (by omega)) ?_
    rintro e w2 ⟨x, rfl, hx, rfl⟩
    clear C10
    by_cases g2 : 1048576 < x
    · clear C11 C12 C13 HK hX
      go_wp2
      go_ret
      exact ⟨rfl, Below.refl _ _⟩
    have d2 : decide ((1048576 : Int) < (x : Int)) = false := decide_eq_false (by omega)
    by_cases g3 : cut < 0
    · clear C11 C12 C13 HK hX
      go_wp2
      go_ret
      exact ⟨rfl, Below.refl _ _⟩
    obtain ⟨c, rfl⟩ : ∃ c : Nat, cut = c := ⟨cut.toNat, by omega⟩
    have d3 : decide ((c : Int) < 0) = false := decide_eq_false (by omega)
    by_cases g4 : n < c
    · clear C11 C12 C13 HK hX
      go_wp2
      go_ret
      exact ⟨rfl, Below.refl _ _⟩
    have d4 : decide ((n : Int) < (c : Int)) = false := decide_eq_false (by omega)
    have d4' : decide (n < c) = false := decide_eq_false g4
    go_wp2_with fail
    refine Calls.mono (C11.out n9) ?_
    rintro e w3 ⟨ca, rfl, hca0, hca1, hcen, hb3⟩
    have HB3 : Hid (∀ w4, Below w3.heap.size w3 w4 → ∀ q, Below w2.heap.size w2 (w4.drewN q)) := fun w4 hb q => below_drewN (below_trans hb3 hb) q
    have K13 : Hid (∀ i w4, Below w3.heap.size w3 w4 → ∀ q, Calls Try.prog 13 #[.slice va m vc, .int .i64 (i : Nat)] (w4.drewN q) fun e w' => e = .returned (.slice (VA i) (VL i) (VC i)) ∧ w' = w4.drewN q) := fun i w4 hb q => C13.out i _ (HB3.out w4 hb q)
    have K12 : Hid (∀ i w4, i < n → Below w3.heap.size w3 w4 → ∀ q, Calls Try.prog 12 #[.slice (KA i) (KL i) (KC i), .slice (VA i) (VL i) (VC i), .string s] (w4.drewN q) fun e w' => e = .returned (.int .i64 (X i)) ∧ w' = w4.drewN q) := fun i w4 hi hb q => by rw [hX]; exact C12.out i _ hi (HB3.out w4 hb q)
    have KR : Hid (Rw w3 ka n KA KL KC) := HK.out.below hb3
    have HO : Hid (∀ (a : Option Addr) (k cc : Nat) (f : Nat → List UInt8 → Option Int) (w4 : World), k ≤ 1048576 → Cen w4 a k f → Calls Try.prog 14 #[.slice a k cc, .string s] w4 fun e w' => e = .returned (.int .i64 (ws (fun i => (f i s.data.toList).getD 0) k)) ∧ Below w4.heap.size w4 w') := fun a k cc f w4 hk h => of_any a k cc f s w4 hk hs h
    have HCE : Hid (Cen w3 ca n (fun i => mp (km i) (vat (VL i) (vz i)) (KL i))) := hcen
    have HX : Hid (X = fun i => (mp (km i) (vat (VL i) (vz i)) (KL i) s.data.toList).getD 0) := hX
    have HRT : Hid (ws (fun i => X (c + i)) (n - c) = wrap64 (ws X n - ws X c)) := ws_right X c n (by omega)
    clear C11 C12 C13 HK hX hcen hb3
    go_wp2
    go_loopw [12, 13, 14, 15] (fun s12 s13 s14 _ wr => ∃ k : Nat, s12 = .int .i64 (ws X k) ∧ s13 = .int .i64 (ws X (min k c)) ∧ s14 = .int .i64 k ∧ k ≤ n ∧ Below w3.heap.size w3 wr) (fun _ _ s14 _ _ => n - (intOf s14).toNat)
    case atStart => exact ⟨0, rfl, by rw [Nat.zero_min]; rfl, rfl, Nat.zero_le _, Below.refl _ _⟩
    case round =>
      obtain ⟨k, rfl, rfl, rfl, hk, hbr⟩ := hrel
      by_cases hkn : k < n
      · obtain ⟨b, off, rfl, hc⟩ := KR.out.below hbr k hkn
        have k13 : Hid (∀ q, Calls Try.prog 13 #[.slice va m vc, .int .i64 (k : Nat)] (wr.drewN q) fun e w' => e = .returned (.slice (VA k) (VL k) (VC k)) ∧ w' = wr.drewN q) := fun q => K13.out k wr hbr q
        have k12 : Hid (∀ q, Calls Try.prog 12 #[.slice (KA k) (KL k) (KC k), .slice (VA k) (VL k) (VC k), .string s] (wr.drewN q) fun e w' => e = .returned (.int .i64 (X k)) ∧ w' = wr.drewN q) := fun q => K12.out k wr hkn hbr q
        have HBR : Hid (∀ q, Below w3.heap.size w3 (wr.drewN q)) := fun q => below_drewN hbr q
        clear hbr
        have i1 : (0 : Int) ≤ (k : Int) := by omega
        have i2 : (k : Int) < (n : Int) := by omega
        have HW1 : Hid (ws X (k + 1) = wrap64 (ws X k + X k)) := rfl
        clear K13 K12 KR HO HCE HRT HX
        by_cases hkc : k < c
        · have hmin : min k c = k := by omega
          have HM2 : Hid (min (k + 1) c = k + 1) := by show _ = _; omega
          rw [hmin]
          clear hmin
          go_wp2
          go_quiet ((first | (go_at_call 13; with_reducible exact Calls.quiet_of_same (k13.out _)) | (go_at_call 12; with_reducible exact Calls.quiet_of_same (k12.out _))))
          go_wp2
          go_roundw
          case rel => exact ⟨k + 1, by rw [HW1.out], by rw [HM2.out, HW1.out], by go_num, by omega, HBR.out _⟩
          case measure => simp [intOf]; omega
        · have hmin : min k c = c := by omega
          have HM2 : Hid (min (k + 1) c = c) := by show _ = _; omega
          rw [hmin]
          clear hmin
          go_wp2
          go_quiet ((first | (go_at_call 13; with_reducible exact Calls.quiet_of_same (k13.out _)) | (go_at_call 12; with_reducible exact Calls.quiet_of_same (k12.out _))))
          go_wp2
          go_roundw
          case rel => exact ⟨k + 1, by rw [HW1.out], by rw [HM2.out], by go_num, by omega, HBR.out _⟩
          case measure => simp [intOf]; omega
      · obtain rfl : k = n := by omega
        have hmin : min k c = c := by omega
        rw [hmin]
        clear hmin K13 K12 KR
        have hbq : Below w2.heap.size w2 wr := HB3.out wr hbr 0
        have hcq : Cen wr ca k (fun i => mp (km i) (vat (VL i) (vz i)) (KL i)) := HCE.out.below hbr
        have O1 : Hid (∀ w4, Below wr.heap.size wr w4 → Calls Try.prog 14 #[.slice ca k k, .string s] w4 fun e w' => e = .returned (.int .i64 (ws X k)) ∧ Below w4.heap.size w4 w') := fun w4 hb => by rw [HX.out]; exact HO.out ca k k _ w4 n9 (hcq.below hb)
        have O2 : Hid (∀ w4, Below wr.heap.size wr w4 → Calls Try.prog 14 #[.slice ca c k, .string s] w4 fun e w' => e = .returned (.int .i64 (ws X c)) ∧ Below w4.heap.size w4 w') := fun w4 hb => by rw [HX.out]; exact HO.out ca c k _ w4 (by omega) ((hcq.below hb).take c (by omega))
        cases ca with
        | none =>
          obtain rfl : k = 0 := hca0 rfl
          obtain rfl : c = 0 := by omega
          clear HO HCE HX HRT hcq
          have hA : ws X 0 = 0 := rfl
          rw [hA] at O1 ⊢
          go_wp2_with fail
          refine Calls.mono (O1.out _ (Below.refl _ _)) ?_
          rintro e w5 ⟨rfl, hb5⟩
          go_wp2_with fail
          refine Calls.mono (O1.out _ hb5) ?_
          rintro e w6 ⟨rfl, hb6⟩
          have hb56 := below_trans hb5 hb6
          go_wp2_with fail
          refine Calls.mono (O1.out _ hb56) ?_
          rintro e w7 ⟨rfl, hb7⟩
          go_wp2
          go_ret
          exact ⟨rfl, below_trans hbq (below_trans hb56 hb7)⟩
        | some a =>
          obtain ⟨b, rfl⟩ := hca1 a rfl
          by_cases hkc : k = c
          · subst hkc
            have O3 : Hid (∀ w4, Below wr.heap.size wr w4 → Calls Try.prog 14 #[.slice (some ⟨b, 0, none⟩) 0 0, .string s] w4 fun e w' => e = .returned (.int .i64 0) ∧ Below w4.heap.size w4 w') := fun w4 _ => HO.out _ 0 0 (fun _ _ => none) w4 (by omega) (fun i h => absurd h (Nat.not_lt_zero _))
            clear HO HCE HX HRT hcq
            generalize ws X k = A at *
            go_wp2_with fail
            refine Calls.mono (O1.out _ (Below.refl _ _)) ?_
            rintro e w5 ⟨rfl, hb5⟩
            go_wp2_with fail
            refine Calls.mono (O2.out _ hb5) ?_
            rintro e w6 ⟨rfl, hb6⟩
            have hb56 := below_trans hb5 hb6
            go_wp2_with fail
            refine Calls.mono (O3.out _ hb56) ?_
            rintro e w7 ⟨rfl, hb7⟩
            go_wp2
            go_ret
            exact ⟨rfl, below_trans hbq (below_trans hb56 hb7)⟩
          have O3 : Hid (∀ w4, Below wr.heap.size wr w4 → Calls Try.prog 14 #[.slice (some ⟨b, c * 2, none⟩) (k - c) (k - c), .string s] w4 fun e w' => e = .returned (.int .i64 (wrap64 (ws X k - ws X c))) ∧ Below w4.heap.size w4 w') := fun w4 hb => by
            rw [← HRT.out, HX.out]
            exact HO.out _ (k - c) (k - c) _ w4 (by omega) ((hcq.below hb).drop c (by omega))
          clear HO HCE HX HRT hcq
          generalize ws X k = A at *
          generalize ws X c = B at *
          have hck : (c : Int) ≤ (k : Int) := by omega
          have hc0 : (0 : Int) ≤ (c : Int) := by omega
          go_wp2_with fail
          refine Calls.mono (O1.out _ (Below.refl _ _)) ?_
          rintro e w5 ⟨rfl, hb5⟩
          go_wp2_with fail
          refine Calls.mono (O2.out _ hb5) ?_
          rintro e w6 ⟨rfl, hb6⟩
          have hb56 := below_trans hb5 hb6
          go_wp2_with fail
          refine Calls.mono (O3.out _ hb56) ?_
          rintro e w7 ⟨rfl, hb7⟩
          go_wp2
          go_ret
          exact ⟨rfl, below_trans hbq (below_trans hb56 hb7)⟩
end Go.Proofs.Qxb6609020a
