import Derived.Test.Qxb6609020aGrow
import Derived.Test.Qxb6609020aBytes15
import Derived.Test.Qxb6609020aView
import Derived.WalkKit
import Derived.ProofKit
import Derived.Outline
import Derived.WalkSpells
import Derived.WalkSmall
import Derived.BigQuiet
import Derived.OwnWalk
import Derived.Deep.QuietTactic
import Derived.Deep.Cut
import Derived.Deep.CutRange
set_option linter.unusedSimpArgs false
namespace Go.Proofs.Qxb6609020a
open Go.RowKit Go.Kx
theorem pair0 (w : World) (x y : Value) (t : TypeId) : (w.alloc (.cells #[x, y] t)).cell? ⟨w.heap.size, 0, none⟩ = some x := by rw [World.cell?_alloc_at _ _ _ _ rfl]; rfl
theorem pair1 (w : World) (x y : Value) (t : TypeId) : (w.alloc (.cells #[x, y] t)).cell? ⟨w.heap.size, 1, none⟩ = some y := by rw [World.cell?_alloc_at _ _ _ _ rfl]; rfl
theorem mk_map0 (w : World) : (Instr.makeMap 37 none).run Try.prog w = .ok (.map (some w.heap.size)) (w.alloc (.map #[] 0)) := by
  simp [Instr.makeMap, run_underlying Try.underlying37, Result.andThen]
set_option maxRecDepth 100000 in
set_option maxHeartbeats 2000000 in
theorem law6_any (fa : Option Addr) (fl fc : Nat) (fz : Nat → Int) (ka : Option Addr) (n kc : Nat) (KA : Nat → Option Addr) (KL KC : Nat → Nat) (km : Nat → Nat → ByteArray) (va : Option Addr) (m vc : Nat) (VA : Nat → Option Addr) (VL VC : Nat → Nat) (vz : Nat → Nat → Int) (s : ByteArray) (cut ef : Int)
    (xa : Option Addr) (xl xc : Nat) (xm : Nat → ByteArray) (ya : Option Addr) (yl yc : Nat) (yz : Nat → Int) (v : Int) (w : World) (hs : s.size ≤ maxLen)
    (hI : Inp w fa fl fz ka n KA KL KC km va m VA VL VC vz) (hX : RowS w xm xa xl) (hY : RowZ w yz ya yl) (hv : (Lit.int .i64 v).wf = true) :
    Calls Try.prog 6 #[.slice fa fl fc, .slice ka n kc, .slice va m vc, .string s, .int .i64 cut, .int .i64 ef, .slice xa xl xc, .slice ya yl yc, .int .i64 v] w (Yes w) := by
  have C15 : Hid (Calls Try.prog 15 #[.slice fa fl fc, .slice ka n kc, .slice va m vc, .string s, .int .i64 cut, .int .i64 ef, .slice xa xl xc, .slice ya yl yc, .int .i64 v] w (BytesPost (n ≤ 1048576 ∧ xl ≤ 1048576) w)) := bytes15_any fa fl fc ka n kc KA KL KC km va m vc VA VL VC s cut ef xa xl xc xm ya yl yc v w hI.hfl hI.hn hI.hm hs hI.hK hI.hN hI.hKl hI.hKs hI.hV hI.hVl hX.1 hX.2.2.1 hX.2.2.2 hY.1
  have C10 : Hid (s.size ≤ 1048576 → Calls Try.prog 10 #[.int .i64 s.size, .slice fa fl fc, .slice ka n kc, .slice va m vc] w (SomeInt w)) := fun h => censusBytes_any s.size fa fl fc ka n kc KA KL KC km va m vc VA VL VC w h hI.hfl hI.hn hI.hm hI.hK hI.hN hI.hKl hI.hKs hI.hV hI.hVl
  have C16 : Hid (∀ t : Nat, t ≤ 1048576 → Calls Try.prog 16 #[.int .i64 t, .slice xa xl xc] w (SomeInt w)) := fun t ht => strsBytes_any t xa xl xc xm w (by omega) hX.1 hX.2.2.2 hX.2.2.1
  have C11 : Hid (n ≤ 1048576 → Calls Try.prog 11 #[.slice fa fl fc, .slice ka n kc, .slice va m vc] w (CensusPost n (fun i => mp (km i) (vat (VL i) (vz i)) (KL i)) w)) := fun h => census_any fa fl fc fz ka n kc KA KL KC km va m vc VA VL VC vz w h hI.hF hI.k0 hI.hK hI.hN hI.hKl hI.hK0 hI.hKs hI.hV hI.hVo hI.hZ hI.hZw
  have C17 : Hid (∀ w1, Below w.heap.size w w1 → Calls Try.prog 17 #[.slice xa xl xc, .slice ya yl yc] w1 (NamesPost xl (mp xm (vat yl yz) xl) w1)) := fun w1 hb => buildNames_any xa xl xc xm ya yl yc yz w1 hX.1 hX.2.2.2 hX.2.1 (hX.2.2.1.below hb) (hY.2.2.1.below hb) hY.2.2.2
  have C13 : Hid (∀ i w1, Below w.heap.size w w1 → Calls Try.prog 13 #[.slice va m vc, .int .i64 (i : Nat)] w1 fun e w' => e = .returned (.slice (VA i) (VL i) (VC i)) ∧ w' = w1) := fun i w1 hb => valsAt_any va m vc VA VL VC i w1 (hI.hV.below hb) hI.hVo
  have C12 : Hid (∀ i w1, i < n → Below w.heap.size w w1 → Calls Try.prog 12 #[.slice (KA i) (KL i) (KC i), .slice (VA i) (VL i) (VC i), .string s] w1 fun e w' => e = .returned (.int .i64 ((mp (km i) (vat (VL i) (vz i)) (KL i) s.data.toList).getD 0)) ∧ w' = w1) := fun i w1 hi hb => model_any (KA i) (KL i) (KC i) (km i) (VA i) (VL i) (VC i) (vz i) s w1 (hI.hKl i hi) ((hI.hN i hi).below hb) ((hI.hZ i).below hb)
  have HK : Hid (Rw w ka n KA KL KC) := hI.hK
  have hs' : s.size ≤ 2 ^ 63 - 1 := hs
  have hn' : n ≤ 2 ^ 63 - 1 := hI.hn
  have hyl : yl ≤ 2 ^ 63 - 1 := hY.1
  obtain ⟨F, hF⟩ : ∃ F : Nat → List UInt8 → Option Int, F = fun i => mp (km i) (vat (VL i) (vz i)) (KL i) := ⟨_, rfl⟩
  obtain ⟨X, hX'⟩ : ∃ X : Nat → Int, X = fun i => (F i s.data.toList).getD 0 := ⟨_, rfl⟩
  have HX : Hid (X = fun i => (F i s.data.toList).getD 0) := hX'
  have C11' : Hid (n ≤ 1048576 → Calls Try.prog 11 #[.slice fa fl fc, .slice ka n kc, .slice va m vc] w (CensusPost n F w)) := fun h => by rw [hF]; exact C11.out h
  have C12' : Hid (∀ i w1, i < n → Below w.heap.size w w1 → Calls Try.prog 12 #[.slice (KA i) (KL i) (KC i), .slice (VA i) (VL i) (VC i), .string s] w1 fun e w' => e = .returned (.int .i64 (X i)) ∧ w' = w1) := fun i w1 hi hb => by rw [hX', hF]; exact C12.out i w1 hi hb
  clear hI hX hY C11 C12 hF hX'
  have HQ : Hid (∀ t : Nat, t ≤ 1048576 → ∃ q : Nat, ((1048576 : Int) - (t : Int)).tdiv 8 = (q : Int) ∧ 8 * q ≤ 1048576 - t) := fun t ht => ⟨(1048576 - t) / 8, by rw [Int.tdiv_eq_ediv_of_nonneg (by omega)]; omega, by omega⟩
  have e37 := fun w r => run_eql_map_nil (P := Try.prog) w 37 _ _ r Try.underlying37
  go_enter Try.func6, Try.ntmps6
  go_wp2_with fail
  refine Calls.mono C15.out ?_
  rintro e w1 ⟨r, rfl, hr, rfl⟩
  clear C15
  cases r with
  | false =>
    clear hr C10 C11' C12' C13 C16 C17 HK HX HQ
    go_wp2
    go_ret
    exact ⟨rfl, Below.refl _ _⟩
  | true =>
    obtain ⟨n9, xl9⟩ := hr rfl
    clear hr
    by_cases g1 : 1048576 < s.size
    · clear C10 C11' C12' C13 C16 C17 HK HX HQ
      go_wp2
      go_ret
      exact ⟨rfl, Below.refl _ _⟩
    have d1 : decide ((1048576 : Int) < (s.size : Int)) = false := decide_eq_false (by omega)
    go_wp2_with fail
    refine Calls.mono (C10.out (by omega)) ?_
    rintro e w2 ⟨x, rfl, hx, rfl⟩
    clear C10
    by_cases g2 : 1048576 < x
    · clear C11' C12' C13 C16 C17 HK HX HQ
      go_wp2
      go_ret
      exact ⟨rfl, Below.refl _ _⟩
    have d2 : decide ((1048576 : Int) < (x : Int)) = false := decide_eq_false (by omega)
    go_wp2_with fail
    refine Calls.mono (C16.out x (by omega)) ?_
    rintro e w3 ⟨y, rfl, hy, rfl⟩
    clear C16
    by_cases g3 : 1048576 < y
    · have d3 : decide ((1048576 : Int) < (y : Int)) = true := decide_eq_true (by omega)
      clear C11' C12' C13 C17 HK HX HQ
      go_wp2
      go_ret
      exact ⟨rfl, Below.refl _ _⟩
    have d3 : decide ((1048576 : Int) < (y : Int)) = false := decide_eq_false (by omega)
    obtain ⟨q, hq, hq8⟩ := HQ.out y (by omega)
    clear HQ
    by_cases g4 : q < yl
    · have d4 : decide ((q : Int) < (yl : Int)) = true := decide_eq_true (by omega)
      clear C11' C12' C13 C17 HK HX
      go_wp2
      go_ret
      exact ⟨rfl, Below.refl _ _⟩
    have d4 : decide ((q : Int) < (yl : Int)) = false := decide_eq_false (by omega)
    have d4' : decide (q < yl) = false := decide_eq_false g4
    by_cases g5 : cut < 0
    · have d5 : decide (cut < 0) = true := decide_eq_true g5
      clear C11' C12' C13 C17 HK HX
      go_wp2
      go_ret
      exact ⟨rfl, Below.refl _ _⟩
    obtain ⟨c, rfl⟩ : ∃ c : Nat, cut = c := ⟨cut.toNat, by omega⟩
    have d5 : decide ((c : Int) < 0) = false := decide_eq_false (by omega)
    by_cases g6 : n < c
    · clear C11' C12' C13 C17 HK HX
      go_wp2
      go_ret
      exact ⟨rfl, Below.refl _ _⟩
    have d6 : decide ((n : Int) < (c : Int)) = false := decide_eq_false (by omega)
    have d6' : decide (n < c) = false := decide_eq_false g6
    go_wp2_with fail
    refine Calls.mono (C11'.out n9) ?_
    rintro e w4 ⟨ca, rfl, hca0, hca1, hcen, hb4⟩
    have HCE : Hid (Cen w4 ca n F) := hcen
    clear hcen C11'
    go_wp2_with fail
    refine Calls.mono (C17.out _ hb4) ?_
    rintro e w5 ⟨mv, rfl, hnm, hmv, hb5⟩
    have HNM : Hid (NM w5 mv xl (mp xm (vat yl yz) xl)) := hnm
    have HB4 : Hid (Below w3.heap.size w3 w4) := hb4
    clear hnm C17 hb4
    go_upto_if 83 with fail
    go_cut [21] from 32 (fun s21 wc => ∃ mb k fm, s21 = .map (some mb) ∧ k ≤ 1048576 ∧ Hid (SMap Try.prog 9 2 .i64 wc mb k fm) ∧ w4.heap.size ≤ mb ∧ Below w4.heap.size w4 wc)
    case first =>
      cases mv with
      | none =>
        clear HCE HNM C12' C13 HK HX
        have mk0 := mk_map0
        go_wp2
        go_meet
        case rel => exact ⟨_, 0, fun _ => none, rfl, by omega, SMap.made w5 Try.prog 9 2 .i64, hb5.size, below_trans hb5 (below_alloc _ _)⟩
      | some mb =>
        clear HCE C12' C13 HK HX
        go_wp2
        go_meet
        case rel => exact ⟨mb, xl, _, rfl, by omega, HNM, hmv mb rfl, hb5⟩
    case rest =>
      obtain ⟨mb, k1, fm, rfl, hk1, HSM, hmb, hbc⟩ := hcut
      have mkr := mk_room n n9
      have HCB : Hid (Cen w4 ca n F) := HCE
      clear HCE HNM hmv hb5
      go_wp2_with (at_mapUpdate; refine wpList_smap_put (by rfl) _ _ _ 37 (by rfl) 9 2 .i64 Try.underlying9 Try.underlying37 Try.underlying2 mb k1 fm (by rfl) HSM.out (by simp [maxLen]; omega) s hs v hv (by rfl) (by rfl) w4.heap.size w4 hbc hmb ?_; intro w6 hrow hb6 hg6)
      obtain ⟨E, hE⟩ : ∃ E : List UInt8 → Option Int, E = fun u => if u = s.data.toList then some v else fm u := ⟨_, rfl⟩
      have HE : Hid ((E s.data.toList).getD 0 = v) := by show _ = _; rw [hE]; simp
      have HSM6 : Hid (SMap Try.prog 9 2 .i64 w6 mb (k1 + 1) E) := by rw [hE]; exact hrow
      have HC6 : Hid (Cen w6 ca n F) := HCB.out.below hb6
      have HB6 : Hid (Below w4.heap.size w4 w6) := hb6
      clear hrow hE hg6 HSM hbc HCB hb6 mkr
      go_loopw [22, 23] (fun s22 s23 wr => ∃ k : Nat, s22 = .slice (some ⟨w6.heap.size, 0, none⟩) k (n + 1) ∧ s23 = .int .i64 k ∧ k ≤ c ∧ CenK wr w6.heap.size (n + 1) k (ins F c E) ∧ w6.heap.size < wr.heap.size ∧ Below w6.heap.size w6 wr) (fun _ s23 _ => c - (intOf s23).toNat)
      case atStart => exact ⟨0, rfl, rfl, Nat.zero_le _, ⟨_, Row.made w6 _ ((n + 1) * 2) 40, fun i h => absurd h (Nat.not_lt_zero _)⟩, by simp, below_alloc _ _⟩
      case round =>
        obtain ⟨k, rfl, rfl, hk, hck, hsz, hb⟩ := hrel
        by_cases hkc : k < c
        · obtain ⟨b, off, mv', fv, mm, rfl, c0, c1, hnm, hlt, hbB⟩ := HC6.out.at hb (show k < n by omega)
          have i1 : (0 : Int) ≤ (k : Int) := by omega
          have i2 : (k : Int) < (n : Int) := by omega
          have ha0 : Hid ((wr.alloc (.cells #[.int .i64 fv, .map mv'] 40)).cell? ⟨wr.heap.size, 0, none⟩ = some (.int .i64 fv)) := pair0 _ _ _ _
          have ha1 : Hid ((wr.alloc (.cells #[.int .i64 fv, .map mv'] 40)).cell? ⟨wr.heap.size, 1, none⟩ = some (.map mv')) := pair1 _ _ _ _
          have HCKa : Hid (CenK (wr.alloc (.cells #[.int .i64 fv, .map mv'] 40)) w6.heap.size (n + 1) k (ins F c E)) := hck.below (below_alloc _ _) hsz
          have HNMa : Hid (NM (wr.alloc (.cells #[.int .i64 fv, .map mv'] 40)) mv' mm (ins F c E k)) := by rw [ins_lt F E hkc]; exact hnm.below (below_alloc _ _)
          have HNE : Hid (∀ b, mv' = some b → b ≠ w6.heap.size) := fun b h => Nat.ne_of_lt (hlt b h)
          have HBA : Hid (Below w6.heap.size w6 (wr.alloc (.cells #[.int .i64 fv, .map mv'] 40))) := hb.alloc (Nat.le_of_lt hsz) _
          clear hck hnm hlt hb HC6 HSM6 HE HB6 C12' C13 HK HX
          go_wp2_with (at_builtin; refine wpList_append_cen (by rfl) (.tmp 97) (.tmp 102) (by rfl) w6.heap.size (n + 1) k (ins F c E) (by omega) (by rfl) wr.heap.size 1 (by rfl) fv mv' mm ha0.out ha1.out HCKa.out HNMa.out HNE.out w6 HBA.out ?_; intro w7 hck7 hb7 hsz7)
          go_roundw
          case rel => exact ⟨k + 1, rfl, by go_num, by omega, hck7.out, by rw [hsz7.out]; simp; omega, hb7.out⟩
          case measure => simp [intOf]; omega
        · obtain rfl : k = c := by omega
          have ha0 : Hid ((wr.alloc (.cells #[.int .i64 ef, .map (some mb)] 40)).cell? ⟨wr.heap.size, 0, none⟩ = some (.int .i64 ef)) := pair0 _ _ _ _
          have ha1 : Hid ((wr.alloc (.cells #[.int .i64 ef, .map (some mb)] 40)).cell? ⟨wr.heap.size, 1, none⟩ = some (.map (some mb))) := pair1 _ _ _ _
          have HCKa : Hid (CenK (wr.alloc (.cells #[.int .i64 ef, .map (some mb)] 40)) w6.heap.size (n + 1) k (ins F k E)) := hck.below (below_alloc _ _) hsz
          have HNM6 : Hid (NM w6 (some mb) (k1 + 1) E) := HSM6.out
          have HNMa : Hid (NM (wr.alloc (.cells #[.int .i64 ef, .map (some mb)] 40)) (some mb) (k1 + 1) (ins F k E k)) := by rw [ins_at]; exact (HNM6.out.below hb).below (below_alloc _ _)
          have HNE : Hid (∀ b, some mb = some b → b ≠ w6.heap.size) := fun b h => by cases h; exact Nat.ne_of_lt HNM6.out.lt
          have HBA : Hid (Below w6.heap.size w6 (wr.alloc (.cells #[.int .i64 ef, .map (some mb)] 40))) := hb.alloc (Nat.le_of_lt hsz) _
          clear hck hb HSM6 HNM6
          go_wp2_with (at_builtin; refine wpList_append_cen (by rfl) (.tmp 104) (.tmp 108) (by rfl) w6.heap.size (n + 1) k (ins F k E) (by omega) (by rfl) wr.heap.size 1 (by rfl) ef (some mb) (k1 + 1) ha0.out ha1.out HCKa.out HNMa.out HNE.out w6 HBA.out ?_; intro w7 hck7 hb7 hsz7)
          have hsz8 : w6.heap.size < w7.heap.size := by rw [hsz7.out]; simp; omega
          clear ha0 ha1 HCKa HNMa HNE HBA hsz7
          go_loopw [22, 24] (fun s22 s24 wr => ∃ i : Nat, s22 = .slice (some ⟨w6.heap.size, 0, none⟩) (i + 1) (n + 1) ∧ s24 = .int .i64 i ∧ k ≤ i ∧ i ≤ n ∧ CenK wr w6.heap.size (n + 1) (i + 1) (ins F k E) ∧ w6.heap.size < wr.heap.size ∧ Below w6.heap.size w6 wr) (fun _ s24 _ => n - (intOf s24).toNat)
          case atStart => exact ⟨k, rfl, rfl, Nat.le_refl _, by omega, hck7.out, hsz8, hb7.out⟩
          case round =>
            clear hck7 hb7 hsz8
            obtain ⟨i, rfl, rfl, hki, hi, hck, hsz, hb⟩ := hrel
            by_cases hin : i < n
            · obtain ⟨b, off, mv', fv, mm, rfl, c0, c1, hnm, hlt, hbB⟩ := HC6.out.at hb hin
              have i1 : (0 : Int) ≤ (i : Int) := by omega
              have i2 : (i : Int) < (n : Int) := by omega
              have ha0 : Hid ((wr.alloc (.cells #[.int .i64 fv, .map mv'] 40)).cell? ⟨wr.heap.size, 0, none⟩ = some (.int .i64 fv)) := pair0 _ _ _ _
              have ha1 : Hid ((wr.alloc (.cells #[.int .i64 fv, .map mv'] 40)).cell? ⟨wr.heap.size, 1, none⟩ = some (.map mv')) := pair1 _ _ _ _
              have HCKa : Hid (CenK (wr.alloc (.cells #[.int .i64 fv, .map mv'] 40)) w6.heap.size (n + 1) (i + 1) (ins F k E)) := hck.below (below_alloc _ _) hsz
              have HNMa : Hid (NM (wr.alloc (.cells #[.int .i64 fv, .map mv'] 40)) mv' mm (ins F k E (i + 1))) := by rw [ins_gt F E hki]; exact hnm.below (below_alloc _ _)
              have HNE : Hid (∀ b, mv' = some b → b ≠ w6.heap.size) := fun b h => Nat.ne_of_lt (hlt b h)
              have HBA : Hid (Below w6.heap.size w6 (wr.alloc (.cells #[.int .i64 fv, .map mv'] 40))) := hb.alloc (Nat.le_of_lt hsz) _
              clear hck hnm hlt hb HC6 HE HB6 C12' C13 HK HX
              go_wp2_with (at_builtin; refine wpList_append_cen (by rfl) (.tmp 117) (.tmp 122) (by rfl) w6.heap.size (n + 1) (i + 1) (ins F k E) (by omega) (by rfl) wr.heap.size 1 (by rfl) fv mv' mm ha0.out ha1.out HCKa.out HNMa.out HNE.out w6 HBA.out ?_; intro w7 hck7 hb7 hsz7)
              go_roundw
              case rel => exact ⟨i + 1, rfl, by go_num, by omega, by omega, hck7.out, by rw [hsz7.out]; simp; omega, hb7.out⟩
              case measure => simp [intOf]; omega
            · obtain rfl : i = n := by omega
              have mkc := mk_census' i n9
              have HG8 : Hid (Cen wr (some ⟨w6.heap.size, 0, none⟩) (i + 1) (ins F k E)) := hck.cen
              have HB8 : Hid (Below w6.heap.size w6 wr) := hb
              clear hck hb
              go_wp2
              obtain ⟨w8, rfl⟩ : ∃ w8 : World, w8 = wr := ⟨_, rfl⟩
              go_loopw [26] (fun s26 wr => ∃ j : Nat, s26 = .int .i64 j ∧ j ≤ i + 1 ∧ CenK wr w8.heap.size (i + 1) j (fun t => ins F k E (i - t)) ∧ w8.heap.size < wr.heap.size ∧ Below w8.heap.size w8 wr) (fun s26 _ => i + 1 - (intOf s26).toNat)
              case atStart => exact ⟨0, rfl, Nat.zero_le _, ⟨_, Row.made w8 _ ((i + 1) * 2) 40, fun t h => absurd h (Nat.not_lt_zero _)⟩, by simp, below_alloc _ _⟩
              case round =>
                obtain ⟨j, rfl, hj, hck, hsz9, hb9⟩ := hrel
                by_cases hji : j < i + 1
                · obtain ⟨b, off, mv', fv, mm, hab, c0, c1, hnm, hlt, hbB⟩ := HG8.out.at hb9 (show i - j < i + 1 by omega)
                  cases hab
                  obtain ⟨r, hr⟩ : ∃ r : Nat, r = i - j := ⟨_, rfl⟩
                  rw [← hr, Nat.zero_add] at c0 c1
                  have er : (i : Int) - (j : Int) = (r : Int) := by omega
                  have i1 : (0 : Int) ≤ (j : Int) := by omega
                  have i2 : (j : Int) < (i : Int) + 1 := by omega
                  have i3 : (0 : Int) ≤ (r : Int) := by omega
                  have i4 : (r : Int) < (i : Int) + 1 := by omega
                  have HST : Hid (CenK ((wr.setCell ⟨w8.heap.size, j * 2, none⟩ (.int .i64 fv)).setCell ⟨w8.heap.size, j * 2 + 1, none⟩ (.map mv')) w8.heap.size (i + 1) (j + 1) (fun t => ins F k E (i - t))) := hck.step hji fv mv' mm (by show NM wr mv' mm (ins F k E (i - j)); exact hnm) (fun b h => Nat.ne_of_lt (hlt b h))
                  have HB9 : Hid (Below w8.heap.size w8 ((wr.setCell ⟨w8.heap.size, j * 2, none⟩ (.int .i64 fv)).setCell ⟨w8.heap.size, j * 2 + 1, none⟩ (.map mv'))) := (hb9.setCell (p := ⟨w8.heap.size, j * 2, none⟩) (Nat.le_refl _) _).setCell (p := ⟨w8.heap.size, j * 2 + 1, none⟩) (Nat.le_refl _) _
                  obtain ⟨gg, hrw, _⟩ := hck
                  have q0 := hrw (j * 2) (by omega)
                  have q1 := hrw (j * 2 + 1) (by omega)
                  obtain ⟨q0, z0⟩ := q0
                  obtain ⟨q1, z1⟩ := q1
                  generalize gg (j * 2) = y0 at *
                  generalize gg (j * 2 + 1) = y1 at *
                  clear hrw hnm hlt hb9 HC6 HE HB6 C12' C13 HK HX HG8 HB8 hr
                  go_wp2
                  go_roundw
                  case rel => exact ⟨j + 1, by go_num, by omega, HST.out, by simp [World.setCell]; omega, HB9.out⟩
                  case measure => simp [intOf]; omega
                · obtain rfl : j = i + 1 := by omega
                  have HGR : Hid (Cen wr (some ⟨w8.heap.size, 0, none⟩) (i + 1) (fun t => ins F k E (i - t))) := hck.cen
                  have HG9 : Hid (Cen wr (some ⟨w6.heap.size, 0, none⟩) (i + 1) (ins F k E)) := HG8.out.below hb9
                  have HC9 : Hid (Cen wr ca i F) := HC6.out.below (below_trans HB8.out hb9)
                  have HBW : Hid (Below w3.heap.size w3 wr) := below_trans HB4.out (below_trans HB6.out (below_trans HB8.out hb9))
                  clear hck hb9 HG8 HC6 HB8 HB4 HB6
                  go_wp2
                  obtain ⟨w9, rfl⟩ : ∃ w9 : World, w9 = wr := ⟨_, rfl⟩
                  have K13 : Hid (∀ t w', Below w9.heap.size w9 w' → ∀ q, Calls Try.prog 13 #[.slice va m vc, .int .i64 (t : Nat)] (w'.drewN q) fun e w'' => e = .returned (.slice (VA t) (VL t) (VC t)) ∧ w'' = w'.drewN q) := fun t w' hb q => C13.out t _ (below_drewN (below_trans HBW.out hb) q)
                  have K12 : Hid (∀ t w', t < i → Below w9.heap.size w9 w' → ∀ q, Calls Try.prog 12 #[.slice (KA t) (KL t) (KC t), .slice (VA t) (VL t) (VC t), .string s] (w'.drewN q) fun e w'' => e = .returned (.int .i64 (X t)) ∧ w'' = w'.drewN q) := fun t w' ht hb q => C12'.out t _ ht (below_drewN (below_trans HBW.out hb) q)
                  have KR : Hid (Rw w9 ka i KA KL KC) := HK.out.below HBW.out
                  clear C13 C12' HK
                  go_loopw [27, 28] (fun s27 s28 wr => ∃ t : Nat, s27 = .int .i64 (ws X t) ∧ s28 = .int .i64 t ∧ t ≤ i ∧ Below w9.heap.size w9 wr) (fun _ s28 _ => i - (intOf s28).toNat)
                  case atStart => exact ⟨0, rfl, rfl, Nat.zero_le _, Below.refl _ _⟩
                  case round =>
                    obtain ⟨t, rfl, rfl, ht, hbr⟩ := hrel
                    by_cases hti : t < i
                    · obtain ⟨b, off, rfl, hc⟩ := KR.out.below hbr t hti
                      have k13 : Hid (∀ q, Calls Try.prog 13 #[.slice va m vc, .int .i64 (t : Nat)] (wr.drewN q) fun e w' => e = .returned (.slice (VA t) (VL t) (VC t)) ∧ w' = wr.drewN q) := fun q => K13.out t wr hbr q
                      have k12 : Hid (∀ q, Calls Try.prog 12 #[.slice (KA t) (KL t) (KC t), .slice (VA t) (VL t) (VC t), .string s] (wr.drewN q) fun e w' => e = .returned (.int .i64 (X t)) ∧ w' = wr.drewN q) := fun q => K12.out t wr hti hbr q
                      have HBR : Hid (∀ q, Below w9.heap.size w9 (wr.drewN q)) := fun q => below_drewN hbr q
                      have HW1 : Hid (ws X (t + 1) = wrap64 (ws X t + X t)) := rfl
                      have i1 : (0 : Int) ≤ (t : Int) := by omega
                      have i2 : (t : Int) < (i : Int) := by omega
                      clear hbr K13 K12 KR HGR HG9 HC9 HBW HE HX
                      go_wp2
                      go_quiet ((first | (go_at_call 13; with_reducible exact Calls.quiet_of_same (k13.out _)) | (go_at_call 12; with_reducible exact Calls.quiet_of_same (k12.out _))))
                      go_wp2
                      go_roundw
                      case rel => exact ⟨t + 1, by rw [HW1.out], by go_num, by omega, HBR.out _⟩
                      case measure => simp [intOf]; omega
                    · obtain rfl : t = i := by omega
                      have O1 : Hid (∀ w', Below wr.heap.size wr w' → Calls Try.prog 14 #[.slice ca t t, .string s] w' fun e w'' => e = .returned (.int .i64 (ws X t)) ∧ Below w'.heap.size w' w'') := fun w' hb => by rw [HX.out]; exact of_any2 ca t t F s w' (by omega) hs (HC9.out.below (below_trans hbr hb))
                      have O2 : Hid (∀ w', Below wr.heap.size wr w' → Calls Try.prog 14 #[.slice (some ⟨w6.heap.size, 0, none⟩) (t + 1) (t + 1), .string s] w' fun e w'' => e = .returned (.int .i64 (wrap64 (ws X t + v))) ∧ Below w'.heap.size w' w'') := fun w' hb => by
                        rw [HX.out, ← ws_ins F k E s.data.toList v HE.out t (by omega)]
                        exact of_any2 _ (t + 1) (t + 1) (ins F k E) s w' (by omega) hs (HG9.out.below (below_trans hbr hb))
                      have O3 : Hid (∀ w', Below wr.heap.size wr w' → Calls Try.prog 14 #[.slice (some ⟨w8.heap.size, 0, none⟩) (t + 1) (t + 1), .string s] w' fun e w'' => e = .returned (.int .i64 (wrap64 (ws X t + v))) ∧ Below w'.heap.size w' w'') := fun w' hb => by
                        rw [HX.out, ← ws_ins F k E s.data.toList v HE.out t (by omega), ← ws_back (fun j => (ins F k E j s.data.toList).getD 0) t]
                        exact of_any2 _ (t + 1) (t + 1) (fun j => ins F k E (t - j)) s w' (by omega) hs (HGR.out.below (below_trans hbr hb))
                      have HBE : Hid (Below w3.heap.size w3 wr) := below_trans HBW.out hbr
                      clear K13 K12 KR HGR HG9 HC9 HBW HE HX hbr
                      generalize ws X t = A at *
                      go_wp2_with fail
                      refine Calls.mono (O1.out _ (Below.refl _ _)) ?_
                      rintro e wA ⟨rfl, hbA⟩
                      go_wp2_with fail
                      refine Calls.mono (O2.out _ hbA) ?_
                      rintro e wB ⟨rfl, hbB'⟩
                      have hbAB := below_trans hbA hbB'
                      go_wp2_with fail
                      refine Calls.mono (O3.out _ hbAB) ?_
                      rintro e wC ⟨rfl, hbC⟩
                      go_wp2
                      go_ret
                      exact ⟨rfl, below_trans HBE.out (below_trans hbAB hbC)⟩
end Go.Proofs.Qxb6609020a
