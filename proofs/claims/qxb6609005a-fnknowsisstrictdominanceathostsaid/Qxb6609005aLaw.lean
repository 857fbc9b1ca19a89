import Derived.Test.Qxb6609005aParts
import Derived.WalkKit
import Derived.ProofKit
import Derived.WalkSpells
import Derived.WalkSmall
namespace Go.Proofs.Qxb6609005a
open Go.RowKit Go.Kx Go.Kn
/-- An event's six cells. -/
def Bx (w : World) (B : Nat) (s : ByteArray) (lam : Int) (z : Bool) (c : Ck) (ka : Option Addr) (kc : Nat) : Prop :=
  w.cell? ⟨B, 0, none⟩ = some (.string s) ∧ w.cell? ⟨B, 1, none⟩ = some (.int .u64 lam) ∧ w.cell? ⟨B, 2, none⟩ = some (.bool z) ∧ w.cell? ⟨B, 3, none⟩ = some (.int .u32 c.own) ∧ w.cell? ⟨B, 4, none⟩ = some (.int .u32 c.cn) ∧ w.cell? ⟨B, 5, none⟩ = some (.slice ka c.kl kc)
theorem Bx.below {w w' : World} {B : Nat} {s : ByteArray} {lam : Int} {z : Bool} {c : Ck} {ka : Option Addr} {kc : Nat} (h : Bx w B s lam z c ka kc) (hb : Below w.heap.size w w') : Bx w' B s lam z c ka kc :=
  ⟨(hb.cell (p := ⟨B, 0, none⟩) (cell_lt h.1)).trans h.1, (hb.cell (p := ⟨B, 1, none⟩) (cell_lt h.2.1)).trans h.2.1, (hb.cell (p := ⟨B, 2, none⟩) (cell_lt h.2.2.1)).trans h.2.2.1, (hb.cell (p := ⟨B, 3, none⟩) (cell_lt h.2.2.2.1)).trans h.2.2.2.1, (hb.cell (p := ⟨B, 4, none⟩) (cell_lt h.2.2.2.2.1)).trans h.2.2.2.2.1, (hb.cell (p := ⟨B, 5, none⟩) (cell_lt h.2.2.2.2.2)).trans h.2.2.2.2.2⟩
/-- The law's answer. -/
def Yes (w : World) (e : Ending) (w' : World) : Prop := e = .returned (.bool true) ∧ Below w.heap.size w w'
set_option maxRecDepth 100000 in
set_option maxHeartbeats 4000000 in
theorem law_any (na : Option Addr) (n nc : Nat) (nm : Nat → ByteArray) (s1 s2 : ByteArray) (l1 l2 : Int) (z1 z2 : Bool) (c d : Ck) (ka1 ka2 : Option Addr) (kc1 kc2 : Nat) (w : World) (hs : ∀ i, i < n → (nm i).size ≤ maxLen) (hN : Nms w na n nm)
    (hn : n ≤ maxLen) (h1 : s1.size ≤ maxLen) (h2 : s2.size ≤ maxLen) (k1 : c.kl ≤ maxLen) (k2 : d.kl ≤ maxLen) (f1 : c.kl ≤ 1048576 → Fits c) (f2 : d.kl ≤ 1048576 → Fits d) (q1 : Knw w ka1 c) (q2 : Knw w ka2 d) :
    Calls Try.prog 3 #[.slice na n nc, Evv s1 l1 z1 c ka1 kc1, Evv s2 l2 z2 d ka2 kc2] w (Yes w) := by
  have C7 : Hid (∀ w1, Below w.heap.size w w1 → Calls Try.prog 7 #[.slice na n nc, Evv s1 l1 z1 c ka1 kc1, Evv s2 l2 z2 d ka2 kc2] w1 (BytesPost n c.kl d.kl w1)) := fun w1 hb => bytes_any na n nc nm s1 s2 l1 l2 z1 z2 c d ka1 ka2 kc1 kc2 w1 hs (hN.below hb) hn h1 h2 k1 k2
  have C8 : Hid (n ≤ 1048576 → ∀ w1, Below w.heap.size w w1 → Calls Try.prog 8 #[.int .i64 0, .slice na n nc] w1 (SomeInt w1)) := fun hn' w1 hb => addNames_any na n nc nm w1 hn' hs (hN.below hb)
  have C9a : Hid (∀ t : Nat, t ≤ 1048576 → ∀ w1, Calls Try.prog 9 #[.int .i64 t, Evv s1 l1 z1 c ka1 kc1] w1 (SomeInt w1)) := fun t ht w1 => addEvent_any t s1 l1 z1 c ka1 kc1 w1 ht h1 k1
  have C9b : Hid (∀ t : Nat, t ≤ 1048576 → ∀ w1, Calls Try.prog 9 #[.int .i64 t, Evv s2 l2 z2 d ka2 kc2] w1 (SomeInt w1)) := fun t ht w1 => addEvent_any t s2 l2 z2 d ka2 kc2 w1 ht h2 k2
  have HR : Hid (n ≤ 1048576 → c.kl ≤ 1048576 → d.kl ≤ 1048576 → ∀ w1, Below w.heap.size w w1 → Bx w1 w.heap.size s1 l1 z1 c ka1 kc1 → Bx w1 (w.heap.size + 1) s2 l2 z2 d ka2 kc2 → True) := fun _ _ _ _ _ _ _ => trivial
  unfold Evv at *
  go_enter Try.func3, Try.ntmps3
  go_wp2_with fail
  refine Calls.mono (C7.out _ (below2 _ _ _)) ?_
  rintro e w1 ⟨r, rfl, hr, hb1⟩
  have X1 : Hid (Bx w1 w.heap.size s1 l1 z1 c ka1 kc1) := Bx.below (w := (w.alloc (.cells #[.string s1, .int .u64 l1, .bool z1, .int .u32 c.own, .int .u32 c.cn, .slice ka1 c.kl kc1] 27)).alloc (.cells #[.string s2, .int .u64 l2, .bool z2, .int .u32 d.own, .int .u32 d.cn, .slice ka2 d.kl kc2] 27)) ⟨by simp [go_sem], by simp [go_sem], by simp [go_sem], by simp [go_sem], by simp [go_sem], by simp [go_sem]⟩ hb1
  have X2 : Hid (Bx w1 (w.heap.size + 1) s2 l2 z2 d ka2 kc2) := Bx.below (w := (w.alloc (.cells #[.string s1, .int .u64 l1, .bool z1, .int .u32 c.own, .int .u32 c.cn, .slice ka1 c.kl kc1] 27)).alloc (.cells #[.string s2, .int .u64 l2, .bool z2, .int .u32 d.own, .int .u32 d.cn, .slice ka2 d.kl kc2] 27)) ⟨by simp [go_sem], by simp [go_sem], by simp [go_sem], by simp [go_sem], by simp [go_sem], by simp [go_sem]⟩ hb1
  have B1 : Below w.heap.size w w1 := below_trans (below2 _ _ _) hb1
  clear hb1 C7
  cases r with
  | false =>
    clear hr C8 C9a C9b HR X1 X2
    go_wp2
    go_ret
    exact ⟨rfl, B1⟩
  | true =>
    obtain ⟨n9, kl1, kl2⟩ := hr rfl
    have F1 : Hid (Fits c) := f1 kl1
    have F2 : Hid (Fits d) := f2 kl2
    have Q1 : Hid (Knw w ka1 c) := q1
    have Q2 : Hid (Knw w ka2 d) := q2
    have QN : Hid (Nms w na n nm) := hN
    have QS : Hid (∀ i, i < n → (nm i).size ≤ maxLen) := hs
    clear hr f1 f2 q1 q2 hN hs HR
    go_wp2_with fail
    refine Calls.mono (C8.out n9 _ B1) ?_
    rintro e w2 ⟨x, rfl, hx, hb2⟩
    have B2 : Below w.heap.size w w2 := below_trans B1 hb2
    have Y1 : Hid (Bx w2 w.heap.size s1 l1 z1 c ka1 kc1) := X1.out.below hb2
    have Y2 : Hid (Bx w2 (w.heap.size + 1) s2 l2 z2 d ka2 kc2) := X2.out.below hb2
    clear B1 hb2 X1 X2 C8
    by_cases hx1 : 1048576 < x
    · clear C9a C9b Y1 Y2 F1 F2 Q1 Q2 QN QS
      go_wp2
      go_ret
      exact ⟨rfl, B2⟩
    obtain ⟨y0, y1, y2, y3, y4, y5⟩ := Y1.out
    go_wp2_with fail
    refine Calls.mono (C9a.out x (by omega) _) ?_
    rintro e w3 ⟨x2, rfl, hx2, hb3⟩
    clear y0 y1 y2 y3 y4 y5
    have B3 : Below w.heap.size w w3 := below_trans B2 hb3
    have X1 : Hid (Bx w3 w.heap.size s1 l1 z1 c ka1 kc1) := Y1.out.below hb3
    have X2 : Hid (Bx w3 (w.heap.size + 1) s2 l2 z2 d ka2 kc2) := Y2.out.below hb3
    clear B2 hb3 Y1 Y2 C9a hx1 hx
    by_cases hx3 : 1048576 < x2
    · clear C9b X1 X2 F1 F2 Q1 Q2 QN QS
      go_wp2
      go_ret
      exact ⟨rfl, B3⟩
    obtain ⟨y0, y1, y2, y3, y4, y5⟩ := X2.out
    go_wp2_with fail
    refine Calls.mono (C9b.out x2 (by omega) _) ?_
    rintro e w4 ⟨x4, rfl, hx4, hb4⟩
    clear y0 y1 y2 y3 y4 y5
    have B4 : Below w.heap.size w w4 := below_trans B3 hb4
    have Y1 : Hid (Bx w4 w.heap.size s1 l1 z1 c ka1 kc1) := X1.out.below hb4
    have Y2 : Hid (Bx w4 (w.heap.size + 1) s2 l2 z2 d ka2 kc2) := X2.out.below hb4
    clear B3 hb4 X1 X2 C9b hx3 hx2
    by_cases hx5 : 1048576 < x4
    · clear Y1 Y2 F1 F2 Q1 Q2 QN QS
      go_wp2
      go_ret
      exact ⟨rfl, B4⟩
    go_wp2_with fail
    refine Calls.mono (sorted_any na n nc nm _ n9 (QN.out.below B4)) ?_
    rintro e w5 ⟨r5, rfl, hr5, hb5⟩
    have B5 : Below w.heap.size w w5 := below_trans B4 hb5
    have X1 : Hid (Bx w5 w.heap.size s1 l1 z1 c ka1 kc1) := Y1.out.below hb5
    have X2 : Hid (Bx w5 (w.heap.size + 1) s2 l2 z2 d ka2 kc2) := Y2.out.below hb5
    clear B4 hb5 Y1 Y2 hx5 hx4
    cases r5 with
    | false =>
      clear X1 X2 F1 F2 Q1 Q2 QN QS hr5
      go_wp2
      go_ret
      exact ⟨rfl, B5⟩
    | true =>
      have HSrt : Hid (Srt n nm) := hr5.1 rfl
      clear hr5
      obtain ⟨y0, y1, y2, y3, y4, y5⟩ := X1.out
      go_wp2_with fail
      refine Calls.mono (valid_any n s1 l1 z1 c ka1 kc1 _ n9 F1.out (Q1.out.below B5)) ?_
      rintro e w6 ⟨r6, rfl, hr6, hb6⟩
      clear y0 y1 y2 y3 y4 y5
      have B6 : Below w.heap.size w w6 := below_trans B5 hb6
      have Y1 : Hid (Bx w6 w.heap.size s1 l1 z1 c ka1 kc1) := X1.out.below hb6
      have Y2 : Hid (Bx w6 (w.heap.size + 1) s2 l2 z2 d ka2 kc2) := X2.out.below hb6
      clear B5 hb6 X1 X2
      cases r6 with
      | false =>
        clear Y1 Y2 F1 F2 Q1 Q2 QN QS hr6
        go_wp2
        go_ret
        exact ⟨rfl, B6⟩
      | true =>
        have V1 : Hid (Val n z1 c) := hr6.1 rfl
        clear hr6
        obtain ⟨y0, y1, y2, y3, y4, y5⟩ := Y2.out
        go_wp2_with fail
        refine Calls.mono (valid_any n s2 l2 z2 d ka2 kc2 _ n9 F2.out (Q2.out.below B6)) ?_
        rintro e w7 ⟨r7, rfl, hr7, hb7⟩
        clear y0 y1 y2 y3 y4 y5
        have B7 : Below w.heap.size w w7 := below_trans B6 hb7
        have X1 : Hid (Bx w7 w.heap.size s1 l1 z1 c ka1 kc1) := Y1.out.below hb7
        have X2 : Hid (Bx w7 (w.heap.size + 1) s2 l2 z2 d ka2 kc2) := Y2.out.below hb7
        clear B6 hb7 Y1 Y2
        cases r7 with
        | false =>
          clear X1 X2 F1 F2 Q1 Q2 QN QS hr7
          go_wp2
          go_ret
          exact ⟨rfl, B7⟩
        | true =>
          have V2 : Hid (Val n z2 d) := hr7.1 rfl
          clear hr7
          have SC : Hid (Shape n (ckz z1 c)) := shape_of V1.out
          have SD : Hid (Shape n (ckz z2 d)) := shape_of V2.out
          have G1 : Hid (Fits (ckz z1 c)) := fits_ckz F1.out
          have G2 : Hid (Fits (ckz z2 d)) := fits_ckz F2.out
          have HD : Hid (∀ i j, i < n → j < n → nm i = nm j → i = j) := fun i j hi hj e => dist_of HSrt.out i j hi hj (by rw [e])
          have D1 : Hid (∀ w1, Below w.heap.size w w1 → DnC w1 n (Evv s1 l1 z1 c ka1 kc1) (ckz z1 c)) := fun w1 hb => dense_any n s1 l1 z1 c ka1 kc1 w1 n9 F1.out (Q1.out.below hb) V1.out
          have D2 : Hid (∀ w1, Below w.heap.size w w1 → DnC w1 n (Evv s2 l2 z2 d ka2 kc2) (ckz z2 d)) := fun w1 hb => dense_any n s2 l2 z2 d ka2 kc2 w1 n9 F2.out (Q2.out.below hb) V2.out
          have M1 : Hid (∀ w1, Below w.heap.size w w1 → Calls Try.prog 15 #[.slice na n nc, Evv s1 l1 z1 c ka1 kc1, Evv s2 l2 z2 d ka2 kc2] w1 (Iff' (Knows n (fun k => nm k = s1) (ckz z1 c) (ckz z2 d)) w1)) := fun w1 hb => model_any na n nc nm s1 s2 l1 l2 z1 z2 _ _ c d ka1 ka2 kc1 kc2 w1 n9 (QN.out.below hb) (cv_lt G1.out) (cv_lt G2.out) (D1.out w1 hb) (D2.out w1 hb) HD.out
          have M2 : Hid (∀ w1, Below w.heap.size w w1 → Calls Try.prog 15 #[.slice na n nc, Evv s2 l2 z2 d ka2 kc2, Evv s1 l1 z1 c ka1 kc1] w1 (Iff' (Knows n (fun k => nm k = s2) (ckz z2 d) (ckz z1 c)) w1)) := fun w1 hb => model_any na n nc nm s2 s1 l2 l1 z2 z1 _ _ d c ka2 ka1 kc2 kc1 w1 n9 (QN.out.below hb) (cv_lt G2.out) (cv_lt G1.out) (D2.out w1 hb) (D1.out w1 hb) HD.out
          clear D1 D2 V1 V2 HSrt
          go_wp2_with fail
          refine Calls.mono (buildNumber_any na n nc nm _ n9 QS.out (QN.out.below B7)) ?_
          rintro e w8 ⟨mb, rfl, hsm, hb8⟩
          have SM : Hid (SMap Try.prog 9 24 .u32 w8 mb n (numOf nm n)) := hsm
          have B8 : Below w.heap.size w w8 := below_trans B7 hb8
          have Y1 : Hid (Bx w8 w.heap.size s1 l1 z1 c ka1 kc1) := X1.out.below hb8
          have Y2 : Hid (Bx w8 (w.heap.size + 1) s2 l2 z2 d ka2 kc2) := X2.out.below hb8
          clear B7 hb8 X1 X2 hsm
          obtain ⟨y0, y1, y2, y3, y4, y5⟩ := Y1.out
          go_wp2_with fail
          refine Calls.mono (build_any na n nc mb s1 l1 z1 c ka1 kc1 _ F1.out (Q1.out.below B8)) ?_
          rintro e w9 ⟨E1, hp1, kb1, kd1, rfl, hev1, hkn1, hh1, hb9⟩
          clear y0 y1 y2 y3 y4 y5
          have B9 : Below w.heap.size w w9 := below_trans B8 hb9
          have X1 : Hid (Bx w9 w.heap.size s1 l1 z1 c ka1 kc1) := Y1.out.below hb9
          have X2 : Hid (Bx w9 (w.heap.size + 1) s2 l2 z2 d ka2 kc2) := Y2.out.below hb9
          have SM9 : Hid (SMap Try.prog 9 24 .u32 w9 mb n (numOf nm n)) := SM.out.below hb9 SM.out.lt
          have P1 : Hid (Evt w9 E1 s1 hp1 (ckz z1 c) kb1 kd1) := hev1
          have R1 : Hid (Knw w9 kb1 (ckz z1 c)) := hkn1
          have T1 : Hid (∀ s : ByteArray, s.size ≤ maxLen → Cnt w9 hp1 (ckz z1 c) kb1 kd1 s (vAt (numOf nm n s.data.toList) (ckz z1 c))) := fun s hsz => cnt_any hsz n9 G1.out SC.out.asc hkn1 SM9.out hh1
          clear B8 hb9 Y1 Y2 SM hev1 hkn1 hh1
          obtain ⟨y0, y1, y2, y3, y4, y5⟩ := X2.out
          go_wp2_with fail
          refine Calls.mono (build_any na n nc mb s2 l2 z2 d ka2 kc2 _ F2.out (Q2.out.below B9)) ?_
          rintro e wA ⟨E2, hp2, kb2, kd2, rfl, hev2, hkn2, hh2, hbA⟩
          clear y0 y1 y2 y3 y4 y5
          have BA : Below w.heap.size w wA := below_trans B9 hbA
          have Y1 : Hid (Bx wA w.heap.size s1 l1 z1 c ka1 kc1) := X1.out.below hbA
          have Y2 : Hid (Bx wA (w.heap.size + 1) s2 l2 z2 d ka2 kc2) := X2.out.below hbA
          have SMA : Hid (SMap Try.prog 9 24 .u32 wA mb n (numOf nm n)) := SM9.out.below hbA SM9.out.lt
          have T2 : Hid (∀ s : ByteArray, s.size ≤ maxLen → Cnt wA hp2 (ckz z2 d) kb2 kd2 s (vAt (numOf nm n s.data.toList) (ckz z2 d))) := fun s hsz => cnt_any hsz n9 G2.out SD.out.asc hkn2 SMA.out hh2
          have T1A : Hid (∀ s : ByteArray, s.size ≤ maxLen → Cnt wA hp1 (ckz z1 c) kb1 kd1 s (vAt (numOf nm n s.data.toList) (ckz z1 c))) := fun s hsz w1 hb => T1.out s hsz w1 (below_trans hbA hb)
          have K1 : Hid (∀ w1, Below wA.heap.size wA w1 → Calls Try.prog 14 #[.pointer (some ⟨E1, 0, none⟩), .pointer (some ⟨E2, 0, none⟩)] w1 (Iff' (Knows n (fun k => nm k = s1) (ckz z1 c) (ckz z2 d)) w1)) := fun w1 hb => Calls.mono (zzknows_any E1 E2 s1 s2 hp1 hp2 _ _ kb1 kb2 kd1 kd2 _ _ w1 G1.out G2.out SC.out.asc SD.out.asc ((R1.out.below hbA).below hb) (hkn2.below hb) ((P1.out.below hbA).below hb) (hev2.below hb) (fun w2 hb2 => T1A.out s1 h1 w2 (below_trans hb hb2)) (fun w2 hb2 => T2.out s1 h1 w2 (below_trans hb hb2))) (fun e w' h => h.congr (knows_iff SC.out SD.out HD.out))
          have K2 : Hid (∀ w1, Below wA.heap.size wA w1 → Calls Try.prog 14 #[.pointer (some ⟨E2, 0, none⟩), .pointer (some ⟨E1, 0, none⟩)] w1 (Iff' (Knows n (fun k => nm k = s2) (ckz z2 d) (ckz z1 c)) w1)) := fun w1 hb => Calls.mono (zzknows_any E2 E1 s2 s1 hp2 hp1 _ _ kb2 kb1 kd2 kd1 _ _ w1 G2.out G1.out SD.out.asc SC.out.asc (hkn2.below hb) ((R1.out.below hbA).below hb) (hev2.below hb) ((P1.out.below hbA).below hb) (fun w2 hb2 => T2.out s2 h2 w2 (below_trans hb hb2)) (fun w2 hb2 => T1A.out s2 h2 w2 (below_trans hb hb2))) (fun e w' h => h.congr (knows_iff SD.out SC.out HD.out))
          have NB : Hid (¬ (Knows n (fun k => nm k = s1) (ckz z1 c) (ckz z2 d) ∧ Knows n (fun k => nm k = s2) (ckz z2 d) (ckz z1 c))) := fun h => not_both h.1 h.2
          clear B9 hbA X1 X2 SM9 SMA T1 T2 T1A hev2 hkn2 hh2 P1 R1 G1 G2 SC SD HD F1 F2 Q1 Q2 QN QS
          generalize Knows n (fun k => nm k = s1) (ckz z1 c) (ckz z2 d) = p1 at *
          generalize Knows n (fun k => nm k = s2) (ckz z2 d) (ckz z1 c) = p2 at *
          obtain ⟨b1, hb1⟩ : ∃ b : Bool, b = true ↔ p1 := ⟨@decide p1 (Classical.propDecidable p1), by simp⟩
          obtain ⟨b2, hb2⟩ : ∃ b : Bool, b = true ↔ p2 := ⟨@decide p2 (Classical.propDecidable p2), by simp⟩
          have NBB : Hid (b1 = true → b2 = true → False) := fun g1 g2 => NB.out ⟨hb1.1 g1, hb2.1 g2⟩
          have L1 : Hid (∀ w1, Below wA.heap.size wA w1 → Calls Try.prog 14 #[.pointer (some ⟨E1, 0, none⟩), .pointer (some ⟨E2, 0, none⟩)] w1 (fun e w' => e = .returned (.bool b1) ∧ Below w1.heap.size w1 w')) := fun w1 hb => Calls.mono (K1.out w1 hb) (fun e w' h => h.det hb1)
          have L2 : Hid (∀ w1, Below wA.heap.size wA w1 → Calls Try.prog 14 #[.pointer (some ⟨E2, 0, none⟩), .pointer (some ⟨E1, 0, none⟩)] w1 (fun e w' => e = .returned (.bool b2) ∧ Below w1.heap.size w1 w')) := fun w1 hb => Calls.mono (K2.out w1 hb) (fun e w' h => h.det hb2)
          have L3 : Hid (∀ w1, Below w.heap.size w w1 → Calls Try.prog 15 #[.slice na n nc, Evv s1 l1 z1 c ka1 kc1, Evv s2 l2 z2 d ka2 kc2] w1 (fun e w' => e = .returned (.bool b1) ∧ Below w1.heap.size w1 w')) := fun w1 hb => Calls.mono (M1.out w1 hb) (fun e w' h => h.det hb1)
          have L4 : Hid (∀ w1, Below w.heap.size w w1 → Calls Try.prog 15 #[.slice na n nc, Evv s2 l2 z2 d ka2 kc2, Evv s1 l1 z1 c ka1 kc1] w1 (fun e w' => e = .returned (.bool b2) ∧ Below w1.heap.size w1 w')) := fun w1 hb => Calls.mono (M2.out w1 hb) (fun e w' h => h.det hb2)
          clear K1 K2 M1 M2 NB hb1 hb2
          unfold Evv at *
          go_wp2_with fail
          refine Calls.mono (L1.out _ (Below.refl _ _)) ?_
          rintro e wB ⟨rfl, hbB⟩
          go_wp2_with fail
          refine Calls.mono (L2.out _ hbB) ?_
          rintro e wC ⟨rfl, hbC⟩
          have BC0 := below_trans hbB hbC
          have BC : Below w.heap.size w wC := below_trans BA BC0
          have X1 : Hid (Bx wC w.heap.size s1 l1 z1 c ka1 kc1) := Y1.out.below BC0
          have X2 : Hid (Bx wC (w.heap.size + 1) s2 l2 z2 d ka2 kc2) := Y2.out.below BC0
          clear L1 L2 hbB hbC BA BC0 Y1 Y2
          obtain ⟨y0, y1, y2, y3, y4, y5⟩ := X1.out
          obtain ⟨v0, v1, v2, v3, v4, v5⟩ := X2.out
          go_wp2_with fail
          refine Calls.mono (L3.out _ BC) ?_
          rintro e wD ⟨rfl, hbD⟩
          clear y0 y1 y2 y3 y4 y5 v0 v1 v2 v3 v4 v5
          have BD : Below w.heap.size w wD := below_trans BC hbD
          obtain ⟨y0, y1, y2, y3, y4, y5⟩ := X1.out.below hbD
          obtain ⟨v0, v1, v2, v3, v4, v5⟩ := X2.out.below hbD
          clear X1 X2 L3 BC hbD
          have HB : Hid (∀ w', Below wD.heap.size wD w' → Below w.heap.size w w') := fun w' hb => below_trans BD hb
          cases b1 with
          | false =>
            cases b2 with
            | false =>
              go_wp2_with fail
              refine Calls.mono (L4.out _ BD) ?_
              rintro e wE ⟨rfl, hbE⟩
              clear y0 y1 y2 y3 y4 y5 v0 v1 v2 v3 v4 v5
              go_wp2
              go_ret
              exact ⟨rfl, HB.out _ hbE⟩
            | true =>
              go_wp2_with fail
              refine Calls.mono (L4.out _ BD) ?_
              rintro e wE ⟨rfl, hbE⟩
              clear y0 y1 y2 y3 y4 y5 v0 v1 v2 v3 v4 v5
              go_wp2
              go_ret
              exact ⟨rfl, HB.out _ hbE⟩
          | true =>
            cases b2 with
            | false =>
              go_wp2_with fail
              refine Calls.mono (L4.out _ BD) ?_
              rintro e wE ⟨rfl, hbE⟩
              clear y0 y1 y2 y3 y4 y5 v0 v1 v2 v3 v4 v5
              go_wp2
              go_ret
              exact ⟨rfl, HB.out _ hbE⟩
            | true => exact (NBB.out rfl rfl).elim
end Go.Proofs.Qxb6609005a
