import Derived.Test.Qxb6609005aAtMost
import Derived.WalkKit
import Derived.ProofKit
import Derived.WalkSpells
import Derived.WalkSmall
import Derived.BigQuiet
import Derived.Deep.QuietTactic
import Derived.Deep.RegionHeld3
import Derived.Deep.DrawnRows
import Derived.Deep.RegionWith
import Derived.Deep.DeepCutAuto
set_option linter.unusedSimpArgs false
namespace Go.Proofs.Qxb6609005a
open Go.RowKit Go.Kx Go.Kn
/-- An event in block B: its host and its clock. -/
def Evt (w : World) (B : Nat) (s : ByteArray) (hp : Option Addr) (c : Ck) (ka : Option Addr) (kc : Nat) : Prop :=
  w.cell? ⟨B, 0, none⟩ = some (.string s) ∧ Cl4 w B 1 hp c ka kc
theorem Evt.below {w w' : World} {B : Nat} {s : ByteArray} {hp : Option Addr} {c : Ck} {ka : Option Addr} {kc : Nat} (h : Evt w B s hp c ka kc) (hb : Below w.heap.size w w') : Evt w' B s hp c ka kc :=
  ⟨(hb.cell (p := ⟨B, 0, none⟩) (cell_lt h.1)).trans h.1, h.2.below hb⟩
/-- What (Clock).Count answers, anywhere after w. -/
def Cnt (w : World) (hp : Option Addr) (c : Ck) (ka : Option Addr) (kc : Nat) (s : ByteArray) (v : Nat) : Prop :=
  ∀ w1, Below w.heap.size w w1 → Calls Try.prog 34 #[Ckv hp c ka kc, .string s] w1 fun e w' => e = .returned (.int .u64 v) ∧ Below w1.heap.size w1 w'
set_option maxRecDepth 100000 in
set_option maxHeartbeats 600000 in
theorem knows_any (A B : Nat) (s t : ByteArray) (h1 h2 : Option Addr) (c d : Ck) (ka1 ka2 : Option Addr) (kc1 kc2 : Nat) (v1 v2 : Nat) (w : World) (fc : Fits c) (fd : Fits d) (ac : Asc c) (ad : Asc d) (k1 : Knw w ka1 c) (k2 : Knw w ka2 d)
    (ea : Evt w A s h1 c ka1 kc1) (eb : Evt w B t h2 d ka2 kc2) (n1 : Cnt w h1 c ka1 kc1 s v1) (n2 : Cnt w h2 d ka2 kc2 s v2) :
    Calls Try.prog 28 #[.pointer (some ⟨A, 0, none⟩), .pointer (some ⟨B, 0, none⟩)] w (Iff' (AtM d c ∧ v2 < v1) w) := by
  have HM : Hid (∀ w1, Below w.heap.size w w1 → Calls Try.prog 33 #[Ckv h2 d ka2 kc2, Ckv h1 c ka1 kc1] w1 (Iff' (AtM d c) w1)) := fun w1 hb => atMost_any h2 h1 d c ka2 ka1 kc2 kc1 w1 fd fc ad ac (k2.below hb) (k1.below hb)
  have N1 : Hid (Cnt w h1 c ka1 kc1 s v1) := n1
  have N2 : Hid (Cnt w h2 d ka2 kc2 s v2) := n2
  have HS : Hid (∀ w', Below w.heap.size w w' → Below w.heap.size w w' ∧ w'.cell? ⟨A, 0, none⟩ = some (.string s) ∧ w'.cell? ⟨A, 1, none⟩ = some (.pointer h1) ∧ w'.cell? ⟨A, 2, none⟩ = some (.int .u32 c.own) ∧ w'.cell? ⟨A, 3, none⟩ = some (.int .u32 c.cn) ∧ w'.cell? ⟨A, 4, none⟩ = some (.slice ka1 c.kl kc1) ∧ w'.cell? ⟨B, 1, none⟩ = some (.pointer h2) ∧ w'.cell? ⟨B, 2, none⟩ = some (.int .u32 d.own) ∧ w'.cell? ⟨B, 3, none⟩ = some (.int .u32 d.cn) ∧ w'.cell? ⟨B, 4, none⟩ = some (.slice ka2 d.kl kc2)) := fun w' hb => by
    obtain ⟨x0, x1, x2, x3, x4⟩ := ea.below hb
    obtain ⟨_, y1, y2, y3, y4⟩ := eb.below hb
    exact ⟨hb, x0, x1, x2, x3, x4, y1, y2, y3, y4⟩
  have eA := ea
  have eB := eb
  clear n1 n2 fc fd ac ad k1 k2 ea eb
  unfold Cnt Ckv at *
  obtain ⟨a0, a1, a2, a3, a4⟩ := eA
  obtain ⟨_, b1, b2, b3, b4⟩ := eB
  by_cases hat : AtM d c
  · have HA : Hid (AtM d c) := hat
    clear hat
    have HF : Hid (∀ w', Below w.heap.size w w' → Iff' (AtM d c ∧ v2 < v1) w (.returned (.bool (decide (v2 < v1)))) w') := fun w' hb => ⟨_, rfl, ⟨fun h => ⟨HA.out, of_decide_eq_true h⟩, fun h => decide_eq_true h.2⟩, hb⟩
    go_enter Try.func28, Try.ntmps28
    go_wp2
    go_region_held3 (fun w' => Below w.heap.size w w' ∧ w'.cell? ⟨A, 0, none⟩ = some (.string s) ∧ w'.cell? ⟨A, 1, none⟩ = some (.pointer h1) ∧ w'.cell? ⟨A, 2, none⟩ = some (.int .u32 c.own) ∧ w'.cell? ⟨A, 3, none⟩ = some (.int .u32 c.cn) ∧ w'.cell? ⟨A, 4, none⟩ = some (.slice ka1 c.kl kc1) ∧ w'.cell? ⟨B, 1, none⟩ = some (.pointer h2) ∧ w'.cell? ⟨B, 2, none⟩ = some (.int .u32 d.own) ∧ w'.cell? ⟨B, 3, none⟩ = some (.int .u32 d.cn) ∧ w'.cell? ⟨B, 4, none⟩ = some (.slice ka2 d.kl kc2))
      (first | exact HS.out _ (Below.refl _ _).drew | exact HS.out _ (by assumption) | exact HS.out _ (below_trans (by assumption) (by assumption)))
      (first
        | (go_at_call 33; (with_reducible refine Calls.mono (HM.out _ ?_) ?_); (next => exact And.left (by assumption));  rintro e w2 ⟨r, rfl, hr, hb2⟩; obtain rfl : r = true := hr.2 HA.out; clear hr; have hbz : Below w.heap.size w w2 := below_trans (And.left (by assumption)) hb2)
        | (go_at_call 34; (with_reducible refine Calls.mono (N1.out _ ?_) ?_); (next => exact And.left (by assumption));  rintro e w3 ⟨rfl, hb3⟩; have hby : Below w.heap.size w w3 := below_trans (And.left (by assumption)) hb3)
        | (go_at_call 34; (with_reducible refine Calls.mono (N2.out _ ?_) ?_); (next => exact And.left (by assumption));  rintro e w4 ⟨rfl, hb4⟩; have hbx : Below w.heap.size w w4 := below_trans (And.left (by assumption)) hb4))
    all_goals (go_wp2; go_ret; exact HF.out _ (by assumption))
  · have HN : Hid (∀ w', Below w.heap.size w w' → Iff' (AtM d c ∧ v2 < v1) w (.returned (.bool false)) w') := fun w' hb => iff_no (fun h => hat h.1) hb
    have HA : Hid (¬ AtM d c) := hat
    clear hat N1 N2
    go_enter Try.func28, Try.ntmps28
    go_wp2
    refine wp_region_held_drew (S := (fun w' => Below w.heap.size w w' ∧ w'.cell? ⟨A, 0, none⟩ = some (.string s) ∧ w'.cell? ⟨A, 1, none⟩ = some (.pointer h1) ∧ w'.cell? ⟨A, 2, none⟩ = some (.int .u32 c.own) ∧ w'.cell? ⟨A, 3, none⟩ = some (.int .u32 c.cn) ∧ w'.cell? ⟨A, 4, none⟩ = some (.slice ka1 c.kl kc1) ∧ w'.cell? ⟨B, 1, none⟩ = some (.pointer h2) ∧ w'.cell? ⟨B, 2, none⟩ = some (.int .u32 d.own) ∧ w'.cell? ⟨B, 3, none⟩ = some (.int .u32 d.cn) ∧ w'.cell? ⟨B, 4, none⟩ = some (.slice ka2 d.kl kc2))) (by kernel_rfl) (HS.out _ (Below.refl _ _).drew) (fun hHeld => ?_)
    refine wpAnyH_take (i := 0) (v := ?_) rfl (by kernel_rfl) (by kernel_rfl) (by kernel_rfl) (fun _ _ _ h => h) (Or.inl ⟨by rfl, ?_⟩) (by assumption) ?_
    rotate_left
    · intro w hSw
      try dsimp only at hSw
      go_simp
      try with_reducible rfl
    try simp only [Act.put, List.getElem_toArray, List.getElem_cons_zero, List.getElem_cons_succ, List.setIfInBounds_toArray, List.set_cons_zero, List.set_cons_succ]
    refine wpAnyH_take (i := 1) (v := ?_) rfl (by kernel_rfl) (by kernel_rfl) (by kernel_rfl) (fun _ _ _ h => h) (Or.inl ⟨by rfl, ?_⟩) (by assumption) ?_
    rotate_left
    · intro w hSw
      try dsimp only at hSw
      go_simp
      try with_reducible rfl
    try simp only [Act.put, List.getElem_toArray, List.getElem_cons_zero, List.getElem_cons_succ, List.setIfInBounds_toArray, List.set_cons_zero, List.set_cons_succ]
    refine wpAnyH_take (i := 2) (v := ?_) rfl (by kernel_rfl) (by kernel_rfl) (by kernel_rfl) (fun _ _ _ h => h) (Or.inl ⟨by rfl, ?_⟩) (by assumption) ?_
    rotate_left
    · intro w hSw
      try dsimp only at hSw
      go_simp
      try with_reducible rfl
    try simp only [Act.put, List.getElem_toArray, List.getElem_cons_zero, List.getElem_cons_succ, List.setIfInBounds_toArray, List.set_cons_zero, List.set_cons_succ]
    refine wpAnyH_take (i := 3) (v := ?_) rfl (by kernel_rfl) (by kernel_rfl) (by kernel_rfl) (fun _ _ _ h => h) (Or.inl ⟨by rfl, ?_⟩) (by assumption) ?_
    rotate_left
    · intro w hSw
      try dsimp only at hSw
      go_simp
      try with_reducible rfl
    try simp only [Act.put, List.getElem_toArray, List.getElem_cons_zero, List.getElem_cons_succ, List.setIfInBounds_toArray, List.set_cons_zero, List.set_cons_succ]
    refine wpAnyH_take (i := 4) (v := ?_) rfl (by kernel_rfl) (by kernel_rfl) (by kernel_rfl) (fun _ _ _ h => h) (Or.inl ⟨by rfl, ?_⟩) (by assumption) ?_
    rotate_left
    · intro w hSw
      try dsimp only at hSw
      go_simp
      try with_reducible rfl
    try simp only [Act.put, List.getElem_toArray, List.getElem_cons_zero, List.getElem_cons_succ, List.setIfInBounds_toArray, List.set_cons_zero, List.set_cons_succ]
    refine wpAnyH_take (i := 5) (v := ?_) rfl (by kernel_rfl) (by kernel_rfl) (by kernel_rfl) (fun _ _ _ h => h) (Or.inl ⟨by rfl, ?_⟩) (by assumption) ?_
    rotate_left
    · intro w hSw
      try dsimp only at hSw
      go_simp
      try with_reducible rfl
    try simp only [Act.put, List.getElem_toArray, List.getElem_cons_zero, List.getElem_cons_succ, List.setIfInBounds_toArray, List.set_cons_zero, List.set_cons_succ]
    refine wpAnyH_take (i := 6) (v := ?_) rfl (by kernel_rfl) (by kernel_rfl) (by kernel_rfl) (fun _ _ _ h => h) (Or.inl ⟨by rfl, ?_⟩) (by assumption) ?_
    rotate_left
    · intro w hSw
      try dsimp only at hSw
      go_simp
      try with_reducible rfl
    try simp only [Act.put, List.getElem_toArray, List.getElem_cons_zero, List.getElem_cons_succ, List.setIfInBounds_toArray, List.set_cons_zero, List.set_cons_succ]
    refine wpAnyH_take (i := 7) (v := ?_) rfl (by kernel_rfl) (by kernel_rfl) (by kernel_rfl) (fun _ _ _ h => h) (Or.inl ⟨by rfl, ?_⟩) (by assumption) ?_
    rotate_left
    · intro w hSw
      try dsimp only at hSw
      go_simp
      try with_reducible rfl
    try simp only [Act.put, List.getElem_toArray, List.getElem_cons_zero, List.getElem_cons_succ, List.setIfInBounds_toArray, List.set_cons_zero, List.set_cons_succ]
    refine wpAnyH_ready (rs := [8]) (by kernel_rfl) (by simp) ?_
    refine AllReadyH.cons (o := { dst := some 13, op := Op.call { callee := Callee.value (Operand.func 33), args := #[Operand.tmp 8, Operand.tmp 12], argTypes := #[71, 71] }, type := 4, pos := _, after := #[{ on := 3, ground := Ground.data }, { on := 7, ground := Ground.data }], guard := none }) rfl (fun K hK => ?_) AllReadyH.nil
    go_simp
    refine Calls.mono (HM.out _ (Below.refl _ _).drew) ?_
    rintro e w2 ⟨r, rfl, hr, hb2⟩
    obtain rfl : r = false := (Bool.eq_false_or_eq_true r).elim (fun h => absurd (hr.1 h) HA.out) id
    clear hr
    have hbz : Below w.heap.size w w2 := below_trans (Below.refl _ _).drew hb2
    refine hK.out _ _ (HS.out _ hbz) (fun hHeld2 => ?_)
    clear hK K hHeld
    try simp only [Act.put, List.getElem_toArray, List.getElem_cons_zero, List.getElem_cons_succ, List.setIfInBounds_toArray, List.set_cons_zero, List.set_cons_succ]
    refine wpAnyH_take (i := 9) (v := ?_) rfl (by kernel_rfl) (by kernel_rfl) (by kernel_rfl) (fun _ _ _ h => h) (Or.inl ⟨by rfl, ?_⟩) (by assumption) ?_
    rotate_left
    · intro w hSw
      try dsimp only at hSw
      go_simp
      try with_reducible rfl
    try simp only [Act.put, List.getElem_toArray, List.getElem_cons_zero, List.getElem_cons_succ, List.setIfInBounds_toArray, List.set_cons_zero, List.set_cons_succ]
    refine wpAnyH_take (i := 10) rfl (by kernel_rfl) (by kernel_rfl) (by kernel_rfl) (fun _ _ _ h => h) (Or.inr ⟨by rfl, rfl⟩) (by assumption) ?_
    try simp only [Act.put, List.getElem_toArray, List.getElem_cons_zero, List.getElem_cons_succ, List.setIfInBounds_toArray, List.set_cons_zero, List.set_cons_succ]
    refine wpAnyH_take (i := 11) rfl (by kernel_rfl) (by kernel_rfl) (by kernel_rfl) (fun _ _ _ h => h) (Or.inr ⟨by rfl, rfl⟩) (by assumption) ?_
    try simp only [Act.put, List.getElem_toArray, List.getElem_cons_zero, List.getElem_cons_succ, List.setIfInBounds_toArray, List.set_cons_zero, List.set_cons_succ]
    refine wpAnyH_take (i := 12) rfl (by kernel_rfl) (by kernel_rfl) (by kernel_rfl) (fun _ _ _ h => h) (Or.inr ⟨by rfl, rfl⟩) (by assumption) ?_
    try simp only [Act.put, List.getElem_toArray, List.getElem_cons_zero, List.getElem_cons_succ, List.setIfInBounds_toArray, List.set_cons_zero, List.set_cons_succ]
    refine wpAnyH_take (i := 13) rfl (by kernel_rfl) (by kernel_rfl) (by kernel_rfl) (fun _ _ _ h => h) (Or.inr ⟨by rfl, rfl⟩) (by assumption) ?_
    try simp only [Act.put, List.getElem_toArray, List.getElem_cons_zero, List.getElem_cons_succ, List.setIfInBounds_toArray, List.set_cons_zero, List.set_cons_succ]
    refine wpAnyH_take (i := 14) rfl (by kernel_rfl) (by kernel_rfl) (by kernel_rfl) (fun _ _ _ h => h) (Or.inr ⟨by rfl, rfl⟩) (by assumption) ?_
    try simp only [Act.put, List.getElem_toArray, List.getElem_cons_zero, List.getElem_cons_succ, List.setIfInBounds_toArray, List.set_cons_zero, List.set_cons_succ]
    refine wpAnyH_take (i := 15) rfl (by kernel_rfl) (by kernel_rfl) (by kernel_rfl) (fun _ _ _ h => h) (Or.inr ⟨by rfl, rfl⟩) (by assumption) ?_
    try simp only [Act.put, List.getElem_toArray, List.getElem_cons_zero, List.getElem_cons_succ, List.setIfInBounds_toArray, List.set_cons_zero, List.set_cons_succ]
    refine wpAnyH_take (i := 16) rfl (by kernel_rfl) (by kernel_rfl) (by kernel_rfl) (fun _ _ _ h => h) (Or.inr ⟨by rfl, rfl⟩) (by assumption) ?_
    try simp only [Act.put, List.getElem_toArray, List.getElem_cons_zero, List.getElem_cons_succ, List.setIfInBounds_toArray, List.set_cons_zero, List.set_cons_succ]
    refine wpAnyH_take (i := 17) rfl (by kernel_rfl) (by kernel_rfl) (by kernel_rfl) (fun _ _ _ h => h) (Or.inr ⟨by rfl, rfl⟩) (by assumption) ?_
    try simp only [Act.put, List.getElem_toArray, List.getElem_cons_zero, List.getElem_cons_succ, List.setIfInBounds_toArray, List.set_cons_zero, List.set_cons_succ]
    refine wpAnyH_take (i := 18) rfl (by kernel_rfl) (by kernel_rfl) (by kernel_rfl) (fun _ _ _ h => h) (Or.inr ⟨by rfl, rfl⟩) (by assumption) ?_
    try simp only [Act.put, List.getElem_toArray, List.getElem_cons_zero, List.getElem_cons_succ, List.setIfInBounds_toArray, List.set_cons_zero, List.set_cons_succ]
    refine wpAnyH_take (i := 19) rfl (by kernel_rfl) (by kernel_rfl) (by kernel_rfl) (fun _ _ _ h => h) (Or.inr ⟨by rfl, rfl⟩) (by assumption) ?_
    try simp only [Act.put, List.getElem_toArray, List.getElem_cons_zero, List.getElem_cons_succ, List.setIfInBounds_toArray, List.set_cons_zero, List.set_cons_succ]
    refine wpAnyH_take (i := 20) rfl (by kernel_rfl) (by kernel_rfl) (by kernel_rfl) (fun _ _ _ h => h) (Or.inr ⟨by rfl, rfl⟩) (by assumption) ?_
    try simp only [Act.put, List.getElem_toArray, List.getElem_cons_zero, List.getElem_cons_succ, List.setIfInBounds_toArray, List.set_cons_zero, List.set_cons_succ]
    refine wpAnyH_take (i := 21) rfl (by kernel_rfl) (by kernel_rfl) (by kernel_rfl) (fun _ _ _ h => h) (Or.inr ⟨by rfl, rfl⟩) (by assumption) ?_
    try simp only [Act.put, List.getElem_toArray, List.getElem_cons_zero, List.getElem_cons_succ, List.setIfInBounds_toArray, List.set_cons_zero, List.set_cons_succ]
    refine wpAnyH_take (i := 22) rfl (by kernel_rfl) (by kernel_rfl) (by kernel_rfl) (fun _ _ _ h => h) (Or.inr ⟨by rfl, rfl⟩) (by assumption) ?_
    try simp only [Act.put, List.getElem_toArray, List.getElem_cons_zero, List.getElem_cons_succ, List.setIfInBounds_toArray, List.set_cons_zero, List.set_cons_succ]
    refine wpAnyH_take (i := 23) rfl (by kernel_rfl) (by kernel_rfl) (by kernel_rfl) (fun _ _ _ h => h) (Or.inr ⟨by rfl, rfl⟩) (by assumption) ?_
    try simp only [Act.put, List.getElem_toArray, List.getElem_cons_zero, List.getElem_cons_succ, List.setIfInBounds_toArray, List.set_cons_zero, List.set_cons_succ]
    refine wpAnyH_take (i := 24) rfl (by kernel_rfl) (by kernel_rfl) (by kernel_rfl) (fun _ _ _ h => h) (Or.inr ⟨by rfl, rfl⟩) (by assumption) ?_
    try simp only [Act.put, List.getElem_toArray, List.getElem_cons_zero, List.getElem_cons_succ, List.setIfInBounds_toArray, List.set_cons_zero, List.set_cons_succ]
    refine wpAnyH_take (i := 25) rfl (by kernel_rfl) (by kernel_rfl) (by kernel_rfl) (fun _ _ _ h => h) (Or.inr ⟨by rfl, rfl⟩) (by assumption) ?_
    try simp only [Act.put, List.getElem_toArray, List.getElem_cons_zero, List.getElem_cons_succ, List.setIfInBounds_toArray, List.set_cons_zero, List.set_cons_succ]
    refine wpAnyH_take (i := 26) rfl (by kernel_rfl) (by kernel_rfl) (by kernel_rfl) (fun _ _ _ h => h) (Or.inr ⟨by rfl, rfl⟩) (by assumption) ?_
    try simp only [Act.put, List.getElem_toArray, List.getElem_cons_zero, List.getElem_cons_succ, List.setIfInBounds_toArray, List.set_cons_zero, List.set_cons_succ]
    refine wpAnyH_take (i := 27) rfl (by kernel_rfl) (by kernel_rfl) (by kernel_rfl) (fun _ _ _ h => h) (Or.inr ⟨by rfl, rfl⟩) (by assumption) ?_
    try simp only [Act.put, List.getElem_toArray, List.getElem_cons_zero, List.getElem_cons_succ, List.setIfInBounds_toArray, List.set_cons_zero, List.set_cons_succ]
    refine wpAnyH_take (i := 28) rfl (by kernel_rfl) (by kernel_rfl) (by kernel_rfl) (fun _ _ _ h => h) (Or.inr ⟨by rfl, rfl⟩) (by assumption) ?_
    try simp only [Act.put, List.getElem_toArray, List.getElem_cons_zero, List.getElem_cons_succ, List.setIfInBounds_toArray, List.set_cons_zero, List.set_cons_succ]
    refine wpAnyH_take (i := 29) (v := ?_) rfl (by kernel_rfl) (by kernel_rfl) (by kernel_rfl) (fun _ _ _ h => h) (Or.inl ⟨by rfl, ?_⟩) (by assumption) ?_
    rotate_left
    · intro w hSw
      try dsimp only at hSw
      go_simp
      try with_reducible rfl
    try simp only [Act.put, List.getElem_toArray, List.getElem_cons_zero, List.getElem_cons_succ, List.setIfInBounds_toArray, List.set_cons_zero, List.set_cons_succ]
    refine wpAnyH_take (i := 30) (v := ?_) rfl (by kernel_rfl) (by kernel_rfl) (by kernel_rfl) (fun _ _ _ h => h) (Or.inl ⟨by rfl, ?_⟩) (by assumption) ?_
    rotate_left
    · intro w hSw
      try dsimp only at hSw
      go_simp
      try with_reducible rfl
    try simp only [Act.put, List.getElem_toArray, List.getElem_cons_zero, List.getElem_cons_succ, List.setIfInBounds_toArray, List.set_cons_zero, List.set_cons_succ]
    refine wpAnyH_done (by kernel_rfl) ?_ _
    go_wp2
    go_ret
    exact HN.out _ hbz

theorem zzknows_any (A B : Nat) (s t : ByteArray) (h1 h2 : Option Addr) (c d : Ck) (ka1 ka2 : Option Addr) (kc1 kc2 : Nat) (v1 v2 : Nat) (w : World) (fc : Fits c) (fd : Fits d) (ac : Asc c) (ad : Asc d) (k1 : Knw w ka1 c) (k2 : Knw w ka2 d)
    (ea : Evt w A s h1 c ka1 kc1) (eb : Evt w B t h2 d ka2 kc2) (n1 : Cnt w h1 c ka1 kc1 s v1) (n2 : Cnt w h2 d ka2 kc2 s v2) :
    Calls Try.prog 14 #[.pointer (some ⟨A, 0, none⟩), .pointer (some ⟨B, 0, none⟩)] w (Iff' (AtM d c ∧ v2 < v1) w) := by
  have H := knows_any A B s t h1 h2 c d ka1 ka2 kc1 kc2 v1 v2 w fc fd ac ad k1 k2 ea eb n1 n2
  have HH : Hid _ := H
  clear H n1 n2 fc fd ac ad k1 k2 ea eb
  go_enter Try.func14, Try.ntmps14
  go_wp2_with fail
  refine Calls.mono HH.out ?_
  rintro e w1 ⟨r, rfl, hr, hb⟩
  go_wp2
  go_ret
  exact ⟨r, rfl, hr, hb⟩
end Go.Proofs.Qxb6609005a
