import Derived.Test.Qxb6609020aOf
import Derived.WalkKit
import Derived.ProofKit
import Derived.WalkSpells
import Derived.WalkSmall
import Derived.BigQuiet
import Derived.Deep.QuietTactic
import Derived.Deep.RegionHeld3
set_option linter.unusedSimpArgs false
namespace Go.Proofs.Qxb6609020a
open Go.RowKit Go.Kx
theorem info40 : (Try.prog.info? 40).map (fun i => (i.zero, i.size, i.bytes)) = some (some (.agg #[.int .i64 0, .map none]), 2, 16) := by kernel_rfl
theorem mk_census (n : Nat) (hn : n ≤ 1048577) (w : World) : (Instr.makeSlice 29 (.int .i64 (n : Int)) (.int .i64 (n : Int))).run Try.prog w = .ok (.slice (some ⟨w.heap.size, 0, none⟩) n n) (w.alloc (.cells (madeCells #[.int .i64 0, .map none] (n * 2)) 40)) := by
  obtain ⟨i0, hi, hz0, hz1, hz2⟩ := info_parts info40
  have := run_make (P := Try.prog) w 29 40 i0 _ Try.underlying29 hi hz0 .i64 .i64 n n (by omega) (by omega) (by rw [hz2]; omega) (by omega)
  rw [this, hz1]
  simp [Value.cells]
theorem NM.set_other {w : World} {mv : Option Nat} {n : Nat} {f : List UInt8 → Option Int} (h : NM w mv n f) (B k : Nat) (hne : ∀ b, mv = some b → b ≠ B) (v : Value) : NM (w.setCell ⟨B, k, none⟩ v) mv n f := by
  cases mv with
  | none => exact h
  | some mb =>
    obtain ⟨D, ⟨es, clock, h1, h2⟩, hf⟩ := h
    exact ⟨D, ⟨es, clock, (Below.heap_setCell w _ v mb (hne mb rfl)).trans h1, h2⟩, hf⟩
/-- Counts 0 .. k-1 of block B are written; all 2n cells are there. -/
def CenK (w : World) (B n k : Nat) (f : Nat → List UInt8 → Option Int) : Prop := ∃ g : Nat → Value, Row w B (n * 2) g ∧ ∀ i, i < k → ∃ mv fl m, g (i * 2) = .int .i64 fl ∧ g (i * 2 + 1) = .map mv ∧ NM w mv m (f i) ∧ ∀ b, mv = some b → b ≠ B
theorem CenK.below {w w' : World} {B n k : Nat} {f : Nat → List UInt8 → Option Int} (h : CenK w B n k f) (hb : Below w.heap.size w w') (hB : B < w.heap.size) : CenK w' B n k f := by
  obtain ⟨g, h1, h2⟩ := h
  refine ⟨g, h1.below hb hB, fun i hi => ?_⟩
  obtain ⟨mv, fl, m, e1, e2, h3, h4⟩ := h2 i hi
  exact ⟨mv, fl, m, e1, e2, h3.below hb, h4⟩
theorem CenK.step {w : World} {B n k : Nat} {f : Nat → List UInt8 → Option Int} (h : CenK w B n k f) (hk : k < n) (fl : Int) (mv : Option Nat) (m : Nat) (hm : NM w mv m (f k)) (hne : ∀ b, mv = some b → b ≠ B) :
    CenK ((w.setCell ⟨B, k * 2, none⟩ (.int .i64 fl)).setCell ⟨B, k * 2 + 1, none⟩ (.map mv)) B n (k + 1) f := by
  obtain ⟨g, h1, h2⟩ := h
  refine ⟨_, (h1.set (k * 2) (by omega) _).set (k * 2 + 1) (by omega) _, fun i hi => ?_⟩
  by_cases e : i = k
  · subst e
    refine ⟨mv, fl, m, ?_, ?_, (hm.set_other B _ hne _).set_other B _ hne _, hne⟩
    · simp only [if_true]; rw [if_neg (by omega)]
    · simp only [if_true]
  · obtain ⟨mv', fl', m', e1, e2, h3, h4⟩ := h2 i (by omega)
    refine ⟨mv', fl', m', ?_, ?_, (h3.set_other B _ h4 _).set_other B _ h4 _, h4⟩
    · rw [if_neg (by omega), if_neg (by omega)]; exact e1
    · rw [if_neg (by omega), if_neg (by omega)]; exact e2
theorem CenK.cen {w : World} {B n : Nat} {f : Nat → List UInt8 → Option Int} (h : CenK w B n n f) : Cen w (some ⟨B, 0, none⟩) n f := fun i hi => by
  obtain ⟨g, h1, h2⟩ := h
  obtain ⟨mv, fl, m, e1, e2, h3, _⟩ := h2 i hi
  refine ⟨B, 0, mv, fl, m, rfl, ?_, ?_, h3⟩
  · rw [← e1, Nat.zero_add]; exact (h1 _ (by omega)).1
  · rw [← e2, Nat.zero_add]; exact (h1 _ (by omega)).1
/-- What zzBuildCensus leaves. -/
def CensusPost (n : Nat) (f : Nat → List UInt8 → Option Int) (w : World) (e : Ending) (w' : World) : Prop := ∃ ca : Option Addr, e = .returned (.slice ca n n) ∧ (ca = none → n = 0) ∧ (∀ a, ca = some a → ∃ b, a = ⟨b, 0, none⟩) ∧ Cen w' ca n f ∧ Below w.heap.size w w'
set_option maxRecDepth 100000 in
set_option maxHeartbeats 2000000 in
theorem census_any (fa : Option Addr) (fl fc : Nat) (fz : Nat → Int) (ka : Option Addr) (n kc : Nat) (KA : Nat → Option Addr) (KL KC : Nat → Nat) (km : Nat → Nat → ByteArray) (va : Option Addr) (m vc : Nat) (VA : Nat → Option Addr) (VL VC : Nat → Nat) (vz : Nat → Nat → Int) (w : World) (hn : n ≤ 1048576)
    (hF : Zs w fa fl fz) (k0 : ka = none → n = 0) (hK : Rw w ka n KA KL KC) (hN : ∀ i, i < n → Nms w (KA i) (KL i) (km i)) (hKl : ∀ i, i < n → KL i ≤ maxLen) (hK0 : ∀ i, i < n → KA i = none → KL i = 0) (hKs : ∀ i j, i < n → j < KL i → (km i j).size ≤ maxLen)
    (hV : Rw w va m VA VL VC) (hVo : ∀ i, m ≤ i → VA i = none ∧ VL i = 0 ∧ VC i = 0) (hZ : ∀ i, Zs w (VA i) (VL i) (vz i)) (hZw : ∀ i j, j < VL i → (Lit.int .i64 (vz i j)).wf = true) :
    Calls Try.prog 11 #[.slice fa fl fc, .slice ka n kc, .slice va m vc] w (CensusPost n (fun i => mp (km i) (vat (VL i) (vz i)) (KL i)) w) := by
  have e24 := fun w a n c => Lib.run_eql_slice_nil (P := Try.prog) w 24 _ a n c 0 0 Try.underlying24
  cases ka with
  | none =>
    obtain rfl : n = 0 := k0 rfl
    clear hF hK hN hKl hK0 hKs hV hVo hZ hZw
    go_enter Try.func11, Try.ntmps11
    go_wp2
    go_ret
    exact ⟨none, rfl, fun _ => rfl, (fun a h => by cases h), (fun i h => absurd h (Nat.not_lt_zero _)), Below.refl _ _⟩
  | some ad =>
    have C13 : Hid (∀ i w1, Below w.heap.size w w1 → Calls Try.prog 13 #[.slice va m vc, .int .i64 (i : Nat)] w1 fun e w' => e = .returned (.slice (VA i) (VL i) (VC i)) ∧ w' = w1) := fun i w1 hb => valsAt_any va m vc VA VL VC i w1 (hV.below hb) hVo
    have C17 : Hid (∀ i w1, i < n → Below w.heap.size w w1 → Calls Try.prog 17 #[.slice (KA i) (KL i) (KC i), .slice (VA i) (VL i) (VC i)] w1 (NamesPost (KL i) (mp (km i) (vat (VL i) (vz i)) (KL i)) w1)) := fun i w1 hi hb => buildNames_any (KA i) (KL i) (KC i) (km i) (VA i) (VL i) (VC i) (vz i) w1 (hKl i hi) (fun j hj => hKs i j hi hj) (hK0 i hi) ((hN i hi).below hb) ((hZ i).below hb) (hZw i)
    have hmk := mk_census n (by omega)
    have HF : Hid (Zs w fa fl fz) := hF
    have HK : Hid (Rw w (some ad) n KA KL KC) := hK
    clear hF hK hN hKl hK0 hKs hV hVo hZ hZw k0
    go_enter Try.func11, Try.ntmps11
    go_wp2
    go_loopw [8, 9] (fun kk _ wr => ∃ k : Nat, kk = .int .i64 k ∧ k ≤ n ∧ CenK wr w.heap.size n k (fun i => mp (km i) (vat (VL i) (vz i)) (KL i)) ∧ w.heap.size < wr.heap.size ∧ Below w.heap.size w wr) (fun kk _ _ => n - (intOf kk).toNat)
    case atStart => exact ⟨0, rfl, Nat.zero_le _, ⟨_, Row.made w _ (n * 2) 40, fun i h => absurd h (Nat.not_lt_zero _)⟩, by simp, below_alloc _ _⟩
    case round =>
      obtain ⟨k, rfl, hk, hcen, hsz, hb⟩ := hrel
      by_cases hkn : k < n
      · obtain ⟨b, off, hab, hc⟩ := HK.out.below hb k hkn
        injection hab with hab
        subst hab
        have hbB : b < w.heap.size := by
          obtain ⟨b', off', e, hc'⟩ := HK.out k hkn
          cases e
          exact cell_lt hc'
        have i1 : (0 : Int) ≤ (k : Int) := by omega
        have i2 : (k : Int) < (n : Int) := by omega
        have HCN : Hid (CenK wr w.heap.size n k (fun i => mp (km i) (vat (VL i) (vz i)) (KL i))) := hcen
        have C13k : Hid (∀ w1, Below wr.heap.size wr w1 → Calls Try.prog 13 #[.slice va m vc, .int .i64 (k : Nat)] w1 fun e w' => e = .returned (.slice (VA k) (VL k) (VC k)) ∧ w' = w1) := fun w1 h1 => C13.out k w1 (below_trans hb h1)
        have C17k : Hid (∀ w1, Below wr.heap.size wr w1 → Calls Try.prog 17 #[.slice (KA k) (KL k) (KC k), .slice (VA k) (VL k) (VC k)] w1 (NamesPost (KL k) (mp (km k) (vat (VL k) (vz k)) (KL k)) w1)) := fun w1 h1 => C17.out k w1 hkn (below_trans hb h1)
        have HS : Hid (∀ w', Below w.heap.size wr w' → w'.cell? ⟨b, off + k, none⟩ = some (.slice (KA k) (KL k) (KC k))) := fun w' h => (h.cell (p := ⟨b, off + k, none⟩) hbB).trans hc
        have HBW : Hid (Below w.heap.size w wr) := hb
        have HKEEP : Hid (Zs wr fa fl fz) := HF.out.below hb
        clear C13 C17 hcen hmk HK HF hb
        obtain ⟨fv, hfv⟩ : ∃ fv, fv = vat fl fz k := ⟨_, rfl⟩
        by_cases hfl : k < fl
        · obtain ⟨bf, of, rfl, hcf⟩ := HKEEP.out k hfl
          generalize fz k = fv2 at *
          clear hfv HKEEP
          go_wp2
          refine wp_region_held_drew (S := (fun w' => w'.cell? ⟨b, off + k, none⟩ = some (.slice (KA k) (KL k) (KC k)))) (by kernel_rfl) (HS.out _ (Below.refl _ _).drew) (fun hHeld => ?_)
          refine wpAnyH_take (i := 0) (v := ?_) rfl (by kernel_rfl) (by kernel_rfl) (by kernel_rfl) (fun _ _ _ h => h) (Or.inl ⟨by rfl, ?_⟩) (by assumption) ?_
          rotate_left
          · intro w hSw
            try dsimp only at hSw
            go_simp
            try with_reducible rfl
          try simp only [Act.put, List.getElem_toArray, List.getElem_cons_zero, List.getElem_cons_succ, List.setIfInBounds_toArray, List.set_cons_zero, List.set_cons_succ]
          refine wpAnyH_take (i := 1) (v := ?_) rfl (by kernel_rfl) (by kernel_rfl) (by kernel_rfl) (fun _ _ _ h => h) (Or.inl ⟨by rfl, ?_⟩) (by assumption) ?_
          rotate_left
          · intro w hSw
            try dsimp only at hSw
            go_simp
            try with_reducible rfl
          try simp only [Act.put, List.getElem_toArray, List.getElem_cons_zero, List.getElem_cons_succ, List.setIfInBounds_toArray, List.set_cons_zero, List.set_cons_succ]
          refine wpAnyH_take (i := 2) (v := ?_) rfl (by kernel_rfl) (by kernel_rfl) (by kernel_rfl) (fun _ _ _ h => h) (Or.inl ⟨by rfl, ?_⟩) (by assumption) ?_
          rotate_left
          · intro w hSw
            try dsimp only at hSw
            go_simp
            try with_reducible rfl
          try simp only [Act.put, List.getElem_toArray, List.getElem_cons_zero, List.getElem_cons_succ, List.setIfInBounds_toArray, List.set_cons_zero, List.set_cons_succ]
          refine wpAnyH_take (i := 3) (v := ?_) rfl (by kernel_rfl) (by kernel_rfl) (by kernel_rfl) (fun _ _ _ h => h) (Or.inl ⟨by rfl, ?_⟩) (by assumption) ?_
          rotate_left
          · intro w hSw
            try dsimp only at hSw
            go_simp
            try with_reducible rfl
          try simp only [Act.put, List.getElem_toArray, List.getElem_cons_zero, List.getElem_cons_succ, List.setIfInBounds_toArray, List.set_cons_zero, List.set_cons_succ]
          refine wpAnyH_take (i := 4) (v := ?_) rfl (by kernel_rfl) (by kernel_rfl) (by kernel_rfl) (fun _ _ _ h => h) (Or.inl ⟨by rfl, ?_⟩) (by assumption) ?_
          rotate_left
          · intro w hSw
            try dsimp only at hSw
            go_simp
            try with_reducible rfl
          try simp only [Act.put, List.getElem_toArray, List.getElem_cons_zero, List.getElem_cons_succ, List.setIfInBounds_toArray, List.set_cons_zero, List.set_cons_succ]
          refine wpAnyH_take (i := 5) (v := ?_) rfl (by kernel_rfl) (by kernel_rfl) (by kernel_rfl) (fun _ _ _ h => h) (Or.inl ⟨by rfl, ?_⟩) (by assumption) ?_
          rotate_left
          · intro w hSw
            try dsimp only at hSw
            go_simp
            try with_reducible rfl
          try simp only [Act.put, List.getElem_toArray, List.getElem_cons_zero, List.getElem_cons_succ, List.setIfInBounds_toArray, List.set_cons_zero, List.set_cons_succ]
          refine wpAnyH_take (i := 6) (v := ?_) rfl (by kernel_rfl) (by kernel_rfl) (by kernel_rfl) (fun _ _ _ h => h) (Or.inl ⟨by rfl, ?_⟩) (by assumption) ?_
          rotate_left
          · intro w hSw
            try dsimp only at hSw
            go_simp
            try with_reducible rfl
          try simp only [Act.put, List.getElem_toArray, List.getElem_cons_zero, List.getElem_cons_succ, List.setIfInBounds_toArray, List.set_cons_zero, List.set_cons_succ]
          refine wpAnyH_take (i := 7) (v := ?_) rfl (by kernel_rfl) (by kernel_rfl) (by kernel_rfl) (fun _ _ _ h => h) (Or.inl ⟨by rfl, ?_⟩) (by assumption) ?_
          rotate_left
          · intro w hSw
            try dsimp only at hSw
            go_simp
            try with_reducible rfl
          try simp only [Act.put, List.getElem_toArray, List.getElem_cons_zero, List.getElem_cons_succ, List.setIfInBounds_toArray, List.set_cons_zero, List.set_cons_succ]
          refine wpAnyH_take (i := 8) (v := ?_) rfl (by kernel_rfl) (by kernel_rfl) (by kernel_rfl) (fun _ _ _ h => h) (Or.inl ⟨by rfl, ?_⟩) (by assumption) ?_
          rotate_left
          · intro w hSw
            try dsimp only at hSw
            go_simp
            try with_reducible rfl
          try simp only [Act.put, List.getElem_toArray, List.getElem_cons_zero, List.getElem_cons_succ, List.setIfInBounds_toArray, List.set_cons_zero, List.set_cons_succ]
          refine wpAnyH_ready (rs := [9]) (by kernel_rfl) (by simp) ?_
          refine AllReadyH.cons (o := { dst := some 38, op := Op.call { callee := Callee.value (Operand.func 13), args := #[Operand.tmp 36, Operand.tmp 37], argTypes := #[25, 3] }, type := 23, pos := _, after := #[{ on := 7, ground := Ground.data }, { on := 8, ground := Ground.data }], guard := none }) rfl (fun K hK => ?_) AllReadyH.nil
          go_simp
          refine Calls.mono (C13k.out _ (Below.refl _ _).drew) ?_
          rintro e w2 ⟨rfl, rfl⟩
          refine hK.out _ _ hHeld (fun hHeld2 => ?_)
          clear hK K hHeld
          try simp only [Act.put, List.getElem_toArray, List.getElem_cons_zero, List.getElem_cons_succ, List.setIfInBounds_toArray, List.set_cons_zero, List.set_cons_succ]
          refine wpAnyH_ready (rs := [10]) (by kernel_rfl) (by simp) ?_
          refine AllReadyH.cons (o := { dst := some 39, op := Op.call { callee := Callee.value (Operand.func 17), args := #[Operand.tmp 35, Operand.tmp 38], argTypes := #[32, 23] }, type := 37, pos := _, after := #[{ on := 6, ground := Ground.data }, { on := 9, ground := Ground.data }, { on := 9, ground := Ground.chain }], guard := none }) rfl (fun K hK => ?_) AllReadyH.nil
          go_simp
          refine Calls.mono (C17k.out _ (Below.refl _ _).drew) ?_
          rintro e w3 ⟨mv, rfl, hnm, hge, hb3⟩
          have hB3 : Below wr.heap.size wr w3 := below_trans (Below.refl _ _).drew hb3
          refine hK.out _ _ (HS.out _ (hB3.mono (by omega))) (fun hHeld3 => ?_)
          clear hK K hHeld2
          try simp only [Act.put, List.getElem_toArray, List.getElem_cons_zero, List.getElem_cons_succ, List.setIfInBounds_toArray, List.set_cons_zero, List.set_cons_succ]
          refine wpAnyH_take (i := 11) (v := ?_) rfl (by kernel_rfl) (by kernel_rfl) (by kernel_rfl) (fun _ _ _ h => h) (Or.inl ⟨by rfl, ?_⟩) (by assumption) ?_
          rotate_left
          · intro w hSw
            try dsimp only at hSw
            go_simp
            try with_reducible rfl
          try simp only [Act.put, List.getElem_toArray, List.getElem_cons_zero, List.getElem_cons_succ, List.setIfInBounds_toArray, List.set_cons_zero, List.set_cons_succ]
          refine wpAnyH_take (i := 12) (v := ?_) rfl (by kernel_rfl) (by kernel_rfl) (by kernel_rfl) (fun _ _ _ h => h) (Or.inl ⟨by rfl, ?_⟩) (by assumption) ?_
          rotate_left
          · intro w hSw
            try dsimp only at hSw
            go_simp
            try with_reducible rfl
          try simp only [Act.put, List.getElem_toArray, List.getElem_cons_zero, List.getElem_cons_succ, List.setIfInBounds_toArray, List.set_cons_zero, List.set_cons_succ]
          have hcn3 : CenK w3 w.heap.size n k (fun i => mp (km i) (vat (VL i) (vz i)) (KL i)) := HCN.out.below hB3 hsz
          have HCS : Hid (CenK ((w3.setCell ⟨w.heap.size, k * 2, none⟩ (.int .i64 fv2)).setCell ⟨w.heap.size, k * 2 + 1, none⟩ (.map mv)) w.heap.size n (k + 1) (fun i => mp (km i) (vat (VL i) (vz i)) (KL i))) := hcn3.step hkn fv2 mv (KL k) hnm (fun b' h => by have := hge b' h; simp at this; omega)
          have HBS : Hid (Below w.heap.size w3 ((w3.setCell ⟨w.heap.size, k * 2, none⟩ (.int .i64 fv2)).setCell ⟨w.heap.size, k * 2 + 1, none⟩ (.map mv))) := Below.setCell (p := ⟨w.heap.size, k * 2 + 1, none⟩) (Below.setCell (p := ⟨w.heap.size, k * 2, none⟩) (Below.refl _ _) (Nat.le_refl _) _) (Nat.le_refl _) _
          have HBT : Hid (Below w.heap.size wr ((w3.setCell ⟨w.heap.size, k * 2, none⟩ (.int .i64 fv2)).setCell ⟨w.heap.size, k * 2 + 1, none⟩ (.map mv))) := (hB3.mono (by omega)).trans HBS.out
          obtain ⟨g, hrow, _⟩ := hcn3
          have r0 := (hrow (k * 2) (by omega)).1
          have r1 := (hrow (k * 2 + 1) (by omega)).1
          have f0 := (hrow (k * 2) (by omega)).2
          have f1 := (hrow (k * 2 + 1) (by omega)).2
          have hsz3 : Hid (w.heap.size < w3.heap.size) := Nat.lt_of_lt_of_le hsz hB3.size
          clear hrow hnm hge hb3 hB3 HCN C13k C17k
          refine wpAnyH_ready (rs := [13]) (by kernel_rfl) (by simp) ?_
          refine AllReadyH.cons (o := { dst := none, op := Op.store 40 (Operand.tmp 41) (Operand.tmp 40), type := 0, pos := _, after := #[{ on := 12, ground := Ground.data }, { on := 11, ground := Ground.data }, { on := 10, ground := Ground.chain }, { on := 0, ground := Ground.phase }, { on := 1, ground := Ground.phase }, { on := 2, ground := Ground.phase }, { on := 3, ground := Ground.phase }, { on := 4, ground := Ground.phase }, { on := 5, ground := Ground.phase }, { on := 6, ground := Ground.phase }, { on := 7, ground := Ground.phase }, { on := 8, ground := Ground.phase }, { on := 9, ground := Ground.phase }, { on := 10, ground := Ground.phase }, { on := 11, ground := Ground.phase }], guard := none }) rfl (fun K hK => ?_) AllReadyH.nil
          go_simp
          refine hK.out _ _ (HS.out _ HBT.out) (fun hHeld4 => ?_)
          clear hK K hHeld3
          try simp only [Act.put, List.getElem_toArray, List.getElem_cons_zero, List.getElem_cons_succ, List.setIfInBounds_toArray, List.set_cons_zero, List.set_cons_succ]
          refine wpAnyH_done (by kernel_rfl) ?_ _
          go_wp2
          go_roundw
          case rel => exact ⟨k + 1, by go_num, by omega, HCS.out, by simpa [World.setCell] using hsz3.out, HBW.out.trans HBT.out⟩
          case measure => simp [intOf]; omega
        · clear hfv HKEEP
          go_wp2
          refine wp_region_held_drew (S := (fun w' => w'.cell? ⟨b, off + k, none⟩ = some (.slice (KA k) (KL k) (KC k)))) (by kernel_rfl) (HS.out _ (Below.refl _ _).drew) (fun hHeld => ?_)
          refine wpAnyH_take (i := 0) (v := ?_) rfl (by kernel_rfl) (by kernel_rfl) (by kernel_rfl) (fun _ _ _ h => h) (Or.inl ⟨by rfl, ?_⟩) (by assumption) ?_
          rotate_left
          · intro w hSw
            try dsimp only at hSw
            go_simp
            try with_reducible rfl
          try simp only [Act.put, List.getElem_toArray, List.getElem_cons_zero, List.getElem_cons_succ, List.setIfInBounds_toArray, List.set_cons_zero, List.set_cons_succ]
          refine wpAnyH_take (i := 1) (v := ?_) rfl (by kernel_rfl) (by kernel_rfl) (by kernel_rfl) (fun _ _ _ h => h) (Or.inl ⟨by rfl, ?_⟩) (by assumption) ?_
          rotate_left
          · intro w hSw
            try dsimp only at hSw
            go_simp
            try with_reducible rfl
          try simp only [Act.put, List.getElem_toArray, List.getElem_cons_zero, List.getElem_cons_succ, List.setIfInBounds_toArray, List.set_cons_zero, List.set_cons_succ]
          refine wpAnyH_take (i := 2) (v := ?_) rfl (by kernel_rfl) (by kernel_rfl) (by kernel_rfl) (fun _ _ _ h => h) (Or.inl ⟨by rfl, ?_⟩) (by assumption) ?_
          rotate_left
          · intro w hSw
            try dsimp only at hSw
            go_simp
            try with_reducible rfl
          try simp only [Act.put, List.getElem_toArray, List.getElem_cons_zero, List.getElem_cons_succ, List.setIfInBounds_toArray, List.set_cons_zero, List.set_cons_succ]
          refine wpAnyH_take (i := 3) (v := ?_) rfl (by kernel_rfl) (by kernel_rfl) (by kernel_rfl) (fun _ _ _ h => h) (Or.inl ⟨by rfl, ?_⟩) (by assumption) ?_
          rotate_left
          · intro w hSw
            try dsimp only at hSw
            go_simp
            try with_reducible rfl
          try simp only [Act.put, List.getElem_toArray, List.getElem_cons_zero, List.getElem_cons_succ, List.setIfInBounds_toArray, List.set_cons_zero, List.set_cons_succ]
          refine wpAnyH_take (i := 4) (v := ?_) rfl (by kernel_rfl) (by kernel_rfl) (by kernel_rfl) (fun _ _ _ h => h) (Or.inl ⟨by rfl, ?_⟩) (by assumption) ?_
          rotate_left
          · intro w hSw
            try dsimp only at hSw
            go_simp
            try with_reducible rfl
          try simp only [Act.put, List.getElem_toArray, List.getElem_cons_zero, List.getElem_cons_succ, List.setIfInBounds_toArray, List.set_cons_zero, List.set_cons_succ]
          refine wpAnyH_take (i := 5) (v := ?_) rfl (by kernel_rfl) (by kernel_rfl) (by kernel_rfl) (fun _ _ _ h => h) (Or.inl ⟨by rfl, ?_⟩) (by assumption) ?_
          rotate_left
          · intro w hSw
            try dsimp only at hSw
            go_simp
            try with_reducible rfl
          try simp only [Act.put, List.getElem_toArray, List.getElem_cons_zero, List.getElem_cons_succ, List.setIfInBounds_toArray, List.set_cons_zero, List.set_cons_succ]
          refine wpAnyH_take (i := 6) (v := ?_) rfl (by kernel_rfl) (by kernel_rfl) (by kernel_rfl) (fun _ _ _ h => h) (Or.inl ⟨by rfl, ?_⟩) (by assumption) ?_
          rotate_left
          · intro w hSw
            try dsimp only at hSw
            go_simp
            try with_reducible rfl
          try simp only [Act.put, List.getElem_toArray, List.getElem_cons_zero, List.getElem_cons_succ, List.setIfInBounds_toArray, List.set_cons_zero, List.set_cons_succ]
          refine wpAnyH_take (i := 7) (v := ?_) rfl (by kernel_rfl) (by kernel_rfl) (by kernel_rfl) (fun _ _ _ h => h) (Or.inl ⟨by rfl, ?_⟩) (by assumption) ?_
          rotate_left
          · intro w hSw
            try dsimp only at hSw
            go_simp
            try with_reducible rfl
          try simp only [Act.put, List.getElem_toArray, List.getElem_cons_zero, List.getElem_cons_succ, List.setIfInBounds_toArray, List.set_cons_zero, List.set_cons_succ]
          refine wpAnyH_take (i := 8) (v := ?_) rfl (by kernel_rfl) (by kernel_rfl) (by kernel_rfl) (fun _ _ _ h => h) (Or.inl ⟨by rfl, ?_⟩) (by assumption) ?_
          rotate_left
          · intro w hSw
            try dsimp only at hSw
            go_simp
            try with_reducible rfl
          try simp only [Act.put, List.getElem_toArray, List.getElem_cons_zero, List.getElem_cons_succ, List.setIfInBounds_toArray, List.set_cons_zero, List.set_cons_succ]
          refine wpAnyH_ready (rs := [9]) (by kernel_rfl) (by simp) ?_
          refine AllReadyH.cons (o := { dst := some 38, op := Op.call { callee := Callee.value (Operand.func 13), args := #[Operand.tmp 36, Operand.tmp 37], argTypes := #[25, 3] }, type := 23, pos := _, after := #[{ on := 7, ground := Ground.data }, { on := 8, ground := Ground.data }], guard := none }) rfl (fun K hK => ?_) AllReadyH.nil
          go_simp
          refine Calls.mono (C13k.out _ (Below.refl _ _).drew) ?_
          rintro e w2 ⟨rfl, rfl⟩
          refine hK.out _ _ hHeld (fun hHeld2 => ?_)
          clear hK K hHeld
          try simp only [Act.put, List.getElem_toArray, List.getElem_cons_zero, List.getElem_cons_succ, List.setIfInBounds_toArray, List.set_cons_zero, List.set_cons_succ]
          refine wpAnyH_ready (rs := [10]) (by kernel_rfl) (by simp) ?_
          refine AllReadyH.cons (o := { dst := some 39, op := Op.call { callee := Callee.value (Operand.func 17), args := #[Operand.tmp 35, Operand.tmp 38], argTypes := #[32, 23] }, type := 37, pos := _, after := #[{ on := 6, ground := Ground.data }, { on := 9, ground := Ground.data }, { on := 9, ground := Ground.chain }], guard := none }) rfl (fun K hK => ?_) AllReadyH.nil
          go_simp
          refine Calls.mono (C17k.out _ (Below.refl _ _).drew) ?_
          rintro e w3 ⟨mv, rfl, hnm, hge, hb3⟩
          have hB3 : Below wr.heap.size wr w3 := below_trans (Below.refl _ _).drew hb3
          refine hK.out _ _ (HS.out _ (hB3.mono (by omega))) (fun hHeld3 => ?_)
          clear hK K hHeld2
          try simp only [Act.put, List.getElem_toArray, List.getElem_cons_zero, List.getElem_cons_succ, List.setIfInBounds_toArray, List.set_cons_zero, List.set_cons_succ]
          refine wpAnyH_take (i := 11) (v := ?_) rfl (by kernel_rfl) (by kernel_rfl) (by kernel_rfl) (fun _ _ _ h => h) (Or.inl ⟨by rfl, ?_⟩) (by assumption) ?_
          rotate_left
          · intro w hSw
            try dsimp only at hSw
            go_simp
            try with_reducible rfl
          try simp only [Act.put, List.getElem_toArray, List.getElem_cons_zero, List.getElem_cons_succ, List.setIfInBounds_toArray, List.set_cons_zero, List.set_cons_succ]
          refine wpAnyH_take (i := 12) (v := ?_) rfl (by kernel_rfl) (by kernel_rfl) (by kernel_rfl) (fun _ _ _ h => h) (Or.inl ⟨by rfl, ?_⟩) (by assumption) ?_
          rotate_left
          · intro w hSw
            try dsimp only at hSw
            go_simp
            try with_reducible rfl
          try simp only [Act.put, List.getElem_toArray, List.getElem_cons_zero, List.getElem_cons_succ, List.setIfInBounds_toArray, List.set_cons_zero, List.set_cons_succ]
          have hcn3 : CenK w3 w.heap.size n k (fun i => mp (km i) (vat (VL i) (vz i)) (KL i)) := HCN.out.below hB3 hsz
          have HCS : Hid (CenK ((w3.setCell ⟨w.heap.size, k * 2, none⟩ (.int .i64 0)).setCell ⟨w.heap.size, k * 2 + 1, none⟩ (.map mv)) w.heap.size n (k + 1) (fun i => mp (km i) (vat (VL i) (vz i)) (KL i))) := hcn3.step hkn 0 mv (KL k) hnm (fun b' h => by have := hge b' h; simp at this; omega)
          have HBS : Hid (Below w.heap.size w3 ((w3.setCell ⟨w.heap.size, k * 2, none⟩ (.int .i64 0)).setCell ⟨w.heap.size, k * 2 + 1, none⟩ (.map mv))) := Below.setCell (p := ⟨w.heap.size, k * 2 + 1, none⟩) (Below.setCell (p := ⟨w.heap.size, k * 2, none⟩) (Below.refl _ _) (Nat.le_refl _) _) (Nat.le_refl _) _
          have HBT : Hid (Below w.heap.size wr ((w3.setCell ⟨w.heap.size, k * 2, none⟩ (.int .i64 0)).setCell ⟨w.heap.size, k * 2 + 1, none⟩ (.map mv))) := (hB3.mono (by omega)).trans HBS.out
          obtain ⟨g, hrow, _⟩ := hcn3
          have r0 := (hrow (k * 2) (by omega)).1
          have r1 := (hrow (k * 2 + 1) (by omega)).1
          have f0 := (hrow (k * 2) (by omega)).2
          have f1 := (hrow (k * 2 + 1) (by omega)).2
          have hsz3 : Hid (w.heap.size < w3.heap.size) := Nat.lt_of_lt_of_le hsz hB3.size
          clear hrow hnm hge hb3 hB3 HCN C13k C17k
          refine wpAnyH_ready (rs := [13]) (by kernel_rfl) (by simp) ?_
          refine AllReadyH.cons (o := { dst := none, op := Op.store 40 (Operand.tmp 41) (Operand.tmp 40), type := 0, pos := _, after := #[{ on := 12, ground := Ground.data }, { on := 11, ground := Ground.data }, { on := 10, ground := Ground.chain }, { on := 0, ground := Ground.phase }, { on := 1, ground := Ground.phase }, { on := 2, ground := Ground.phase }, { on := 3, ground := Ground.phase }, { on := 4, ground := Ground.phase }, { on := 5, ground := Ground.phase }, { on := 6, ground := Ground.phase }, { on := 7, ground := Ground.phase }, { on := 8, ground := Ground.phase }, { on := 9, ground := Ground.phase }, { on := 10, ground := Ground.phase }, { on := 11, ground := Ground.phase }], guard := none }) rfl (fun K hK => ?_) AllReadyH.nil
          go_simp
          refine hK.out _ _ (HS.out _ HBT.out) (fun hHeld4 => ?_)
          clear hK K hHeld3
          try simp only [Act.put, List.getElem_toArray, List.getElem_cons_zero, List.getElem_cons_succ, List.setIfInBounds_toArray, List.set_cons_zero, List.set_cons_succ]
          refine wpAnyH_done (by kernel_rfl) ?_ _
          go_wp2
          go_roundw
          case rel => exact ⟨k + 1, by go_num, by omega, HCS.out, by simpa [World.setCell] using hsz3.out, HBW.out.trans HBT.out⟩
          case measure => simp [intOf]; omega
      · obtain rfl : k = n := by omega
        have HCN : Hid (CenK wr w.heap.size k k (fun i => mp (km i) (vat (VL i) (vz i)) (KL i))) := hcen
        clear hcen hmk C13 C17 HK HF
        go_wp2
        go_ret
        exact ⟨_, rfl, (fun h => by cases h), (fun a h => by injection h with h; exact ⟨_, h.symm⟩), HCN.out.cen, hb⟩
end Go.Proofs.Qxb6609020a
