import Derived.Test.Qxb6609020aHash
import Derived.Laws.IdiomStrings
import Derived.WalkKit
import Derived.ProofKit
import Derived.WalkSpells
import Derived.WalkSmall
import Derived.BigQuiet
import Derived.Deep.QuietTactic
import Derived.Deep.RegionHeld3
set_option linter.unusedSimpArgs false
namespace Go.Proofs.Qxb6609020a
open Go.RowKit Go.Kx
theorem cell_new (w : World) (c : Array Value) (t : TypeId) (fr : Nat × Nat) (i : Nat) : (w.alloc (.cells c t fr)).cell? ⟨w.heap.size, i, none⟩ = c[i]? := by
  have h : (w.alloc (.cells c t fr)).heap[w.heap.size]? = some (.cells c t fr) := by
    show (w.heap.push (.cells c t fr))[w.heap.size]? = _
    simp
  unfold World.cell?
  rw [h]
  simp
theorem Bts.conv (w : World) (s : ByteArray) (cap : Nat) (t : TypeId) (fr : Nat × Nat) : Bts (w.alloc (.cells (bytesRow s cap) t fr)) w.heap.size s.size (byt s) := fun i hi => by
  rw [cell_new, bytesRow_at s cap i hi, byt_at s hi]
  rfl
set_option maxRecDepth 100000 in
theorem shardOf_any (s : ByteArray) (hs : s.size ≤ maxLen) (w : World) : Calls Try.prog 21 #[.string s] w fun e w' => e = .returned (.int .u16 (shd s)) ∧ Below w.heap.size w w' := by
  have hcv := fun w => run_bytes_of_string (P := Try.prog) w 9 41 5 s Try.underlying9 Try.underlying41 Try.underlying5
  have e : IntKind.u16.wrap (mixp (hsh 14695981039346656037 (byt s) s.size) / 4503599627370496) = (shd s : Int) := by
    rw [(shd_eq s).1]
    have := (shd_eq s).2
    simp [IntKind.wrap, IntKind.bits, IntKind.signed]
    omega
  go_enter Try.func21, Try.ntmps21
  go_wp2_with fail
  generalize grownCap w s.size 0 5 = cap
  generalize ((bytesRow s cap).size, (bytesRow s cap).size + 1) = fr
  have B1 := Bts.conv w s cap 5 fr
  have b1 := below_alloc w (.cells (bytesRow s cap) 5 fr)
  have hsz : (w.alloc (.cells (bytesRow s cap) 5 fr)).heap.size = w.heap.size + 1 := by simp
  generalize w.alloc (.cells (bytesRow s cap) 5 fr) = A1 at *
  have b2 := below_alloc A1 (.cells #[.slice (some ⟨w.heap.size, 0, none⟩) s.size cap] 41)
  have B2 := B1.below b2
  have g2 := cell_new A1 #[.slice (some ⟨w.heap.size, 0, none⟩) s.size cap] 41 (0, 0) 0
  rw [hsz] at g2
  refine Calls.mono (shards22 (w.heap.size + 1) 1 w.heap.size s.size cap (byt s) _ hs g2 B2) ?_
  rintro e' w' ⟨rfl, hb⟩
  have hbb := below_trans (below_trans b1 b2).drew hb
  rw [e]
  go_wp2
  go_ret
  exact ⟨rfl, hbb⟩
theorem ix16 (b off n sc r : Nat) (h : r < n) (w : World) : (Instr.indexAt 41 (.slice (some ⟨b, off, none⟩) n sc) (.int .u16 (r : Int))).run Try.prog w = .ok (.pointer (some ⟨b, off + r, none⟩)) w := by
  have i1 : (0 : Int) ≤ (r : Int) := by omega
  have i2 : (r : Int) < (n : Int) := by omega
  go_simp
theorem exec_indexAddr {P : Program} {a : Act} {o : Oper} {t : TypeId} {x ix : Operand} {v : Value} {w : World} (hop : o.op = Op.indexAddr t x ix) (h : (Instr.indexAt t (a.eval x) (a.eval ix)).run P w = .ok v w) : (execOp a.eval o).run P w = .ok (.value v) w := by
  simp [execOp, hop, h, Result.andThen]
set_option maxRecDepth 100000 in
set_option maxHeartbeats 1000000 in
theorem owner_any (a0 : Option Addr) (n0 c0 : Nat) (b off n sc : Nat) (mv : Option Nat) (ver rul : Int) (u : Int) (s : ByteArray) (r : Nat) (w : World) (C21 : Hid (∀ w1, Calls Try.prog 21 #[.string s] w1 fun e w' => e = .returned (.int .u16 r) ∧ Below w1.heap.size w1 w')) (hl : r < n) (hu : w.cell? ⟨b, off + r, none⟩ = some (.int .u8 u)) :
    Calls Try.prog 20 #[.agg #[.slice a0 n0 c0, .slice (some ⟨b, off, none⟩) n sc, .map mv, .int .u64 ver, .int .u8 rul], .string s] w fun e w' => e = .returned (.int .i64 (IntKind.i64.wrap u)) ∧ Below w.heap.size w w' := by
  have hbl := cell_lt hu
  have i1 : (0 : Int) ≤ (r : Int) := by omega
  have i2 : (r : Int) < (n : Int) := by omega
  obtain ⟨A, hA⟩ : ∃ A : World, A = w.alloc (.cells #[.slice a0 n0 c0, .slice (some ⟨b, off, none⟩) n sc, .map mv, .int .u64 ver, .int .u8 rul] 50) := ⟨_, rfl⟩
  have hbA : Below w.heap.size w A := by rw [hA]; exact below_alloc _ _
  have hA1 : A.cell? ⟨w.heap.size, 1, none⟩ = some (.slice (some ⟨b, off, none⟩) n sc) := by rw [hA, cell_new]; rfl
  have HS : Hid (∀ w', Below A.heap.size A w' → w'.cell? ⟨w.heap.size, 1, none⟩ = some (.slice (some ⟨b, off, none⟩) n sc) ∧ w'.cell? ⟨b, off + r, none⟩ = some (.int .u8 u)) := fun w' h =>
    ⟨(h.cell (p := ⟨w.heap.size, 1, none⟩) (cell_lt hA1)).trans hA1, ((below_trans hbA h).cell (p := ⟨b, off + r, none⟩) hbl).trans hu⟩
  have HBA : Hid (Below w.heap.size w A) := hbA
  clear hA1 hbA hu
  go_enter Try.func20, Try.ntmps20
  go_wp2
  rw [← hA]
  clear hA
  refine wp_region_held_drew (S := (fun w' => w'.cell? ⟨w.heap.size, 1, none⟩ = some (.slice (some ⟨b, off, none⟩) n sc) ∧ w'.cell? ⟨b, off + r, none⟩ = some (.int .u8 u))) (by kernel_rfl) (HS.out _ (Below.refl _ _).drew) (fun hHeld => ?_)
  refine wpAnyH_take (i := 0) (v := ?_) rfl (by kernel_rfl) (by kernel_rfl) (by kernel_rfl) (fun _ _ _ h => h) (Or.inl ⟨by rfl, ?_⟩) (by assumption) ?_
  rotate_left
  · intro w hSw
    obtain ⟨hS1, hS2⟩ := hSw
    go_simp
    try with_reducible rfl
  try simp only [Act.put, List.getElem_toArray, List.getElem_cons_zero, List.getElem_cons_succ, List.setIfInBounds_toArray, List.set_cons_zero, List.set_cons_succ]
  refine wpAnyH_take (i := 1) (v := ?_) rfl (by kernel_rfl) (by kernel_rfl) (by kernel_rfl) (fun _ _ _ h => h) (Or.inl ⟨by rfl, ?_⟩) (by assumption) ?_
  rotate_left
  · intro w hSw
    obtain ⟨hS1, hS2⟩ := hSw
    go_simp
    try with_reducible rfl
  try simp only [Act.put, List.getElem_toArray, List.getElem_cons_zero, List.getElem_cons_succ, List.setIfInBounds_toArray, List.set_cons_zero, List.set_cons_succ]
  refine wpAnyH_take (i := 2) (v := ?_) rfl (by kernel_rfl) (by kernel_rfl) (by kernel_rfl) (fun _ _ _ h => h) (Or.inl ⟨by rfl, ?_⟩) (by assumption) ?_
  rotate_left
  · intro w hSw
    obtain ⟨hS1, hS2⟩ := hSw
    go_simp
    try with_reducible rfl
  try simp only [Act.put, List.getElem_toArray, List.getElem_cons_zero, List.getElem_cons_succ, List.setIfInBounds_toArray, List.set_cons_zero, List.set_cons_succ]
  refine wpAnyH_ready (rs := [3]) (by kernel_rfl) (by simp) ?_
  refine AllReadyH.cons (o := { dst := some 8, op := Op.call { callee := Callee.value (Operand.func 21), args := #[Operand.tmp 7], argTypes := #[9] }, type := 52, pos := _, after := #[{ on := 2, ground := Ground.data }], guard := none }) rfl (fun K hK => ?_) AllReadyH.nil
  go_simp
  refine Calls.mono (C21.out _) ?_
  rintro e w3 ⟨rfl, hb3⟩
  have hB3 : Below A.heap.size A w3 := below_trans (Below.refl _ _).drew hb3
  have HB3 : Hid (Below w.heap.size w w3) := below_trans HBA.out hB3
  refine hK.out _ _ (HS.out _ hB3) (fun hHeld2 => ?_)
  clear hK K hHeld hb3 hB3 C21 HS HBA
  try simp only [Act.put, List.getElem_toArray, List.getElem_cons_zero, List.getElem_cons_succ, List.setIfInBounds_toArray, List.set_cons_zero, List.set_cons_succ]
  refine wpAnyH_take (i := 4) (v := .pointer (some ⟨b, off + r, none⟩)) rfl (by kernel_rfl) (by kernel_rfl) (by kernel_rfl) (fun _ _ _ h => h) (Or.inl ⟨by rfl, fun w _ => exec_indexAddr (x := .tmp 6) (ix := .tmp 8) rfl (ix16 b off n sc r hl w)⟩) (by assumption) ?_
  try simp only [Act.put, List.getElem_toArray, List.getElem_cons_zero, List.getElem_cons_succ, List.setIfInBounds_toArray, List.set_cons_zero, List.set_cons_succ]
  refine wpAnyH_take (i := 5) (v := ?_) rfl (by kernel_rfl) (by kernel_rfl) (by kernel_rfl) (fun _ _ _ h => h) (Or.inl ⟨by rfl, ?_⟩) (by assumption) ?_
  rotate_left
  · intro w hSw
    obtain ⟨hS1, hS2⟩ := hSw
    go_simp
    try with_reducible rfl
  try simp only [Act.put, List.getElem_toArray, List.getElem_cons_zero, List.getElem_cons_succ, List.setIfInBounds_toArray, List.set_cons_zero, List.set_cons_succ]
  refine wpAnyH_take (i := 6) (v := ?_) rfl (by kernel_rfl) (by kernel_rfl) (by kernel_rfl) (fun _ _ _ h => h) (Or.inl ⟨by rfl, ?_⟩) (by assumption) ?_
  rotate_left
  · intro w hSw
    obtain ⟨hS1, hS2⟩ := hSw
    go_simp
    try with_reducible rfl
  try simp only [Act.put, List.getElem_toArray, List.getElem_cons_zero, List.getElem_cons_succ, List.setIfInBounds_toArray, List.set_cons_zero, List.set_cons_succ]
  refine wpAnyH_take (i := 7) (v := ?_) rfl (by kernel_rfl) (by kernel_rfl) (by kernel_rfl) (fun _ _ _ h => h) (Or.inl ⟨by rfl, ?_⟩) (by assumption) ?_
  rotate_left
  · intro w hSw
    obtain ⟨hS1, hS2⟩ := hSw
    go_simp
    try with_reducible rfl
  try simp only [Act.put, List.getElem_toArray, List.getElem_cons_zero, List.getElem_cons_succ, List.setIfInBounds_toArray, List.set_cons_zero, List.set_cons_succ]
  refine wpAnyH_done (by kernel_rfl) ?_ _
  go_wp2
  go_ret
  exact ⟨rfl, HB3.out⟩
/-- The shard of a name, as both sides reckon it. -/
theorem shard_ex (s : ByteArray) (hs : s.size ≤ maxLen) : ∃ r : Nat, r < 4096 ∧ Hid (∀ w, Calls Try.prog 19 #[.string s] w fun e w' => e = .returned (.int .i64 r) ∧ w' = w) ∧ Hid (∀ w1, Calls Try.prog 21 #[.string s] w1 fun e w' => e = .returned (.int .u16 r) ∧ Below w1.heap.size w1 w') :=
  ⟨shd s, (shd_eq s).2, fun w => zzshard_any s hs w, fun w => shardOf_any s hs w⟩
end Go.Proofs.Qxb6609020a
