import Derived.Test.Qxb6609020aOwner
import Derived.Test.Qxb6609020aBytes18
import Derived.Test.Qxb6609020aAdds
import Derived.Test.Qxb6609020aView
import Derived.Lib.LazyBuf
import Derived.WalkKit
import Derived.ProofKit
import Derived.Outline
import Derived.WalkSpells
import Derived.WalkSmall
import Derived.OwnWalk
import Derived.Deep.Cut
import Derived.Deep.CutRange
set_option linter.unusedSimpArgs false
namespace Go.Proofs.Qxb6609020a
open Go.RowKit Go.Kx Go.Maps Go.WideMaps Go.WideElems
/-- A map from strings to booleans that the call itself made. -/
def BMap (w : World) (b n : Nat) : Prop := ∃ D : DataW Unit, w.ownsMap Try.prog 9 (plainElem Try.prog 4) b n D
theorem BMap.made (w : World) : BMap (w.alloc (.map #[] 0)) w.heap.size 0 := ⟨.map [], World.ownsMap_made w Try.prog 9 _⟩
theorem wpList_bmap_put {w : World} {ops : Array Oper} {rest : List Oper} {o : Oper} {a : Act} {Q : Exit → Act → World → Prop}
    (hg : o.guard = none) (m x v : Operand) (hop : o.op = Op.mapUpdate 46 m x v) (b n : Nat) (hm : a.eval m = .map (some b)) (h : BMap w b n) (hn : n < maxLen) (s : ByteArray) (hs : s.size ≤ maxLen) (c : Bool) (hx : a.eval x = .string s) (hv : a.eval v = .bool c)
    (B : Nat) (w0 : World) (hb : Below B w0 w) (hB : B ≤ b)
    (hK : ∀ w', Hid (BMap w' b (n + 1)) → Hid (Below B w0 w') → wpList Try.prog ops Q rest (a.put o.dst undef) w') :
    wpList Try.prog ops Q (o :: rest) a w := by
  obtain ⟨D, hD⟩ := h
  refine wpList_mapUpdate_own w hg m x v 46 hop 9 4 (string_keyed Try.underlying9) Try.underlying46 _ b n D hm hD hn (.string s) (.bool c) (.string s.data.toList) hx hv (keyOf_string_mk Try.underlying9 hs) (.lit (.bool c)) [] (plainElem_bool Try.underlying4 c) (fun w' hown hgrow => ?_)
  exact hK w' ⟨_, hown⟩ (hb.trans ⟨hgrow.os, hgrow.tape, hgrow.output, hgrow.size, fun i hi => hgrow.block i (by have := hD.lt; omega) (fun e => by injection e; omega)⟩)
theorem mk_map46 (n : Int) (w : World) : (Instr.makeMap 46 (some (.int .i64 n))).run Try.prog w = .ok (.map (some w.heap.size)) (w.alloc (.map #[] 0)) := by
  simp [Instr.makeMap, run_underlying Try.underlying46, asInt, asIntOf, Result.andThen]
theorem info5 : (Try.prog.info? 5).map (fun i => (i.zero, i.size, i.bytes)) = some (some (.int .u8 0), 1, 1) := by kernel_rfl
theorem mk_bytes (n : Nat) (hn : n ≤ 1048577) (w : World) : (Instr.makeSlice 41 (.int .i64 (n : Int)) (.int .i64 (n : Int))).run Try.prog w = .ok (.slice (some ⟨w.heap.size, 0, none⟩) n n) (w.alloc (.cells (madeCells #[.int .u8 0] n) 5)) := by
  obtain ⟨i0, hi, hz0, hz1, hz2⟩ := info_parts info5
  have := run_make (P := Try.prog) w 41 5 i0 _ Try.underlying41 hi hz0 .i64 .i64 n n (by omega) (by omega) (by rw [hz2]; omega) (by omega)
  rw [this, hz1]
  simp [Value.cells]
/-- The law's answer. -/
def Yes8 (w : World) (e : Ending) (w' : World) : Prop := e = .returned (.bool true) ∧ Below w.heap.size w w'
/-- Bytes that came in. -/
def Zb (w : World) (a : Option Addr) (n : Nat) (z : Nat → Int) : Prop := ∀ i, i < n → ∃ b off, a = some ⟨b, off, none⟩ ∧ w.cell? ⟨b, off + i, none⟩ = some (.int .u8 (z i))
theorem Zb.below {w w' : World} {a : Option Addr} {n : Nat} {z : Nat → Int} (h : Zb w a n z) (hb : Below w.heap.size w w') : Zb w' a n z := fun i hi => by
  obtain ⟨b, off, e, h1⟩ := h i hi
  exact ⟨b, off, e, (hb.cell (p := ⟨b, off + i, none⟩) (cell_lt h1)).trans h1⟩
/-- Booleans that came in. -/
def Bo (w : World) (a : Option Addr) (n : Nat) (z : Nat → Bool) : Prop := ∀ i, i < n → ∃ b off, a = some ⟨b, off, none⟩ ∧ w.cell? ⟨b, off + i, none⟩ = some (.bool (z i))
theorem Bo.below {w w' : World} {a : Option Addr} {n : Nat} {z : Nat → Bool} (h : Bo w a n z) (hb : Below w.heap.size w w') : Bo w' a n z := fun i hi => by
  obtain ⟨b, off, e, h1⟩ := h i hi
  exact ⟨b, off, e, (hb.cell (p := ⟨b, off + i, none⟩) (cell_lt h1)).trans h1⟩
theorem cells5 (w : World) (v0 v1 v2 v3 v4 : Value) (t : TypeId) (n : Nat) (hn : w.heap.size = n) (w' : World) (hb : Below (w.alloc (.cells #[v0, v1, v2, v3, v4] t)).heap.size (w.alloc (.cells #[v0, v1, v2, v3, v4] t)) w') :
    w'.cell? ⟨n, 0, none⟩ = some v0 ∧ w'.cell? ⟨n, 1, none⟩ = some v1 ∧ w'.cell? ⟨n, 2, none⟩ = some v2 ∧ w'.cell? ⟨n, 3, none⟩ = some v3 ∧ w'.cell? ⟨n, 4, none⟩ = some v4 := by
  subst hn
  have one : ∀ i v, #[v0, v1, v2, v3, v4][i]? = some v → w'.cell? ⟨w.heap.size, i, none⟩ = some v := fun i v h => by
    have h1 : (w.alloc (.cells #[v0, v1, v2, v3, v4] t)).cell? ⟨w.heap.size, i, none⟩ = some v := by rw [cell_new]; exact h
    exact (hb.cell (p := ⟨w.heap.size, i, none⟩) (cell_lt h1)).trans h1
  exact ⟨one 0 _ rfl, one 1 _ rfl, one 2 _ rfl, one 3 _ rfl, one 4 _ rfl⟩
set_option maxRecDepth 100000 in
set_option maxHeartbeats 2000000 in
theorem law7_any (xa : Option Addr) (xl xc : Nat) (xm : Nat → ByteArray) (ha : Option Addr) (n hc : Nat) (z : Nat → Int) (pa : Option Addr) (pl pc : Nat) (pm : Nat → ByteArray) (ta : Option Addr) (tl tc : Nat) (tb : Nat → Bool) (ver rul : Int) (s : ByteArray) (tt : Nat) (v8 : Int) (w : World)
    (hX : RowS w xm xa xl) (hn : n ≤ maxLen) (hZ : Zb w ha n z) (hP : RowS w pm pa pl) (htl : tl ≤ maxLen) (hT : Bo w ta tl tb) (hs : s.size ≤ maxLen) (htt : tt < 65536) :
    Calls Try.prog 7 #[.slice xa xl xc, .slice ha n hc, .slice pa pl pc, .slice ta tl tc, .int .u64 ver, .int .u8 rul, .string s, .int .u16 tt, .int .u8 v8] w (Yes8 w) := by
  have C18 : Hid (Calls Try.prog 18 #[.slice xa xl xc, .slice ha n hc, .slice pa pl pc, .slice ta tl tc, .int .u64 ver, .int .u8 rul, .string s, .int .u16 tt, .int .u8 v8] w (BytesPost (pl ≤ 1048576 ∧ s.size + n + tl ≤ 1048576) w)) := bytes18_any xa xl xc xm ha n hc pa pl pc pm ta tl tc ver rul s tt v8 w hX.1 hn hP.1 htl hs hX.2.2.1 hX.2.2.2 hP.2.2.1 hP.2.2.2
  have C16 : Hid (s.size + n + tl ≤ 1048576 → Calls Try.prog 16 #[.int .i64 ((s.size : Int) + (n : Int) + (tl : Int)), .slice xa xl xc] w (SomeInt w)) := fun h => by
    have := strsBytes_any (s.size + n + tl) xa xl xc xm w (by omega) hX.1 hX.2.2.2 hX.2.2.1
    have e : ((s.size + n + tl : Nat) : Int) = (s.size : Int) + (n : Int) + (tl : Int) := by omega
    rwa [e] at this
  have C16' : Hid (∀ x : Nat, x ≤ 1048576 → Calls Try.prog 16 #[.int .i64 x, .slice pa pl pc] w (SomeInt w)) := fun x h => strsBytes_any x pa pl pc pm w (by omega) hP.1 hP.2.2.2 hP.2.2.1
  have HZ : Hid (Zb w ha n z) := hZ
  have HP : Hid (RowS w pm pa pl) := hP
  have HT : Hid (Bo w ta tl tb) := hT
  have hs' : s.size ≤ 2 ^ 63 - 1 := hs
  have hn' : n ≤ 2 ^ 63 - 1 := hn
  have htl' : tl ≤ 2 ^ 63 - 1 := htl
  clear hX hP hT hZ
  obtain ⟨r, hr96, C19, C21⟩ := shard_ex s hs
  have e32 := fun w a l c => run_neq_slice_nil (P := Try.prog) w 32 _ a l c Try.underlying32
  go_enter Try.func7, Try.ntmps7
  go_wp2_with fail
  refine Calls.mono C18.out ?_
  rintro e w1 ⟨r', rfl, hr, rfl⟩
  clear C18
  cases r' with
  | false =>
    clear hr C16 C16' HZ HP HT C19 C21
    go_wp2
    go_ret
    exact ⟨rfl, Below.refl _ _⟩
  | true =>
    obtain ⟨pl9, hsum⟩ := hr rfl
    clear hr
    have d1 : decide ((1048576 : Int) < (s.size : Int)) = false := decide_eq_false (by omega)
    have d2 : decide ((1048576 : Int) < (n : Int)) = false := decide_eq_false (by omega)
    have d3 : decide ((1048576 : Int) < (tl : Int)) = false := decide_eq_false (by omega)
    have d1' : decide (1048576 < s.size) = false := decide_eq_false (by omega)
    have d2' : decide (1048576 < n) = false := decide_eq_false (by omega)
    have d3' : decide (1048576 < tl) = false := decide_eq_false (by omega)
    go_wp2_with fail
    refine Calls.mono (C16.out hsum) ?_
    rintro e w2 ⟨x, rfl, hx, rfl⟩
    clear C16
    by_cases g2 : 1048576 < x
    · clear C16' HZ HP HT C19 C21
      go_wp2
      go_ret
      exact ⟨rfl, Below.refl _ _⟩
    have d4 : decide ((1048576 : Int) < (x : Int)) = false := decide_eq_false (by omega)
    go_wp2_with fail
    refine Calls.mono (C16'.out x (by omega)) ?_
    rintro e w3 ⟨y, rfl, hy, rfl⟩
    clear C16'
    by_cases g3 : 1048576 < y
    · clear HZ HP HT C19 C21
      go_wp2
      go_ret
      exact ⟨rfl, Below.refl _ _⟩
    have d5 : decide ((1048576 : Int) < (y : Int)) = false := decide_eq_false (by omega)
    by_cases g4 : n = 4096
    · by_cases g5 : 4096 ≤ tt
      · clear HZ HP HT C19 C21
        have q1 : ((n : Int) != 4096) = false := by simp [g4]
        have q2 : decide ((4096 : Int) ≤ (tt : Int)) = true := decide_eq_true (by omega)
        go_wp2
        go_ret
        exact ⟨rfl, Below.refl _ _⟩
      · have q1 : ((n : Int) != 4096) = false := by simp [g4]
        have q2 : decide ((4096 : Int) ≤ (tt : Int)) = false := decide_eq_false (by omega)
        have q2' : decide (4096 ≤ tt) = false := decide_eq_false g5
        have HG4 : Hid (n = 4096) := g4
        clear g4
        go_upto_if 80 with fail
        go_cut [20] from 31 (fun s20 wc => ∃ mv, s20 = .map mv ∧ Below w3.heap.size w3 wc)
        case first =>
          clear HZ C19 C21
          cases pa with
          | none =>
            clear HP HT
            go_wp2
            go_meet
            case rel => exact ⟨none, rfl, Below.refl _ _⟩
          | some pad =>
            have mk := mk_map46
            simp only [Option.isSome_some]
            go_wp2
            go_loopw [21, 22] (fun s21 _ wr => ∃ k : Nat, s21 = .int .i64 k ∧ k ≤ pl ∧ BMap wr w3.heap.size k ∧ Below w3.heap.size w3 wr) (fun s21 _ _ => pl - (intOf s21).toNat)
            case atStart => exact ⟨0, rfl, Nat.zero_le _, BMap.made _, below_alloc _ _⟩
            case round =>
              obtain ⟨k, rfl, hk, hbm, hb⟩ := hrel
              have HBM : Hid (BMap wr w3.heap.size k) := hbm
              clear hbm
              by_cases hkp : k < pl
              · obtain ⟨b, off, hab, hcell⟩ := HP.out.2.2.1.below hb k hkp
                cases hab
                have hsz := HP.out.2.2.2 k hkp
                have i1 : (0 : Int) ≤ (k : Int) := by omega
                have i2 : (k : Int) < (pl : Int) := by omega
                by_cases hkt : k < tl
                · obtain ⟨b2, off2, rfl, hc2⟩ := HT.out.below hb k hkt
                  have i3 : (k : Int) < (tl : Int) := by omega
                  clear HT HP
                  generalize tb k = bb at *
                  generalize pm k = pk at *
                  go_wp2_with (at_mapUpdate; refine wpList_bmap_put (by rfl) (.tmp 100) (.tmp 104) (.tmp 105) (by rfl) w3.heap.size k (by rfl) HBM.out (by simp [maxLen]; omega) pk hsz bb (by rfl) (by rfl) w3.heap.size w3 hb (Nat.le_refl _) ?_; intro w4 hbm4 hb4)
                  go_roundw
                  case rel => exact ⟨k + 1, by go_num, by omega, hbm4.out, hb4.out⟩
                  case measure => simp [intOf]; omega
                · clear HT HP
                  generalize pm k = pk at *
                  go_wp2_with (at_mapUpdate; refine wpList_bmap_put (by rfl) (.tmp 100) (.tmp 104) (.tmp 105) (by rfl) w3.heap.size k (by rfl) HBM.out (by simp [maxLen]; omega) pk hsz false (by rfl) (by rfl) w3.heap.size w3 hb (Nat.le_refl _) ?_; intro w4 hbm4 hb4)
                  go_roundw
                  case rel => exact ⟨k + 1, by go_num, by omega, hbm4.out, hb4.out⟩
                  case measure => simp [intOf]; omega
              · clear HT HP
                go_wp2
                go_meet
                case rel => exact ⟨_, rfl, hb⟩
        case rest =>
          obtain ⟨mv, rfl, hbc⟩ := hcut
          have HZc : Hid (Zb wc ha n z) := HZ.out.below hbc
          have HBC : Hid (Below w3.heap.size w3 wc) := hbc
          clear HP HT HZ hbc e32
          have mkb := mk_bytes n (by have := HG4.out; omega)
          go_wp2
          clear mkb
          go_loopw [24] (fun s24 wr => ∃ k : Nat, s24 = .int .i64 k ∧ k ≤ n ∧ Row wr wc.heap.size n (fun i => if i < k then .int .u8 (z i) else .int .u8 0) ∧ wc.heap.size < wr.heap.size ∧ Below wc.heap.size wc wr) (fun s24 _ => n - (intOf s24).toNat)
          case atStart => exact ⟨0, rfl, Nat.zero_le _, (Row.made wc #[.int .u8 0] n 5).congr (fun i hi => by simp [Nat.mod_one]), by simp, below_alloc _ _⟩
          case round =>
            obtain ⟨k, rfl, hk, hrow, hsz, hb⟩ := hrel
            by_cases hkn : k < n
            · obtain ⟨b, off, rfl, hcell⟩ := HZc.out.below hb k hkn
              have i1 : (0 : Int) ≤ (k : Int) := by omega
              have i2 : (k : Int) < (n : Int) := by omega
              have HST : Hid (Row (wr.setCell ⟨wc.heap.size, k, none⟩ (.int .u8 (z k))) wc.heap.size n (fun i => if i < k + 1 then .int .u8 (z i) else .int .u8 0)) := (hrow.set k hkn (.int .u8 (z k))).congr (fun i hi => by
                by_cases e : i = k
                · subst e; simp
                · by_cases e2 : i < k
                  · simp [e, e2, show i < k + 1 by omega]
                  · simp [e, e2, show ¬ i < k + 1 by omega])
              have HB9 : Hid (Below wc.heap.size wc (wr.setCell ⟨wc.heap.size, k, none⟩ (.int .u8 (z k)))) := hb.setCell (p := ⟨wc.heap.size, k, none⟩) (Nat.le_refl _) _
              obtain ⟨q0, z0⟩ := hrow k hkn
              generalize (if k < k then Value.int .u8 (z k) else .int .u8 0) = y0 at q0
              clear hrow hb HZc HBC HG4 C19 C21
              generalize z k = zk at *
              go_wp2
              go_roundw
              case rel => exact ⟨k + 1, by go_num, by omega, HST.out, by simp [World.setCell]; omega, HB9.out⟩
              case measure => simp [intOf]; omega
            · obtain rfl : k = n := by omega
              have hrow2 : Row wr wc.heap.size k (fun i => .int .u8 (z i)) := hrow.congr (fun i hi => by simp [hi])
              have htk : tt < k := by have := HG4.out; omega
              have hsk : r < k := by have := HG4.out; omega
              have HR3 : Hid (Row (wr.setCell ⟨wc.heap.size, tt, none⟩ (.int .u8 v8)) wc.heap.size k (fun i => .int .u8 (if i = tt then v8 else z i))) := (hrow2.set tt htk (.int .u8 v8)).congr (fun i hi => by
                by_cases e : i = tt
                · simp [e]
                · simp [e])
              have HB3 : Hid (Below wc.heap.size wc (wr.setCell ⟨wc.heap.size, tt, none⟩ (.int .u8 v8))) := hb.setCell (p := ⟨wc.heap.size, tt, none⟩) (Nat.le_refl _) _
              obtain ⟨q0, z0⟩ := hrow2 tt htk
              have hix := fun w => ix16 wc.heap.size 0 k k tt htk w
              rw [Nat.zero_add] at hix
              have hsz5 : Hid (wc.heap.size < (wr.setCell ⟨wc.heap.size, tt, none⟩ (.int .u8 v8)).heap.size) := by show _ < _; simp [World.setCell]; omega
              have hsz6 : wc.heap.size < wr.heap.size := hsz
              clear hrow hrow2 hb hsz
              generalize z tt = ztt at *
              go_wp2_with fail
              obtain ⟨b, off, rfl, hcu⟩ := HZc.out.below HB3.out (r) hsk
              have HBW : Hid (Below w3.heap.size w3 (wr.setCell ⟨wc.heap.size, tt, none⟩ (.int .u8 v8))) := below_trans HBC.out HB3.out
              clear HZc HBC HB3 q0 z0 hix hsz6 hsz5
              generalize wr.setCell ⟨wc.heap.size, tt, none⟩ (.int .u8 v8) = w5 at *
              have EW : ∀ x : Int, wrap64 x = IntKind.i64.wrap x := fun x => by unfold wrap64; exact (IntKind.wrap_i64 x).symm
              have CO : Hid (∀ (w' : World) (a0 : Option Addr) (n0 c0 : Nat) (mv : Option Nat) (ver rul : Int), Below w5.heap.size w5 w' → Calls Try.prog 20 #[.agg #[.slice a0 n0 c0, .slice (some ⟨b, off, none⟩) k hc, .map mv, .int .u64 ver, .int .u8 rul], .string s] w' fun e w'' => e = .returned (.int .i64 (wrap64 (z r))) ∧ Below w'.heap.size w' w'') := fun w' a0 n0 c0 mv ver rul hb => by
                rw [EW]
                exact owner_any a0 n0 c0 b off k hc mv ver rul (z r) s r w' C21 hsk ((hb.cell (p := ⟨b, off + r, none⟩) (cell_lt hcu)).trans hcu)
              have hce := (HR3.out (r) hsk).1
              have CE : Hid (∀ (w' : World), Below w5.heap.size w5 w' → Calls Try.prog 20 #[.agg #[.slice xa xl xc, .slice (some ⟨wc.heap.size, 0, none⟩) k k, .map mv, .int .u64 ver, .int .u8 rul], .string s] w' fun e w'' => e = .returned (.int .i64 (wrap64 (if r = tt then v8 else z r))) ∧ Below w'.heap.size w' w'') := fun w' hb => by
                rw [EW]
                exact owner_any xa xl xc wc.heap.size 0 k k mv ver rul _ s r w' C21 hsk (by rw [Nat.zero_add]; exact (hb.cell (p := ⟨wc.heap.size, r, none⟩) (cell_lt hce)).trans hce)
              clear EW
              refine Calls.mono (C19.out _) ?_
              rintro e w6 ⟨rfl, rfl⟩
              clear HR3 hce C19 C21
              have i1 : (0 : Int) ≤ (r : Int) := by omega
              have i2 : (r : Int) < (k : Int) := by omega
              generalize z r = u at *
              generalize wc.heap.size = BE at *
              go_upto_if 137 with fail
              go_cut [27] from 31 (fun s27 wx => s27 = .int .i64 (wrap64 (if r = tt then v8 else u)) ∧ wx = w6)
              case first =>
                clear CO CE HBW
                by_cases hrt : r = tt
                · have q3 : ((tt : Int) == (r : Int)) = true := by simp [hrt]
                  go_wp2
                  go_meet
                  case rel => exact ⟨by rw [if_pos hrt], rfl⟩
                · have q3 : ((tt : Int) == (r : Int)) = false := by simp; omega
                  go_wp2
                  go_meet
                  case rel => exact ⟨by rw [if_neg hrt], rfl⟩
              case rest =>
                obtain ⟨rfl, rfl⟩ := hcut
                generalize (if r = tt then v8 else u) = v2 at *
                clear hcu
                obtain ⟨A1, hA1⟩ : ∃ A1 : World, A1 = wc.alloc (.cells #[.slice xa xl xc, .slice (some ⟨b, off, none⟩) k hc, .map mv, .int .u64 ver, .int .u8 rul] 50) := ⟨_, rfl⟩
                obtain ⟨A2, hA2⟩ : ∃ A2 : World, A2 = A1.alloc (.cells #[.slice none 0 0, .slice (some ⟨b, off, none⟩) k hc, .map none, .int .u64 0, .int .u8 0] 50) := ⟨_, rfl⟩
                obtain ⟨A3, hA3⟩ : ∃ A3 : World, A3 = A2.alloc (.cells #[.slice xa xl xc, .slice (some ⟨BE, 0, none⟩) k k, .map mv, .int .u64 ver, .int .u8 rul] 50) := ⟨_, rfl⟩
                have s1 : A1.heap.size = wc.heap.size + 1 := by rw [hA1]; simp
                have s2 : A2.heap.size = wc.heap.size + 1 + 1 := by rw [hA2]; simp [s1]
                have b1 : Below wc.heap.size wc A1 := by rw [hA1]; exact below_alloc _ _
                have b2 : Below A1.heap.size A1 A2 := by rw [hA2]; exact below_alloc _ _
                have b3 : Below A2.heap.size A2 A3 := by rw [hA3]; exact below_alloc _ _
                have b123 : Below wc.heap.size wc A3 := below_trans b1 (below_trans b2 b3)
                have F2 : Hid (∀ w', Below A3.heap.size A3 w' → _) := fun w' hb => cells5 A1 (.slice none 0 0) (.slice (some ⟨b, off, none⟩) k hc) (.map none) (.int .u64 0) (.int .u8 0) 50 (wc.heap.size + 1) s1 w' (by rw [← hA2]; exact below_trans b3 hb)
                have F3 : Hid (∀ w', Below A3.heap.size A3 w' → _) := fun w' hb => cells5 A2 (.slice xa xl xc) (.slice (some ⟨BE, 0, none⟩) k k) (.map mv) (.int .u64 ver) (.int .u8 rul) 50 (wc.heap.size + 1 + 1) s2 w' (by rw [← hA3]; exact hb)
                have G1 : Hid (Calls Try.prog 20 #[.agg #[.slice xa xl xc, .slice (some ⟨b, off, none⟩) k hc, .map mv, .int .u64 ver, .int .u8 rul], .string s] A3 fun e w'' => e = .returned (.int .i64 (wrap64 u)) ∧ Below A3.heap.size A3 w'') := CO.out A3 xa xl xc mv ver rul b123
                have G2 : Hid (∀ w', Below A3.heap.size A3 w' → Calls Try.prog 20 #[.agg #[.slice none 0 0, .slice (some ⟨b, off, none⟩) k hc, .map none, .int .u64 0, .int .u8 0], .string s] w' fun e w'' => e = .returned (.int .i64 (wrap64 u)) ∧ Below w'.heap.size w' w'') := fun w' hb => CO.out w' none 0 0 none 0 0 (below_trans b123 hb)
                have G3 : Hid (∀ w', Below A3.heap.size A3 w' → Calls Try.prog 20 #[.agg #[.slice xa xl xc, .slice (some ⟨BE, 0, none⟩) k k, .map mv, .int .u64 ver, .int .u8 rul], .string s] w' fun e w'' => e = .returned (.int .i64 (wrap64 v2)) ∧ Below w'.heap.size w' w'') := fun w' hb => CE.out w' (below_trans b123 hb)
                have HBE : Hid (Below w3.heap.size w3 A3) := below_trans HBW.out b123
                clear CO CE HBW s1 s2 b1 b2 b3 b123
                go_wp2_with fail
                rw [← hA1, ← hA2, ← hA3]
                refine Calls.mono G1.out ?_
                rintro e w7 ⟨rfl, hb7⟩
                obtain ⟨c0, c1, c2, c3, c4⟩ := F2.out w7 hb7
                clear hA1 hA2 hA3 F2
                go_wp2_with fail
                refine Calls.mono (G2.out w7 hb7) ?_
                rintro e w8 ⟨rfl, hb8⟩
                have hb78 := below_trans hb7 hb8
                clear c0 c1 c2 c3 c4
                obtain ⟨c0, c1, c2, c3, c4⟩ := F3.out w8 hb78
                go_wp2_with fail
                refine Calls.mono (G3.out w8 hb78) ?_
                rintro e w9 ⟨rfl, hb9⟩
                have hbz := below_trans HBE.out (below_trans hb78 hb9)
                clear c0 c1 c2 c3 c4 F3
                go_wp2
                go_ret
                exact ⟨rfl, hbz⟩
    · clear HZ HP HT C19 C21
      have q1 : ((n : Int) != 4096) = true := by simp; omega
      go_wp2
      go_ret
      exact ⟨rfl, Below.refl _ _⟩
end Go.Proofs.Qxb6609020a
