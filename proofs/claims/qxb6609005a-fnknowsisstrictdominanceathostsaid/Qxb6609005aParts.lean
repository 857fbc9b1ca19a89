import Derived.Test.Qxb6609005aModel
import Derived.Test.Qxb6609005aBytes
import Derived.Test.Qxb6609005aAdds
import Derived.Test.Qxb6609005aValid
import Derived.Sort.Walk0
namespace Go.Proofs.Qxb6609005a
open Go.RowKit Go.Kx Go.Kn
theorem Iff'.det {p : Prop} {b : Bool} {w w' : World} {e : Ending} (hb : b = true ↔ p) (h : Iff' p w e w') : e = .returned (.bool b) ∧ Below w.heap.size w w' := by
  obtain ⟨r, rfl, hr, hw⟩ := h
  refine ⟨?_, hw⟩
  have : (r = true) = (b = true) := propext (hr.trans hb.symm)
  cases r <;> cases b <;> simp at this <;> rfl
theorem Iff'.congr {p q : Prop} {w w' : World} {e : Ending} (hpq : p ↔ q) (h : Iff' p w e w') : Iff' q w e w' := by
  obtain ⟨r, h1, h2, h3⟩ := h
  exact ⟨r, h1, h2.trans hpq, h3⟩
theorem shape_of {n : Nat} {z : Bool} {c : Ck} (h : Val n z c) : Shape n (ckz z c) := by
  cases z with
  | true => exact ⟨.inl rfl, fun s t _ h => absurd h (Nat.not_lt_zero _), fun t h => absurd h (Nat.not_lt_zero _), fun t h => absurd h (Nat.not_lt_zero _), fun t h => absurd h (Nat.not_lt_zero _)⟩
  | false =>
    rcases h with h | ⟨h1, h2⟩
    · cases h
    · refine ⟨.inr h1, ?_, fun t ht => (h2 t ht).1, fun t ht => (h2 t ht).2.1, fun t ht => (h2 t ht).2.2.1⟩
      intro s t hst ht
      show c.kh s < c.kh t
      have key : ∀ m, s + 1 + m < c.kl → c.kh s < c.kh (s + 1 + m) := fun m => by
        induction m with
        | zero => intro hm; exact (h2 (s + 1) hm).2.2.2 (by omega)
        | succ m ih =>
          intro hm
          have h3 := ih (by omega)
          have h4 := (h2 (s + 1 + (m + 1)) hm).2.2.2 (by omega)
          have e : s + 1 + (m + 1) - 1 = s + 1 + m := by omega
          rw [e] at h4
          omega
      have := key (t - (s + 1)) (by show s + 1 + (t - (s + 1)) < c.kl; have : t < c.kl := ht; omega)
      have e : s + 1 + (t - (s + 1)) = t := by omega
      rw [e] at this
      exact this
theorem fits_ckz {z : Bool} {c : Ck} (h : Fits c) : Fits (ckz z c) := by
  cases z with
  | true => exact ⟨by show 0 < _; omega, by show 0 < _; omega, by show 0 ≤ _; omega, fun t h => absurd h (Nat.not_lt_zero _), fun t h => absurd h (Nat.not_lt_zero _)⟩
  | false => exact h
theorem cv_lt {c : Ck} (h : Fits c) (j : Nat) : cv c j < 4294967296 := by
  by_cases e : j = c.own
  · subst e; rw [cv_own]; exact h.cn
  · by_cases g : cv c j = 0
    · omega
    · have hl : Kn.look c.kh c.kn c.kl j = cv c j := by unfold cv; rw [if_neg e]
      obtain ⟨t, ht, _, hv⟩ := look_inv (kh := c.kh) (kn := c.kn) (i := j) c.kl (by rw [hl]; exact g)
      rw [← hl, hv]
      exact h.kn t ht
/-- Names that rise differ. -/
theorem dist_of {n : Nat} {nm : Nat → ByteArray} (h : Srt n nm) : ∀ i j, i < n → j < n → (nm i).data.toList = (nm j).data.toList → i = j := by
  have key : ∀ i m, i + 1 + m < n → (nm i).data.toList < (nm (i + 1 + m)).data.toList := fun i m => by
    induction m with
    | zero =>
      intro hm
      have := h (i + 1) (by omega) hm
      rw [bytesLess_eq, Lib.toList_data, Lib.toList_data] at this
      exact of_decide_eq_true this
    | succ m ih =>
      intro hm
      have h3 := ih (by omega)
      have h4 := h (i + 1 + (m + 1)) (by omega) hm
      rw [bytesLess_eq, Lib.toList_data, Lib.toList_data] at h4
      have e : i + 1 + (m + 1) - 1 = i + 1 + m := by omega
      rw [e] at h4
      exact List.lt_trans h3 (of_decide_eq_true h4)
  have lt : ∀ i j, i < j → j < n → (nm i).data.toList ≠ (nm j).data.toList := fun i j hij hj e => by
    have := key i (j - (i + 1)) (by omega)
    have e2 : i + 1 + (j - (i + 1)) = j := by omega
    rw [e2, e] at this
    exact List.lt_irrefl _ this
  intro i j hi hj e
  rcases Nat.lt_trichotomy i j with g | g | g
  · exact absurd e (lt i j g hj)
  · exact g
  · exact absurd e.symm (lt j i g hi)
theorem bytes_ext {a b : ByteArray} (h : a.data.toList = b.data.toList) : a = b := by
  cases a; cases b
  congr 1
  exact Array.ext' h
theorem numOf_spec (nm : Nat → ByteArray) (u : ByteArray) : ∀ n, (numOf nm n u.data.toList = none ∧ ∀ k, k < n → nm k ≠ u) ∨ ∃ k : Nat, k < n ∧ numOf nm n u.data.toList = some (k : Int) ∧ nm k = u
  | 0 => .inl ⟨rfl, fun k h => absurd h (Nat.not_lt_zero _)⟩
  | n + 1 => by
    unfold numOf
    by_cases e : u.data.toList = (nm n).data.toList
    · rw [if_pos e]
      exact .inr ⟨n, by omega, rfl, (bytes_ext e).symm⟩
    · rw [if_neg e]
      rcases numOf_spec nm u n with ⟨h1, h2⟩ | ⟨k, hk, h1, h2⟩
      · refine .inl ⟨h1, fun k hk => ?_⟩
        by_cases g : k < n
        · exact h2 k g
        · obtain rfl : k = n := by omega
          exact fun h => e (by rw [h])
      · exact .inr ⟨k, by omega, h1, h2⟩
/-- The count at the place that the map names: none: 0. -/
def vAt (o : Option Int) (c : Ck) : Nat := match o with | some i => cv c i.toNat | none => 0
theorem knows_iff {n : Nat} {nm : Nat → ByteArray} {s : ByteArray} {c d : Ck} (hc : Shape n c) (hd : Shape n d) (hdist : ∀ i j, i < n → j < n → nm i = nm j → i = j) :
    (AtM d c ∧ vAt (numOf nm n s.data.toList) d < vAt (numOf nm n s.data.toList) c) ↔ Knows n (fun k => nm k = s) c d := by
  rw [atM_iff hd hc]
  rcases numOf_spec nm s n with ⟨h1, h2⟩ | ⟨k, hk, h1, h2⟩
  · rw [h1]
    constructor
    · intro ⟨_, h⟩; exact absurd h (Nat.lt_irrefl _)
    · rintro ⟨_, k, hk, e, _⟩; exact absurd e (h2 k hk)
  · rw [h1]
    constructor
    · intro ⟨h3, h4⟩; exact ⟨h3, k, hk, h2, h4⟩
    · rintro ⟨h3, k', hk', e, h4⟩
      have := hdist k' k hk' hk (e.trans h2.symm)
      subst this
      exact ⟨h3, h4⟩
/-- What buildEvent leaves. -/
def Bld (s : ByteArray) (c : Ck) (mb : Nat) (w : World) (e : Ending) (w' : World) : Prop :=
  ∃ B hp ka kc, e = .returned (.pointer (some ⟨B, 0, none⟩)) ∧ Evt w' B s hp c ka kc ∧ Knw w' ka c ∧ ((hp = none ∧ ∀ j, cv c j = 0) ∨ ∃ hb, hp = some ⟨hb, 0, none⟩ ∧ w'.cell? ⟨hb, 1, none⟩ = some (.map (some mb))) ∧ Below w.heap.size w w'
theorem build_any (na : Option Addr) (nl nc : Nat) (mb : Nat) (s : ByteArray) (lam : Int) (z : Bool) (c : Ck) (ka : Option Addr) (kc : Nat) (w : World) (hf : Fits c) (hk : Knw w ka c) :
    Calls Try.prog 13 #[.slice na nl nc, .map (some mb), Evv s lam z c ka kc] w (Bld s (ckz z c) mb w) := by
  cases z with
  | true =>
    refine Calls.mono (buildEvent_zero na nl nc (some mb) s lam c ka kc w) ?_
    rintro e w' ⟨B, rfl, he, hb⟩
    exact ⟨B, none, none, 0, rfl, he, fun t h => absurd h (Nat.not_lt_zero _), .inl ⟨rfl, fun j => cv_zero j⟩, hb⟩
  | false =>
    refine Calls.mono (buildEvent_some na nl nc mb s lam c ka kc w hf hk) ?_
    rintro e w' ⟨B, hb, ka', kc', rfl, he, hk', hm, hbl⟩
    exact ⟨B, _, ka', kc', rfl, he, hk', .inr ⟨hb, rfl, hm⟩, hbl⟩
theorem cnt_any {w : World} {hp : Option Addr} {c : Ck} {ka : Option Addr} {kc mb n : Nat} {nm : Nat → ByteArray} {s : ByteArray} (hs : s.size ≤ maxLen) (hn : n ≤ 1048576) (hf : Fits c) (ha : Asc c) (hk : Knw w ka c) (hm : SMap Try.prog 9 24 .u32 w mb n (numOf nm n))
    (hh : (hp = none ∧ ∀ j, cv c j = 0) ∨ ∃ hb, hp = some ⟨hb, 0, none⟩ ∧ w.cell? ⟨hb, 1, none⟩ = some (.map (some mb))) : Cnt w hp c ka kc s (vAt (numOf nm n s.data.toList) c) := by
  intro w1 hb1
  rcases hh with ⟨rfl, hz⟩ | ⟨hb, rfl, hc⟩
  · have e : vAt (numOf nm n s.data.toList) c = 0 := by unfold vAt; split <;> simp [hz]
    rw [e]
    exact ccount_zero c ka kc s w1
  · have hst : Hst w1 hb mb n (numOf nm n) := Hst.below ⟨hc, hm⟩ hb1
    rcases numOf_spec nm s n with ⟨h1, _⟩ | ⟨k, hkn, h1, _⟩
    · rw [h1]
      exact ccount_no hb mb n _ c ka kc s w1 hs hst h1
    · rw [h1]
      exact ccount_yes hb mb n _ c ka kc s w1 hs hst k (by omega) h1 hf ha (hk.below hb1) (cv_lt hf k)
theorem valid_any (n : Nat) (s : ByteArray) (lam : Int) (z : Bool) (c : Ck) (ka : Option Addr) (kc : Nat) (w : World) (hn : n ≤ 1048576) (hf : Fits c) (hk : Knw w ka c) :
    Calls Try.prog 11 #[.int .i64 n, Evv s lam z c ka kc] w (Iff' (Val n z c) w) := by
  cases z with
  | true => exact valid_zero n s lam c ka kc w
  | false => exact valid_some n s lam c ka kc w hn hf hk
theorem dense_any (n : Nat) (s : ByteArray) (lam : Int) (z : Bool) (c : Ck) (ka : Option Addr) (kc : Nat) (w : World) (hn : n ≤ 1048576) (hf : Fits c) (hk : Knw w ka c) (hv : Val n z c) :
    DnC w n (Evv s lam z c ka kc) (ckz z c) := by
  intro w1 hb
  cases z with
  | true => exact dense_zero n s lam c ka kc w1 hn
  | false =>
    rcases hv with h | ⟨h1, h2⟩
    · cases h
    · exact dense_some n s lam c ka kc w1 hn hf (hk.below hb) h1 (fun t ht => (h2 t ht).1)
end Go.Proofs.Qxb6609005a
