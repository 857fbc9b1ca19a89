import Derived.Lib.Bytealg
/-! The plain law: comparing byte strings; a chain that rises is strictly sorted; an injection of n places into n is onto. No Go here. -/
namespace Go.Kx
open Go.Lib

theorem cmp_self : ∀ a : List UInt8, compareBytes a a = 0
  | [] => rfl
  | c :: l => by
    show (if c < c then -1 else if c < c then 1 else compareBytes l l) = 0
    rw [if_neg (UInt8.lt_irrefl c), if_neg (UInt8.lt_irrefl c), cmp_self l]

theorem cmp_cons (a b : UInt8) (s t : List UInt8) : compareBytes (a :: s) (b :: t) = if a < b then -1 else if b < a then 1 else compareBytes s t := rfl

theorem cmp_trans : ∀ a b c : List UInt8, compareBytes a b < 0 → compareBytes b c < 0 → compareBytes a c < 0
  | [], [], _, h, _ => absurd h (by decide)
  | [], _ :: _, [], _, h => absurd h (by simp [compareBytes])
  | [], _ :: _, _ :: _, _, _ => by simp [compareBytes]
  | _ :: _, [], _, h, _ => absurd h (by simp [compareBytes])
  | _ :: _, _ :: _, [], _, h => absurd h (by simp [compareBytes])
  | x :: a, y :: b, z :: c, h1, h2 => by
    rw [cmp_cons] at h1 h2 ⊢
    have hx := UInt8.lt_iff_toNat_lt (a := x) (b := y)
    have hx' := UInt8.lt_iff_toNat_lt (a := y) (b := x)
    have hy := UInt8.lt_iff_toNat_lt (a := y) (b := z)
    have hy' := UInt8.lt_iff_toNat_lt (a := z) (b := y)
    have hz := UInt8.lt_iff_toNat_lt (a := x) (b := z)
    have hz' := UInt8.lt_iff_toNat_lt (a := z) (b := x)
    by_cases e1 : x < y
    · by_cases e2 : y < z
      · rw [if_pos (hz.2 (by have := hx.1 e1; have := hy.1 e2; omega))]; decide
      · rw [if_neg e2] at h2
        by_cases e3 : z < y
        · rw [if_pos e3] at h2; exact absurd h2 (by decide)
        · have : y.toNat = z.toNat := by
            have := mt hy.2 e2; have := mt hy'.2 e3; omega
          rw [if_pos (hz.2 (by have := hx.1 e1; omega))]; decide
    · rw [if_neg e1] at h1
      by_cases e1' : y < x
      · rw [if_pos e1'] at h1; exact absurd h1 (by decide)
      · rw [if_neg e1'] at h1
        have exy : x.toNat = y.toNat := by have := mt hx.2 e1; have := mt hx'.2 e1'; omega
        by_cases e2 : y < z
        · rw [if_pos (hz.2 (by have := hy.1 e2; omega))]; decide
        · rw [if_neg e2] at h2
          by_cases e3 : z < y
          · rw [if_pos e3] at h2; exact absurd h2 (by decide)
          · rw [if_neg e3] at h2
            have eyz : y.toNat = z.toNat := by have := mt hy.2 e2; have := mt hy'.2 e3; omega
            rw [if_neg (mt hz.1 (by omega)), if_neg (mt hz'.1 (by omega))]
            exact cmp_trans a b c h1 h2

theorem cmp_back : ∀ a b : List UInt8, compareBytes a b < 0 → 0 ≤ compareBytes b a
  | [], [], h => absurd h (by decide)
  | [], _ :: _, _ => by simp [compareBytes]
  | _ :: _, [], h => absurd h (by simp [compareBytes])
  | x :: a, y :: b, h => by
    rw [cmp_cons] at h ⊢
    have hx := UInt8.lt_iff_toNat_lt (a := x) (b := y)
    have hx' := UInt8.lt_iff_toNat_lt (a := y) (b := x)
    by_cases e1 : x < y
    · rw [if_neg (mt hx'.1 (by have := hx.1 e1; omega)), if_pos e1]; decide
    · rw [if_neg e1] at h
      by_cases e2 : y < x
      · rw [if_pos e2] at h; exact absurd h (by decide)
      · rw [if_neg e2] at h
        rw [if_neg e2, if_neg e1]
        exact cmp_back a b h

/-- A chain that rises step by step rises throughout. -/
theorem chain {n : Nat} (x : Nat → List UInt8) (h : ∀ i, i + 1 < n → compareBytes (x i) (x (i + 1)) < 0) : ∀ d i, i + d + 1 < n → compareBytes (x i) (x (i + d + 1)) < 0
  | 0, i, hi => h i hi
  | d + 1, i, hi => cmp_trans _ _ _ (chain x h d i (by omega)) (h (i + d + 1) (by omega))

theorem chain_lt {n : Nat} (x : Nat → List UInt8) (h : ∀ i, i + 1 < n → compareBytes (x i) (x (i + 1)) < 0) (i j : Nat) (hij : i < j) (hj : j < n) : compareBytes (x i) (x j) < 0 := by
  have := chain x h (j - i - 1) i (by omega)
  rwa [show i + (j - i - 1) + 1 = j from by omega] at this

/-- A list of n different numbers below n holds each of them. -/
theorem nodup_full : ∀ (n : Nat) (l : List Nat), l.Nodup → l.length = n → (∀ x, x ∈ l → x < n) → ∀ j, j < n → j ∈ l
  | 0, _, _, _, _, j, hj => absurd hj (Nat.not_lt_zero _)
  | n + 1, l, hd, hl, hb, j, hj => by
    by_cases hn : n ∈ l
    · have hl' : (l.erase n).length = n := by rw [List.length_erase_of_mem hn, hl]; rfl
      have hb' : ∀ x, x ∈ l.erase n → x < n := fun x hx => by
        have h1 := hb x (List.mem_of_mem_erase hx)
        have h2 : x ≠ n := fun e => by subst e; exact (List.Nodup.not_mem_erase hd) hx
        omega
      by_cases e : j = n
      · exact e ▸ hn
      · exact List.mem_of_mem_erase (nodup_full n (l.erase n) (hd.erase n) hl' hb' j (by omega))
    · exfalso
      have hb' : ∀ x, x ∈ l → x < n := fun x hx => by
        have h1 := hb x hx
        have h2 : x ≠ n := fun e => hn (e ▸ hx)
        omega
      match l, hl with
      | y :: l', hl =>
        have hl' : l'.length = n := by simpa using hl
        have hy := hb' y (List.mem_cons_self ..)
        have := nodup_full n l' (List.nodup_cons.1 hd).2 hl' (fun x hx => hb' x (List.mem_cons_of_mem _ hx)) y hy
        exact (List.nodup_cons.1 hd).1 this

theorem onto {n : Nat} (p : Nat → Nat) (hb : ∀ i, i < n → p i < n) (hinj : ∀ i j, i < j → j < n → p i ≠ p j) (j : Nat) (hj : j < n) : ∃ i, i < n ∧ p i = j := by
  have hd : ((List.range n).map p).Nodup := by
    rw [List.nodup_iff_pairwise_ne, List.pairwise_map]
    rw [List.pairwise_iff_getElem]
    intro i k hi hk hik
    simp at hi hk ⊢
    exact hinj i k hik hk
  have := nodup_full n _ hd (by simp) (fun x hx => by
    obtain ⟨i, hi, rfl⟩ := List.mem_map.1 hx
    exact hb i (by simpa using hi)) j hj
  obtain ⟨i, hi, e⟩ := List.mem_map.1 this
  exact ⟨i, by simpa using hi, e⟩
end Go.Kx
