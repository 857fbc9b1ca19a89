/-! The plain law: clocks held sparsely, their counts, and strict dominance at a host. No Go here. -/
namespace Go.Kn

/-- The count of host number i among the entries: 0 where none is there. -/
def look (kh kn : Nat → Nat) : Nat → Nat → Nat
  | 0, _ => 0
  | k + 1, i => if kh k = i then kn k else look kh kn k i

/-- A clock: the host number own with count cn, and kl further entries. -/
structure Ck where
  own : Nat
  cn : Nat
  kl : Nat
  kh : Nat → Nat
  kn : Nat → Nat

/-- The clock's count of host number i. -/
def cv (c : Ck) (i : Nat) : Nat := if i = c.own then c.cn else look c.kh c.kn c.kl i

/-- The entries' hosts rise strictly. -/
def Asc (c : Ck) : Prop := ∀ s t, s < t → t < c.kl → c.kh s < c.kh t

/-- The documented shape of a clock of a log of n hosts (z: it is the zero clock). -/
structure Shape (n : Nat) (c : Ck) : Prop where
  own : c.cn = 0 ∨ c.own < n
  asc : Asc c
  lt : ∀ t, t < c.kl → c.kh t < n
  ne : ∀ t, t < c.kl → c.kh t ≠ c.own
  pos : ∀ t, t < c.kl → c.kn t ≠ 0

theorem look_none {kh kn : Nat → Nat} {i : Nat} : ∀ k, (∀ t, t < k → kh t ≠ i) → look kh kn k i = 0
  | 0, _ => rfl
  | k + 1, h => by
    unfold look
    rw [if_neg (h k (by omega)), look_none k (fun t ht => h t (by omega))]
theorem look_some {kh kn : Nat → Nat} {i : Nat} : ∀ k t, t < k → kh t = i → (∀ s, s < k → kh s = i → s = t) → look kh kn k i = kn t
  | 0, t, h, _, _ => absurd h (Nat.not_lt_zero _)
  | k + 1, t, h, e, u => by
    unfold look
    by_cases g : kh k = i
    · rw [if_pos g, u k (by omega) g]
    · rw [if_neg g]
      have htk : t < k := by
        by_cases e' : t = k
        · exact absurd (e' ▸ e) g
        · omega
      exact look_some k t htk e (fun s hs he => u s (by omega) he)
theorem look_inv {kh kn : Nat → Nat} {i : Nat} : ∀ k, look kh kn k i ≠ 0 → ∃ t, t < k ∧ kh t = i ∧ look kh kn k i = kn t
  | 0, h => absurd rfl h
  | k + 1, h => by
    unfold look at h ⊢
    by_cases g : kh k = i
    · exact ⟨k, by omega, g, by rw [if_pos g]⟩
    · rw [if_neg g] at h ⊢
      obtain ⟨t, h1, h2, h3⟩ := look_inv k h
      exact ⟨t, by omega, h2, h3⟩
theorem Asc.inj {c : Ck} (h : Asc c) {s t : Nat} (hs : s < c.kl) (ht : t < c.kl) (e : c.kh s = c.kh t) : s = t := by
  rcases Nat.lt_trichotomy s t with g | g | g
  · have := h s t g ht; omega
  · exact g
  · have := h t s g hs; omega
theorem cv_entry {c : Ck} (h : Asc c) {t : Nat} (ht : t < c.kl) (hne : c.kh t ≠ c.own) : cv c (c.kh t) = c.kn t := by
  unfold cv
  rw [if_neg hne]
  exact look_some _ t ht rfl (fun s hs e => h.inj hs ht e)
theorem cv_own (c : Ck) : cv c c.own = c.cn := by unfold cv; rw [if_pos rfl]

/-- What AtMost tests. -/
def AtM (c d : Ck) : Prop := c.cn ≤ cv d c.own ∧ ∀ t, t < c.kl → (c.kh t = d.own → c.kn t ≤ d.cn) ∧ (c.kh t ≠ d.own → ∃ s, s < d.kl ∧ d.kh s = c.kh t ∧ c.kn t ≤ d.kn s)

theorem atM_iff {n : Nat} {c d : Ck} (hc : Shape n c) (hd : Shape n d) : AtM c d ↔ ∀ j, j < n → cv c j ≤ cv d j := by
  constructor
  · intro ⟨h1, h2⟩ j hj
    by_cases e : j = c.own
    · subst e; rw [cv_own]; exact h1
    · by_cases g : cv c j = 0
      · omega
      · have hl : look c.kh c.kn c.kl j = cv c j := by unfold cv; rw [if_neg e]
        obtain ⟨t, ht, he, hv⟩ := look_inv (kh := c.kh) (kn := c.kn) (i := j) c.kl (by rw [hl]; exact g)
        rw [← hl, hv]
        subst he
        by_cases o : c.kh t = d.own
        · rw [o, cv_own]; exact (h2 t ht).1 o
        · obtain ⟨s, hs, e2, hle⟩ := (h2 t ht).2 o
          rw [← e2, cv_entry hd.asc hs (by rw [e2]; exact o)]
          exact hle
  · intro h
    refine ⟨?_, fun t ht => ⟨fun o => ?_, fun o => ?_⟩⟩
    · rcases hc.own with h0 | h0
      · omega
      · have := h c.own h0
        rw [cv_own] at this
        exact this
    · have := h (c.kh t) (hc.lt t ht)
      rw [cv_entry hc.asc ht (hc.ne t ht), o, cv_own] at this
      exact this
    · have hh := h (c.kh t) (hc.lt t ht)
      rw [cv_entry hc.asc ht (hc.ne t ht)] at hh
      have hp := hc.pos t ht
      have hl : look d.kh d.kn d.kl (c.kh t) = cv d (c.kh t) := by unfold cv; rw [if_neg o]
      obtain ⟨s, hs, he, hv⟩ := look_inv (kh := d.kh) (kn := d.kn) (i := c.kh t) d.kl (by rw [hl]; omega)
      exact ⟨s, hs, he, by rw [← hv, hl]; exact hh⟩

/-- 'y knows x': x's counts at most y's, and strictly below at y's host (k: its place, if any). -/
def Knows (n : Nat) (hk : Nat → Prop) (y x : Ck) : Prop := (∀ j, j < n → cv x j ≤ cv y j) ∧ ∃ k, k < n ∧ hk k ∧ cv x k < cv y k
theorem not_both {n : Nat} {hy hx : Nat → Prop} {y x : Ck} (h1 : Knows n hy y x) (h2 : Knows n hx x y) : False := by
  obtain ⟨_, k, hk, _, hlt⟩ := h1
  have := h2.1 k hk
  omega
end Go.Kn
