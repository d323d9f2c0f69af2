import Derived.Test.Qxb6601249aRows
namespace Go.Proofs.Qxb6601249a

/-- f with v at i. -/
def upd (f : Nat → Int) (i : Nat) (v : Int) (k : Nat) : Int := if k = i then v else f k
theorem upd_same (f : Nat → Int) (i : Nat) (v : Int) : upd f i v i = v := by simp [upd]
theorem upd_ne (f : Nat → Int) (i : Nat) (v : Int) {k : Nat} (h : k ≠ i) : upd f i v k = f k := by simp [upd, h]

/-- How many of the first n are at least L? -/
def cge (L : Int) (f : Nat → Int) : Nat → Nat
  | 0 => 0
  | n + 1 => cge L f n + if L ≤ f n then 1 else 0
theorem cge_le (L : Int) (f : Nat → Int) (n : Nat) : cge L f n ≤ n := by
  induction n with
  | zero => simp [cge]
  | succ n ih => simp only [cge]; split <;> omega
theorem cge_congr (L : Int) (f g : Nat → Int) (n : Nat) (h : ∀ k, k < n → f k = g k) : cge L f n = cge L g n := by
  induction n with
  | zero => rfl
  | succ n ih => simp only [cge]; rw [ih (fun k hk => h k (by omega)), h n (by omega)]
/-- One place turned. -/
theorem cge_upd (L : Int) (f : Nat → Int) (i : Nat) (v : Int) (n : Nat) (hi : i < n) :
    cge L (upd f i v) n + (if L ≤ f i then 1 else 0) = cge L f n + if L ≤ v then 1 else 0 := by
  induction n with
  | zero => omega
  | succ n ih =>
    simp only [cge]
    by_cases e : i = n
    · subst e
      rw [upd_same, cge_congr L (upd f i v) f i (fun k hk => upd_ne f i v (by omega))]
      omega
    · rw [upd_ne f i v (by omega)]
      have := ih (by omega)
      omega
/-- Two places exchanged. -/
def swp (f : Nat → Int) (i j : Nat) : Nat → Int := upd (upd f i (f j)) j (f i)
theorem cge_swap (L : Int) (f : Nat → Int) (i j n : Nat) (hi : i < n) (hj : j < n) (h : i ≠ j) : cge L (swp f i j) n = cge L f n := by
  have h1 := cge_upd L f i (f j) n hi
  have h2 := cge_upd L (upd f i (f j)) j (f i) n hj
  rw [upd_ne f i (f j) (Ne.symm h)] at h2
  unfold swp
  omega

/-- The greatest of the first n + 1. -/
def top (f : Nat → Int) : Nat → Int
  | 0 => f 0
  | n + 1 => if top f n < f (n + 1) then f (n + 1) else top f n
theorem top_ge (f : Nat → Int) (n k : Nat) (h : k ≤ n) : f k ≤ top f n := by
  induction n with
  | zero => have : k = 0 := by omega
            subst this; exact Int.le_refl _
  | succ n ih =>
    simp only [top]
    by_cases e : k = n + 1
    · subst e; split <;> omega
    · have := ih (by omega); split <;> omega
theorem top_in (f : Nat → Int) (n : Nat) : ∃ k, k ≤ n ∧ top f n = f k := by
  induction n with
  | zero => exact ⟨0, Nat.le_refl _, rfl⟩
  | succ n ih =>
    simp only [top]
    split
    · exact ⟨n + 1, Nat.le_refl _, rfl⟩
    · obtain ⟨k, hk, e⟩ := ih; exact ⟨k, by omega, e⟩

/-- The verdict as 'add' reckons it. -/
def least (t : Int) : Int := if 8 ≤ t then t - 1 else t
def verdict (f : Nat → Int) : Bool := decide (4 ≤ top f 15 ∧ 6 ≤ cge (least (top f 15)) f 16)

/-- Sorted downwards. -/
def Down (f : Nat → Int) (n : Nat) : Prop := ∀ a b, a < b → b < n → f b ≤ f a

theorem cge_pos (L : Int) (f : Nat → Int) (n : Nat) : 0 < cge L f n ↔ ∃ k, k < n ∧ L ≤ f k := by
  induction n with
  | zero => simp [cge]
  | succ n ih =>
    simp only [cge]
    constructor
    · intro h
      by_cases e : L ≤ f n
      · exact ⟨n, by omega, e⟩
      · rw [if_neg e] at h
        obtain ⟨k, hk, hl⟩ := ih.1 h
        exact ⟨k, by omega, hl⟩
    · rintro ⟨k, hk, hl⟩
      by_cases e : k = n
      · subst e; rw [if_pos hl]; omega
      · have := ih.2 ⟨k, by omega, hl⟩; omega

theorem cge_all (L : Int) (f : Nat → Int) (n : Nat) (h : ∀ k, k < n → L ≤ f k) : cge L f n = n := by
  induction n with
  | zero => rfl
  | succ n ih => simp only [cge]; rw [ih (fun k hk => h k (by omega)), if_pos (h n (by omega))]
theorem cge_mono (L : Int) (f : Nat → Int) (n m : Nat) (h : n ≤ m) : cge L f n ≤ cge L f m := by
  induction m with
  | zero => have : n = 0 := by omega
            subst this; exact Nat.le_refl _
  | succ m ih =>
    by_cases e : n = m + 1
    · subst e; exact Nat.le_refl _
    · have := ih (by omega); simp only [cge]; omega
theorem cge_stop (L : Int) (f : Nat → Int) (n m : Nat) (h : n ≤ m) (hs : ∀ k, n ≤ k → k < m → f k < L) : cge L f m = cge L f n := by
  induction m with
  | zero => have : n = 0 := by omega
            subst this; rfl
  | succ m ih =>
    by_cases e : n = m + 1
    · subst e; rfl
    · simp only [cge]
      rw [ih (by omega) (fun k h1 h2 => hs k h1 (by omega)), if_neg (by have := hs m (by omega) (by omega); omega)]
      omega

/-- The sixth from the top, by counting. -/
theorem sixth (L : Int) (s : Nat → Int) (hd : Down s 16) : L ≤ s 5 ↔ 6 ≤ cge L s 16 := by
  constructor
  · intro h
    have h6 : cge L s 6 = 6 := cge_all L s 6 (fun k hk => by
      by_cases e : k = 5
      · subst e; exact h
      · have := hd k 5 (by omega) (by omega); omega)
    have := cge_mono L s 6 16 (by omega)
    omega
  · intro h
    rcases Int.lt_or_le (s 5) L with hl | hl
    · have := cge_stop L s 5 16 (by omega) (fun k h1 h2 => by
        by_cases e : k = 5
        · subst e; exact hl
        · have := hd 5 k (by omega) h2; omega)
      have := cge_le L s 5
      omega
    · exact hl
theorem head_top (s f : Nat → Int) (hd : Down s 16) (hc : ∀ L, cge L s 16 = cge L f 16) : s 0 = top f 15 := by
  have h1 : s 0 ≤ top f 15 := by
    have : 0 < cge (s 0) f 16 := by rw [← hc]; exact (cge_pos _ _ _).2 ⟨0, by omega, Int.le_refl _⟩
    obtain ⟨k, hk, hl⟩ := (cge_pos _ _ _).1 this
    have := top_ge f 15 k (by omega)
    omega
  have h2 : top f 15 ≤ s 0 := by
    obtain ⟨k, hk, e⟩ := top_in f 15
    have : 0 < cge (top f 15) s 16 := by rw [hc]; exact (cge_pos _ _ _).2 ⟨k, by omega, by omega⟩
    obtain ⟨k', hk', hl⟩ := (cge_pos _ _ _).1 this
    by_cases e0 : k' = 0
    · subst e0; exact hl
    · have := hd 0 k' (by omega) hk'; omega
  omega
/-- The verdict over a sorted copy is the verdict. -/
theorem verdict_sorted (s f : Nat → Int) (hd : Down s 16) (hc : ∀ L, cge L s 16 = cge L f 16) : decide (4 ≤ s 0 ∧ least (s 0) ≤ s 5) = verdict f := by
  unfold verdict
  rw [head_top s f hd hc, Bool.eq_iff_iff]
  simp only [decide_eq_true_eq]
  rw [sixth _ s hd, hc]

/-! ### The insertion sort -/
/-- Sorted down to i, but for the pairs that end at j. -/
def Near (f : Nat → Int) (i j : Nat) : Prop := ∀ a b, a < b → b ≤ i → b ≠ j → f b ≤ f a
theorem near_start (f : Nat → Int) (i : Nat) (h : Down f i) : Near f i i := fun a b h1 h2 h3 => h a b h1 (by omega)
theorem near_step (f : Nat → Int) (i j : Nat) (hj : j + 1 ≤ i) (h : Near f i (j + 1)) (hlt : f j < f (j + 1)) : Near (swp f j (j + 1)) i j := by
  intro a b h1 h2 h3
  unfold swp
  by_cases hb : b = j + 1
  · subst hb
    rw [upd_same]
    by_cases ha : a = j
    · subst ha
      rw [upd_ne _ _ _ (by omega), upd_same]; omega
    · rw [upd_ne _ _ _ (by omega), upd_ne _ _ _ ha]
      exact h a j (by omega) (by omega) (by omega)
  · rw [upd_ne _ _ _ hb, upd_ne _ _ _ h3]
    by_cases ha : a = j + 1
    · subst ha
      rw [upd_same]
      exact h j b (by omega) h2 hb
    · rw [upd_ne _ _ _ ha]
      by_cases ha' : a = j
      · subst ha'
        rw [upd_same]
        exact h (a + 1) b (by omega) h2 hb
      · rw [upd_ne _ _ _ ha']
        exact h a b h1 h2 hb
theorem near_end (f : Nat → Int) (i j : Nat) (h : Near f i j) (he : j = 0 ∨ f j ≤ f (j - 1)) : Down f (i + 1) := by
  intro a b h1 h2
  by_cases hb : b = j
  · subst hb
    rcases he with he | he
    · omega
    · by_cases ha : a = b - 1
      · subst ha; exact he
      · have := h a (b - 1) (by omega) (by omega) (by omega); omega
  · exact h a b h1 (by omega) hb
end Go.Proofs.Qxb6601249a
