/-
  THE PLAIN LAWS OF LINES OF W BYTES: how long the text of the first N bytes is, where a line feed stands, where a cut falls. No Go in sight.
-/
import Derived.WalkKit
namespace Go.Proofs.Qxb6619168a

/-- The length of the text of the first N bytes in lines of W (W = 0: one line). -/
def LL (N W : Nat) : Nat := N + (N - 1) / W

/-- A line feed goes before the byte at offset N. -/
def Fd (N W : Nat) : Prop := 0 < N ∧ 0 < W ∧ N % W = 0

/-- The column ahead of the byte at offset N: W where the line is full. -/
def col (N W : Nat) : Nat := if N = 0 then 0 else (N - 1) % W + 1

theorem dm {W x q r : Nat} (h : x = W * q + r) (hr : r < W) : x / W = q ∧ x % W = r := by
  subst h
  have hW : 0 < W := by omega
  refine ⟨?_, ?_⟩
  · rw [Nat.mul_add_div hW, Nat.div_eq_of_lt hr, Nat.add_zero]
  · rw [Nat.mul_add_mod, Nat.mod_eq_of_lt hr]

theorem ex_dm {W : Nat} (hW : 0 < W) (x : Nat) : ∃ q r, x = W * q + r ∧ r < W := ⟨x / W, x % W, (Nat.div_add_mod x W).symm, Nat.mod_lt _ hW⟩

theorem LL_one {W N q r : Nat} (h : N = W * q + r + 1) (hr : r < W) : LL N W = N + q ∧ col N W = r + 1 := by
  have h1 : N - 1 = W * q + r := by omega
  obtain ⟨hd, hm⟩ := dm h1 hr
  unfold LL col
  rw [hd, hm, if_neg (by omega)]
  exact ⟨rfl, rfl⟩

theorem LL_zero (W : Nat) : LL 0 W = 0 := by unfold LL; simp

theorem LL_nowidth (N : Nat) : LL N 0 = N := by unfold LL; simp

theorem ex_one {W N : Nat} (hW : 0 < W) (h : 0 < N) : ∃ q r, N = W * q + r + 1 ∧ r < W := by
  obtain ⟨q, r, h1, h2⟩ := ex_dm hW (N - 1)
  exact ⟨q, r, by omega, h2⟩

theorem col_le {W N : Nat} (hW : 0 < W) : col N W ≤ W := by
  by_cases h : N = 0
  · subst h; unfold col; simp
  · obtain ⟨q, r, h1, h2⟩ := ex_one hW (by omega : 0 < N)
    rw [(LL_one h1 h2).2]; omega

theorem col_full {W N : Nat} (hW : 0 < W) : col N W = W ↔ Fd N W := by
  by_cases h : N = 0
  · subst h; unfold col Fd; simp; omega
  · obtain ⟨q, r, h1, h2⟩ := ex_one hW (by omega : 0 < N)
    rw [(LL_one h1 h2).2]
    constructor
    · intro e
      refine ⟨by omega, hW, ?_⟩
      have h3 : N = W * (q + 1) + 0 := by rw [Nat.mul_add, Nat.mul_one]; omega
      exact (dm h3 hW).2
    · intro ⟨_, _, hm⟩
      by_cases e : r + 1 = W
      · exact e
      · have h3 : N = W * q + (r + 1) := by omega
        have := (dm h3 (by omega)).2
        omega

/-- Within a line. -/
theorem LL_within {W N n : Nat} (hW : 0 < W) (h : col N W + n ≤ W) : LL (N + n) W = LL N W + n ∧ col (N + n) W = col N W + n := by
  by_cases hN : N = 0
  · subst hN
    have hc : col 0 W = 0 := by unfold col; simp
    rw [hc] at h ⊢
    by_cases hn : n = 0
    · subst hn; exact ⟨rfl, by rw [hc]⟩
    · have h1 : n = W * 0 + (n - 1) + 1 := by omega
      obtain ⟨e1, e2⟩ := LL_one h1 (by omega)
      rw [Nat.zero_add, e1, e2, LL_zero]
      omega
  · obtain ⟨q, r, h1, h2⟩ := ex_one hW (by omega : 0 < N)
    obtain ⟨e1, e2⟩ := LL_one h1 h2
    rw [e2] at h
    have h3 : N + n = W * q + (r + n) + 1 := by omega
    obtain ⟨e3, e4⟩ := LL_one h3 (by omega)
    rw [e1, e2, e3, e4]
    omega

/-- Past a full line. -/
theorem LL_past {W N n : Nat} (hW : 0 < W) (hc : col N W = W) (h1 : 1 ≤ n) (h2 : n ≤ W) : LL (N + n) W = LL N W + n + 1 ∧ col (N + n) W = n := by
  have hf := (col_full hW).1 hc
  obtain ⟨q, r, h3, h4⟩ := ex_one hW hf.1
  obtain ⟨e1, e2⟩ := LL_one h3 h4
  rw [e2] at hc
  have h5 : N + n = W * (q + 1) + (n - 1) + 1 := by rw [Nat.mul_add, Nat.mul_one]; omega
  obtain ⟨e3, e4⟩ := LL_one h5 (by omega)
  rw [e1, e3, e4]
  omega

theorem LL_succ_lt (N W : Nat) : LL N W < LL (N + 1) W := by
  unfold LL
  have : (N - 1) / W ≤ (N + 1 - 1) / W := Nat.div_le_div_right (by omega)
  omega

theorem LL_mono (W : Nat) {N M : Nat} (h : N ≤ M) : LL N W ≤ LL M W := by
  unfold LL
  have : (N - 1) / W ≤ (M - 1) / W := Nat.div_le_div_right (by omega)
  omega

theorem LL_lt (W : Nat) {N M : Nat} (h : N < M) : LL N W < LL M W :=
  Nat.lt_of_lt_of_le (LL_succ_lt N W) (LL_mono W h)

theorem LL_ge (N W : Nat) : N ≤ LL N W := Nat.le_add_right _ _

theorem LL_le (N W : Nat) : LL N W ≤ 2 * N := by
  unfold LL
  have : (N - 1) / W ≤ N - 1 := Nat.div_le_self _ _
  omega

/-- The text of m bytes from offset S: at most two bytes each. -/
theorem LL_diff (S m W : Nat) : LL (S + m) W - LL S W ≤ 2 * m := by
  induction m with
  | zero => simp
  | succ m ih =>
    by_cases hW : W = 0
    · subst hW; rw [LL_nowidth, LL_nowidth]; omega
    · have hW' : 0 < W := by omega
      have hc := col_le (N := S + m) hW'
      have : LL (S + (m + 1)) W ≤ LL (S + m) W + 2 := by
        rw [← Nat.add_assoc]
        by_cases hf : col (S + m) W = W
        · rw [(LL_past hW' hf (Nat.le_refl _) (by omega)).1]
          omega
        · rw [(LL_within hW' (by omega : col (S + m) W + 1 ≤ W)).1]
          omega
      omega

/-- The closed form of the feeds. -/
theorem LL_feeds (S m W : Nat) : m + ((S + m - 1) / W - (S - 1) / W) = LL (S + m) W - LL S W := by
  unfold LL
  have : (S - 1) / W ≤ (S + m - 1) / W := Nat.div_le_div_right (by omega)
  omega

/-- Where a cut of the first E bytes of the whole text falls. -/
def cutAt (E W : Nat) : Nat := if E = 0 then 0 else (E - 1) / (W + 1) * W + min ((E - 1) % (W + 1)) (W - 1) + 1

theorem cutAt_spec {E W : Nat} (hW : 0 < W) : LL (cutAt E W) W ≤ E ∧ E ≤ LL (cutAt E W) W + 1 ∧ E < LL (cutAt E W + 1) W ∧ (E = LL (cutAt E W) W + 1 → Fd (cutAt E W) W) := by
  by_cases h0 : E = 0
  · subst h0
    have : cutAt 0 W = 0 := by unfold cutAt; simp
    rw [this]
    have h1 := LL_ge 1 W
    refine ⟨by rw [LL_zero]; omega, by omega, by rw [Nat.zero_add]; omega, fun h => by omega⟩
  · obtain ⟨a, b, h1, h2⟩ := ex_dm (show 0 < W + 1 by omega) (E - 1)
    obtain ⟨d1, d2⟩ := dm h1 h2
    have hT : cutAt E W = a * W + min b (W - 1) + 1 := by unfold cutAt; rw [if_neg h0, d1, d2]
    have hE : E = W * a + a + b + 1 := by rw [Nat.add_mul, Nat.one_mul] at h1; omega
    by_cases hb : b < W
    · have hm : min b (W - 1) = b := by omega
      rw [hm] at hT
      have h3 : cutAt E W = W * a + b + 1 := by rw [hT, Nat.mul_comm]
      obtain ⟨e1, e2⟩ := LL_one h3 hb
      have hlt := LL_succ_lt (cutAt E W) W
      refine ⟨by omega, by omega, by omega, fun h => by omega⟩
    · have hbW : b = W := by omega
      have hm : min b (W - 1) = W - 1 := by omega
      rw [hm] at hT
      have h3 : cutAt E W = W * a + (W - 1) + 1 := by rw [hT, Nat.mul_comm]
      obtain ⟨e1, e2⟩ := LL_one h3 (by omega)
      have hc : col (cutAt E W) W = W := by omega
      have hp := (LL_past hW hc (Nat.le_refl 1) (by omega)).1
      refine ⟨by omega, by omega, by omega, fun h => (col_full hW).1 hc⟩

theorem cutAt_in {S m n W : Nat} (hW : 0 < W) (hn : n ≤ LL (S + m) W - LL S W) : S ≤ cutAt (LL S W + n) W ∧ cutAt (LL S W + n) W ≤ S + m := by
  obtain ⟨h1, h2, h3, _⟩ := cutAt_spec (E := LL S W + n) hW
  have hle := LL_mono W (Nat.le_add_right S m)
  constructor
  · by_cases h : S ≤ cutAt (LL S W + n) W
    · exact h
    · have := LL_mono W (show cutAt (LL S W + n) W + 1 ≤ S by omega)
      omega
  · by_cases h : cutAt (LL S W + n) W ≤ S + m
    · exact h
    · have := LL_lt W (show S + m < cutAt (LL S W + n) W by omega)
      omega

end Go.Proofs.Qxb6619168a
