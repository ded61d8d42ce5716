/-
  THE PLAIN LAWS ON DECIMAL DIGITS: no Go in sight.
-/
import Derived.KernelRfl
namespace Go.Proofs.Qxb6618065a

/-- The last n decimal digits of v, as bytes. -/
def digs (v : Int) : Nat → List Int
  | 0 => []
  | n + 1 => digs (v / 10) n ++ [48 + v % 10]

/-- Ten to the k. -/
def p10 : Nat → Int
  | 0 => 1
  | k + 1 => p10 k * 10

theorem p10_pos (k : Nat) : 0 < p10 k := by
  induction k with
  | zero => decide
  | succ k ih => simp only [p10]; omega

theorem p10_le (k : Nat) (h : k ≤ 6) : p10 k ≤ 1000000 := by
  match k, h with
  | 0, _ => decide
  | 1, _ => decide
  | 2, _ => decide
  | 3, _ => decide
  | 4, _ => decide
  | 5, _ => decide
  | 6, _ => decide
  | n + 7, h => omega

theorem digs_length (n : Nat) : ∀ v : Int, (digs v n).length = n := by
  induction n with
  | zero => intro v; rfl
  | succ n ih => intro v; simp [digs, ih]

theorem digs_wf (n : Nat) : ∀ (v : Int), ∀ z ∈ digs v n, 48 ≤ z ∧ z ≤ 57 := by
  induction n with
  | zero => intro v z hz; simp [digs] at hz
  | succ n ih =>
    intro v z hz
    simp only [digs, List.mem_append, List.mem_singleton] at hz
    rcases hz with h | h
    · exact ih _ z h
    · omega

theorem div_p10 (v : Int) (k : Nat) : v / 10 / p10 k = v / p10 (k + 1) := by
  rw [Int.ediv_ediv_of_nonneg (by decide), p10, Int.mul_comm]

theorem digs_split (j k : Nat) : ∀ v : Int, digs v (j + k) = digs (v / p10 k) j ++ digs v k := by
  induction k with
  | zero => intro v; simp [p10, digs]
  | succ k ih =>
    intro v
    rw [← Nat.add_assoc, digs, ih, div_p10, digs, List.append_assoc]

theorem digs_one_more (j : Nat) (v : Int) : digs v (j + 1) = (48 + v / p10 j % 10) :: digs v j := by
  have := digs_split 1 j v
  rw [Nat.add_comm 1 j] at this
  rw [this]
  simp [digs]

/-- Horner's rule, from the left. -/
def horner (acc : Int) : List Int → Int
  | [] => acc
  | z :: r => horner (acc * 10 + (z - 48)) r

theorem horner_append (l r : List Int) : ∀ acc : Int, horner acc (l ++ r) = horner (horner acc l) r := by
  induction l with
  | nil => intro acc; rfl
  | cons z l ih => intro acc; simp [horner, ih]

theorem horner_digs (n : Nat) : ∀ v : Int, horner 0 (digs v n) = v % p10 n := by
  induction n with
  | zero => intro v; simp [digs, horner, p10]
  | succ n ih =>
    intro v
    rw [digs, horner_append, ih]
    simp only [horner, p10]
    have h := p10_pos n
    have e1 := Int.mul_ediv_add_emod (v / 10) (p10 n)
    have e2 := Int.emod_nonneg (v / 10) (Int.ne_of_gt h)
    have e3 := Int.emod_lt_of_pos (v / 10) h
    have e4 : p10 n * 10 * (v / 10 / p10 n) = 10 * (p10 n * (v / 10 / p10 n)) := by rw [Int.mul_comm (p10 n) 10, Int.mul_assoc]
    exact (((Int.ediv_emod_unique (a := v) (b := p10 n * 10) (q := v / 10 / p10 n) (by omega)).2 ⟨by rw [e4]; omega, by omega, by omega⟩).2).symm

theorem horner_bound (l : List Int) (h : ∀ z ∈ l, 48 ≤ z ∧ z ≤ 57) : ∀ (acc b : Int), 0 ≤ acc → acc < b → 0 ≤ horner acc l ∧ horner acc l < b * p10 l.length := by
  induction l with
  | nil => intro acc b h0 h1; simp [horner, p10]; omega
  | cons z r ih =>
    intro acc b h0 h1
    have hz := h z (by simp)
    have := ih (fun y hy => h y (by simp [hy])) (acc * 10 + (z - 48)) (b * 10) (by omega) (by omega)
    simp only [horner, List.length_cons, p10]
    refine ⟨this.1, ?_⟩
    have e : b * 10 * p10 r.length = b * (p10 r.length * 10) := by rw [Int.mul_assoc, Int.mul_comm 10]
    omega

theorem horner_take (zs : List Int) (k : Nat) (hk : k < zs.length) : horner 0 (zs.take (k + 1)) = horner 0 (zs.take k) * 10 + (zs.getD k 0 - 48) := by
  rw [List.take_succ_eq_append_getElem hk, horner_append]
  simp [horner, List.getD, hk]

theorem horner_take_bound (zs : List Int) (k : Nat) (hk : k ≤ zs.length) (h6 : zs.length ≤ 6) (h : ∀ z ∈ zs, 48 ≤ z ∧ z ≤ 57) : 0 ≤ horner 0 (zs.take k) ∧ horner 0 (zs.take k) < 1000000 := by
  have hb := horner_bound (zs.take k) (fun z hz => h z (List.mem_of_mem_take hz)) 0 1 (by omega) (by omega)
  have := p10_le (zs.take k).length (by simp; omega)
  omega

end Go.Proofs.Qxb6618065a
