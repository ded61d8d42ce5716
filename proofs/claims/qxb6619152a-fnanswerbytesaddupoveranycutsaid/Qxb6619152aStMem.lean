/-
  WHAT MEMORY HOLDS: a stale key's five cells, rows of them, a text behind a pointer; sums.
-/
import Derived.Test.Qxb6619152aMem
namespace Go.Proofs.Qxb6619152a
open Go.RowKit

/-- What a stale key holds (its value and extent by their addresses alone). -/
structure St where
  key : ByteArray
  ver : Int
  vla : Option Addr
  ext : Option Addr
  abs : Bool

def St.cs (x : St) : List Value := [.string x.key, .int .u64 x.ver, .pointer x.vla, .pointer x.ext, .bool x.abs]

def StAt (w : World) (b o : Nat) (x : St) : Prop :=
  w.cell? ⟨b, o, none⟩ = some (.string x.key) ∧ w.cell? ⟨b, o + 1, none⟩ = some (.int .u64 x.ver) ∧ w.cell? ⟨b, o + 2, none⟩ = some (.pointer x.vla) ∧ w.cell? ⟨b, o + 3, none⟩ = some (.pointer x.ext) ∧ w.cell? ⟨b, o + 4, none⟩ = some (.bool x.abs)

structure Sts (w : World) (a : Option Addr) (n : Nat) (ss : Nat → St) : Prop where
  cells : 0 < n → ∃ b off, a = some ⟨b, off, none⟩ ∧ ∀ i, i < n → StAt w b (off + i * 5) (ss i)

/-- A pointer to a text: nil, or to the text. -/
def ValAt (w : World) (a : Option Addr) (s : Option ByteArray) : Prop :=
  (a = none ∧ s = none) ∨ ∃ b o x, a = some ⟨b, o, none⟩ ∧ s = some x ∧ w.cell? ⟨b, o, none⟩ = some (.string x)

theorem StAt.kept {w w' : World} {b o : Nat} {x : St} {r : Option Nat} (h : StAt w b o x) (hg : w.grownBy w' r) (hne : some b ≠ r) : StAt w' b o x :=
  ⟨hg.cell h.1 hne, hg.cell h.2.1 hne, hg.cell h.2.2.1 hne, hg.cell h.2.2.2.1 hne, hg.cell h.2.2.2.2 hne⟩

theorem Sts.same {w w' : World} {a : Option Addr} {n : Nat} {ss : Nat → St} (h : Sts w a n ss) (hg : w.grownBy w' none) : Sts w' a n ss := by
  refine ⟨fun h0 => ?_⟩
  obtain ⟨b, off, rfl, hc⟩ := h.cells h0
  exact ⟨b, off, rfl, fun i hi => (hc i hi).kept hg (by simp)⟩

theorem ValAt.kept {w w' : World} {a : Option Addr} {s : Option ByteArray} {r : Option Nat} (h : ValAt w a s) (hg : w.grownBy w' r) (hne : blk a = none ∨ blk a ≠ r) : ValAt w' a s := by
  rcases h with h | ⟨b, o, x, rfl, rfl, h⟩
  · exact .inl h
  · refine .inr ⟨b, o, x, rfl, rfl, hg.cell h ?_⟩
    rcases hne with hne | hne
    · simp [blk] at hne
    · simpa [blk] using hne

theorem ValAt.same {w w' : World} {a : Option Addr} {s : Option ByteArray} (h : ValAt w a s) (hg : w.grownBy w' none) : ValAt w' a s :=
  h.kept hg (by cases hb : blk a <;> simp)

/-- Five cells stored, one by one. -/
def put5 (w : World) (g o : Nat) (x : St) : World :=
  ((((w.setCell ⟨g, o, none⟩ (.string x.key)).setCell ⟨g, o + 1, none⟩ (.int .u64 x.ver)).setCell ⟨g, o + 2, none⟩ (.pointer x.vla)).setCell ⟨g, o + 3, none⟩ (.pointer x.ext)).setCell ⟨g, o + 4, none⟩ (.bool x.abs)

theorem put5_eq (w : World) (g o : Nat) (x : St) : put5 w g o x = w.setCells g o x.cs := rfl

theorem Room.put5 {w : World} {g m : Nat} (h : Room w g 0 m) (o : Nat) (x : St) (ho : o + 5 ≤ m) : Room (put5 w g o x) g 0 m := by
  rw [put5_eq]
  refine h.setCells g o x.cs (fun _ j hj => ?_)
  have := (h (o + j) (by simp [St.cs] at hj; omega)).1
  rwa [Nat.zero_add] at this

theorem put5_at {w : World} {g m : Nat} (h : Room w g 0 m) (o : Nat) (x : St) (ho : o + 5 ≤ m) : StAt (put5 w g o x) g o x := by
  have hin := World.cell?_setCells_in g x.cs o w (fun j hj => by
    have := (h (o + j) (by simp [St.cs] at hj; omega)).1
    rwa [Nat.zero_add] at this)
  rw [put5_eq]
  exact ⟨hin 0 (by simp [St.cs]), hin 1 (by simp [St.cs]), hin 2 (by simp [St.cs]), hin 3 (by simp [St.cs]), hin 4 (by simp [St.cs])⟩

theorem put5_other {w : World} {g o o' : Nat} {x y : St} (h : StAt w g o' y) (ho : o' + 5 ≤ o ∨ o + 5 ≤ o') : StAt (put5 w g o x) g o' y := by
  rw [put5_eq]
  have out : ∀ j, j < 5 → (w.setCells g o x.cs).cell? ⟨g, o' + j, none⟩ = w.cell? ⟨g, o' + j, none⟩ := fun j hj => World.cell?_setCells_out g _ _ _ _ (fun _ _ => by simp [St.cs]; omega)
  exact ⟨(out 0 (by omega)).trans h.1, (out 1 (by omega)).trans h.2.1, (out 2 (by omega)).trans h.2.2.1, (out 3 (by omega)).trans h.2.2.2.1, (out 4 (by omega)).trans h.2.2.2.2⟩

theorem grown_put5 (w : World) (g o : Nat) (x : St) : w.grownBy (put5 w g o x) (some g) := by
  rw [put5_eq]; exact grown_setCells g _ _ _

theorem size_put5 (w : World) (g o : Nat) (x : St) : (put5 w g o x).heap.size = w.heap.size := by
  unfold put5; simp

theorem Room.five {w : World} {g m : Nat} (h : Room w g 0 m) (o : Nat) (ho : o + 5 ≤ m) : ∃ v0 v1 v2 v3 v4, w.cell? ⟨g, o, none⟩ = some v0 ∧ w.cell? ⟨g, o + 1, none⟩ = some v1 ∧ w.cell? ⟨g, o + 2, none⟩ = some v2 ∧ w.cell? ⟨g, o + 3, none⟩ = some v3 ∧ w.cell? ⟨g, o + 4, none⟩ = some v4 ∧
    w.frozen? ⟨g, o, none⟩ = false ∧ w.frozen? ⟨g, o + 1, none⟩ = false ∧ w.frozen? ⟨g, o + 2, none⟩ = false ∧ w.frozen? ⟨g, o + 3, none⟩ = false ∧ w.frozen? ⟨g, o + 4, none⟩ = false := by
  have at_ : ∀ j, j < 5 → ∃ v, w.cell? ⟨g, o + j, none⟩ = some v ∧ w.frozen? ⟨g, o + j, none⟩ = false := fun j hj => by
    have := h (o + j) (by omega)
    rw [Nat.zero_add] at this
    obtain ⟨v, hv⟩ := Option.isSome_iff_exists.1 this.1
    exact ⟨v, hv, this.2⟩
  obtain ⟨v0, a0, b0⟩ := at_ 0 (by omega)
  obtain ⟨v1, a1, b1⟩ := at_ 1 (by omega)
  obtain ⟨v2, a2, b2⟩ := at_ 2 (by omega)
  obtain ⟨v3, a3, b3⟩ := at_ 3 (by omega)
  obtain ⟨v4, a4, b4⟩ := at_ 4 (by omega)
  exact ⟨v0, v1, v2, v3, v4, a0, a1, a2, a3, a4, b0, b1, b2, b3, b4⟩

/-- A stale key as the answer holds it: the key's text at a place, its value's text behind a pointer. -/
def StLike (w : World) (g o : Nat) (key : ByteArray) (s : Option ByteArray) : Prop := ∃ x : St, StAt w g o x ∧ x.key = key ∧ ValAt w x.vla s ∧ blk x.vla ≠ some g

theorem StLike.same {w w' : World} {g o : Nat} {key : ByteArray} {s : Option ByteArray} (h : StLike w g o key s) (hg : w.grownBy w' none) : StLike w' g o key s := by
  obtain ⟨x, h1, h2, h3, h4⟩ := h
  exact ⟨x, h1.kept hg (by simp), h2, h3.same hg, h4⟩

/-- What one round of zzWireStale does. -/
theorem round5 {w wr w2 wf : World} {g n k : Nat} {ks : Nat → ByteArray} {vs : Nat → Option ByteArray} (x : St)
    (hd : ∀ j, j < k → StLike wr g (j * 5) (ks j) (vs j)) (hr : Room wr g 0 (n * 5)) (hg : w.grownBy wr none) (hgs : w.heap.size ≤ g) (hk : k < n) (hlt : g < wr.heap.size)
    (h2 : wr.grownBy w2 none) (hx : x.key = ks k) (hv : ValAt w2 x.vla (vs k)) (hb : blk x.vla ≠ some g) (hf : (put5 w2 g (k * 5) x).grownBy wf none) :
    (∀ j, j < k + 1 → StLike wf g (j * 5) (ks j) (vs j)) ∧ Room wf g 0 (n * 5) ∧ w.grownBy wf none ∧ g < wf.heap.size := by
  have hr2 := hr.kept h2 (by simp)
  have hp := grown_put5 w2 g (k * 5) x
  refine ⟨fun j hj => StLike.same ?_ hf, Room.kept (hr2.put5 _ _ (by omega)) hf (by simp), ?_, ?_⟩
  · by_cases hjk : j = k
    · subst hjk; exact ⟨x, put5_at hr2 _ _ (by omega), hx, hv.kept hp (.inr hb), hb⟩
    · obtain ⟨y, h1, h3, h4, h5⟩ := (hd j (by omega)).same h2
      exact ⟨y, put5_other h1 (by omega), h3, h4.kept hp (.inr h5), h5⟩
  · exact grown_trans (grown_trans (grown_trans hg h2 (by simp)) hp (fun q hq => .inr (by cases hq; exact hgs))) hf (by simp)
  · have := hf.size
    rw [size_put5] at this
    have := h2.size
    omega

/-! ### Sums -/
/-- f 0 + .. + f (n - 1). -/
def sm (f : Nat → Nat) : Nat → Nat
  | 0 => 0
  | n + 1 => sm f n + f n

theorem sm_split (f : Nat → Nat) (i k : Nat) : sm f (i + k) = sm f i + sm (fun j => f (i + j)) k := by
  induction k with
  | zero => rfl
  | succ k ih =>
    rw [← Nat.add_assoc]
    simp only [sm]
    omega

theorem sm_le (f : Nat → Nat) (i n : Nat) (h : i ≤ n) : sm f i ≤ sm f n := by
  have := sm_split f i (n - i)
  rw [show i + (n - i) = n by omega] at this
  omega

theorem sm_one (f : Nat → Nat) (i n : Nat) (h : i < n) : sm f i + f i ≤ sm f n := sm_le f (i + 1) n h

/-- A text's length, nil counted as nothing. -/
def osz : Option ByteArray → Nat
  | none => 0
  | some s => s.size

end Go.Proofs.Qxb6619152a
