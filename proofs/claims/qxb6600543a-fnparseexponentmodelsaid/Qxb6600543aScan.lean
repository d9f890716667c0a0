/-
  The model's own reading, in plain words: what its scan for the first digit that is not zero finds. No Go in sight.
-/
import Derived.Test.Qxb6600543aPlain
namespace Go.Proofs.Qxb6600543a
open Go

/-- What the digits give. -/
def expoU (n : Bool) (u : List UInt8) : Int × Bool := if u.all isD then (signed n (clampV u), true) else (0, false)
theorem expoU_bad (n : Bool) {u : List UInt8} (h : u.all isD = false) : expoU n u = (0, false) := by unfold expoU; rw [h]; rfl
theorem expoU_good (n : Bool) {u : List UInt8} (h : u.all isD = true) : expoU n u = (signed n (clampV u), true) := by unfold expoU; rw [h]; rfl

def seg (l : List UInt8) (a k : Nat) : List UInt8 := (l.drop a).take (k - a)
def zeros (l : List UInt8) : Bool := l.all (· == 48)

theorem seg_nil (l : List UInt8) (a : Nat) : seg l a a = [] := by unfold seg; simp
theorem seg_snoc (l : List UInt8) (a k : Nat) (ha : a ≤ k) (h : k < l.length) : seg l a (k + 1) = seg l a k ++ [l[k]] := by
  unfold seg
  rw [show k + 1 - a = (k - a) + 1 from by omega, List.take_succ_eq_append_getElem (by rw [List.length_drop]; omega), List.getElem_drop]
  simp only [show a + (k - a) = k from by omega]
theorem seg_end (l : List UInt8) (a : Nat) : seg l a l.length = l.drop a := by
  unfold seg
  exact List.take_of_length_le (by rw [List.length_drop]; omega)

/-- Behind the look at the places a .. k - 1: all are digits; f is the first that is not zero, or -1. -/
def Sc (l : List UInt8) (a k : Nat) (f : Int) : Prop :=
  (seg l a k).all isD = true ∧ ((f = -1 ∧ zeros (seg l a k) = true) ∨ ∃ j : Nat, f = j ∧ a ≤ j ∧ j < k ∧ zeros (seg l a j) = true ∧ ∃ h : j < l.length, l[j] ≠ 48)

theorem Sc.start (l : List UInt8) (a : Nat) : Sc l a a (-1) := by
  refine ⟨?_, Or.inl ⟨rfl, ?_⟩⟩ <;> rw [seg_nil] <;> rfl
theorem Sc.bd {l : List UInt8} {a k : Nat} {f : Int} (h : Sc l a k f) : -1 ≤ f ∧ f < k := by
  rcases h.2 with ⟨h, _⟩ | ⟨j, h, _, hj, _⟩ <;> omega
theorem Sc.zero {l : List UInt8} {a k : Nat} {f : Int} (h : Sc l a k f) (hf : f < 0) (ha : a ≤ k) (hk : k < l.length) (hz : l[k] = 48) : Sc l a (k + 1) f := by
  obtain ⟨h1, h2⟩ := h
  rcases h2 with ⟨h2, h3⟩ | ⟨j, h2, _⟩
  · refine ⟨?_, Or.inl ⟨h2, ?_⟩⟩
    · rw [seg_snoc l a k ha hk, List.all_append, h1, hz]; rfl
    · unfold zeros at h3 ⊢; rw [seg_snoc l a k ha hk, List.all_append, h3, hz]; rfl
  · omega
theorem Sc.first {l : List UInt8} {a k : Nat} {f : Int} (h : Sc l a k f) (hf : f < 0) (ha : a ≤ k) (hk : k < l.length) (hd : isD l[k] = true) (hz : l[k] ≠ 48) : Sc l a (k + 1) k := by
  obtain ⟨h1, h2⟩ := h
  rcases h2 with ⟨h2, h3⟩ | ⟨j, h2, _⟩
  · refine ⟨?_, Or.inr ⟨k, rfl, ha, by omega, h3, hk, hz⟩⟩
    rw [seg_snoc l a k ha hk, List.all_append, h1]; simp [hd]
  · omega
theorem Sc.keep {l : List UInt8} {a k : Nat} {f : Int} (h : Sc l a k f) (hf : ¬ f < 0) (ha : a ≤ k) (hk : k < l.length) (hd : isD l[k] = true) : Sc l a (k + 1) f := by
  obtain ⟨h1, h2⟩ := h
  rcases h2 with ⟨h2, h3⟩ | ⟨j, h2, h3, h4, h5⟩
  · omega
  · refine ⟨?_, Or.inr ⟨j, h2, h3, by omega, h5⟩⟩
    rw [seg_snoc l a k ha hk, List.all_append, h1]; simp [hd]

theorem val_zeros_only (z : List UInt8) (h : zeros z = true) : val z = 0 := by
  have := val_zeros z [] h
  rw [List.append_nil] at this
  exact this
theorem Sc.all {l : List UInt8} {a : Nat} {f : Int} (h : Sc l a l.length f) : (l.drop a).all isD = true := by
  have := h.1
  rw [seg_end] at this
  exact this
theorem Sc.none {l : List UInt8} {a : Nat} {f : Int} (h : Sc l a l.length f) (hf : f < 0) (n : Bool) : expoU n (l.drop a) = (0, true) := by
  rw [expoU_good n h.all, clamp_eq _ h.all]
  rcases h.2 with ⟨_, h3⟩ | ⟨j, h2, _⟩
  · rw [seg_end] at h3
    rw [val_zeros_only _ h3]
    cases n <;> rfl
  · omega
theorem Sc.split {l : List UInt8} {a j : Nat} (h : Sc l a l.length (j : Int)) : a ≤ j ∧ j < l.length ∧ val (l.drop a) = val (l.drop j) ∧ (l.drop j).all isD = true ∧ ∃ h : j < l.length, l[j] ≠ 48 := by
  rcases h.2 with ⟨h2, _⟩ | ⟨j', h2, h3, h4, h5, h6⟩
  · omega
  · have e : j' = j := by omega
    subst e
    have ed : l.drop a = seg l a j' ++ l.drop j' := by
      unfold seg
      have : l.drop j' = (l.drop a).drop (j' - a) := by rw [List.drop_drop]; congr 1; omega
      rw [this, List.take_append_drop]
    refine ⟨h3, h4, ?_, ?_, h6⟩
    · rw [ed, val_zeros _ _ h5]
    · have := h.all
      rw [ed, List.all_append, Bool.and_eq_true] at this
      exact this.2
theorem Sc.small {l : List UInt8} {a j : Nat} (h : Sc l a l.length (j : Int)) (n : Bool) : expoU n (l.drop a) = (signed n (min (val (l.drop j)) 1000000000), true) := by
  rw [expoU_good n h.all, clamp_eq _ h.all, h.split.2.2.1]
theorem Sc.big {l : List UInt8} {a j : Nat} (h : Sc l a l.length (j : Int)) (hb : ¬ ((l.length : Int) - j ≤ 10)) (n : Bool) : expoU n (l.drop a) = (signed n 1000000000, true) := by
  rw [h.small n]
  obtain ⟨_, _, _, h4, h5, h6⟩ := h.split
  have e : l.drop j = l[j] :: l.drop (j + 1) := List.drop_eq_getElem_cons h5
  rw [e, List.all_cons, Bool.and_eq_true] at h4
  have := val_big l[j] (l.drop (j + 1)) h4.1 h6 h4.2 (by rw [List.length_drop]; omega)
  rw [e]
  congr 2
  omega
/-- The value, place by place. -/
theorem val_seg {l : List UInt8} {j : Nat} (h : (l.drop j).all isD = true) (k : Nat) (hb : (k : Int) - j ≤ 9) : 0 ≤ val (seg l j k) ∧ val (seg l j k) ≤ 999999999 := by
  have ha : (seg l j k).all isD = true := by
    rw [List.all_eq_true] at h ⊢
    exact fun x hx => h x (List.mem_of_mem_take hx)
  have hv := val_bd _ ha
  refine ⟨hv.1, ?_⟩
  have hl : (seg l j k).length ≤ 9 := by unfold seg; rw [List.length_take]; omega
  have hp : (10 : Int) ^ (seg l j k).length ≤ 10 ^ 9 := by
    obtain ⟨i, hi⟩ : ∃ i, 9 = (seg l j k).length + i := ⟨9 - (seg l j k).length, by omega⟩
    rw [hi, Int.pow_add]
    have h1 : (1 : Int) ≤ 10 ^ i := Int.pow_pos (by omega)
    have h2 : (0 : Int) < 10 ^ (seg l j k).length := Int.pow_pos (by omega)
    have := Int.mul_le_mul_of_nonneg_left h1 (Int.le_of_lt h2)
    omega
  have h9 : (10 : Int) ^ 9 = 1000000000 := by decide
  omega
theorem val_seg_snoc (l : List UInt8) (j k : Nat) (hj : j ≤ k) (hk : k < l.length) : val (seg l j (k + 1)) = val (seg l j k) * 10 + dv l[k] := by
  rw [seg_snoc l j k hj hk, val_snoc]

end Go.Proofs.Qxb6600543a
