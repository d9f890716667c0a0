/-
  Plain functions over lists of bytes: an exponent's reading, clamped at each step; the value of a row of digits; the laws between them. No Go in sight.
-/
import Derived.Lib.Bytealg
import Derived.Lib.IndexBytes
namespace Go.Proofs.Qxb6600543a
open Go

def isD (c : UInt8) : Bool := decide (48 ≤ c.toNat) && decide (c.toNat ≤ 57)
def dv (c : UInt8) : Int := (c.toNat : Int) - 48
def stepC (e : Int) (c : UInt8) : Int := min (e * 10 + dv c) 1000000000
def stepV (e : Int) (c : UInt8) : Int := e * 10 + dv c
def clampV (d : List UInt8) : Int := d.foldl stepC 0
def val (d : List UInt8) : Int := d.foldl stepV 0

theorem isD_iff (c : UInt8) : isD c = true ↔ 48 ≤ c.toNat ∧ c.toNat ≤ 57 := by unfold isD; simp
theorem dv_bd {c : UInt8} (h : isD c = true) : 0 ≤ dv c ∧ dv c ≤ 9 := by
  have := (isD_iff c).1 h
  unfold dv
  omega

theorem clampV_snoc (d : List UInt8) (c : UInt8) : clampV (d ++ [c]) = min (clampV d * 10 + dv c) 1000000000 := by unfold clampV; rw [List.foldl_append]; rfl
theorem val_snoc (d : List UInt8) (c : UInt8) : val (d ++ [c]) = val d * 10 + dv c := by unfold val; rw [List.foldl_append]; rfl

theorem clampV_bd_from (d : List UInt8) : ∀ e : Int, 0 ≤ e → e ≤ 1000000000 → d.all isD = true → 0 ≤ d.foldl stepC e ∧ d.foldl stepC e ≤ 1000000000 := by
  induction d with
  | nil => intro e h0 h1 _; exact ⟨h0, h1⟩
  | cons c d ih =>
    intro e h0 h1 h
    rw [List.all_cons, Bool.and_eq_true] at h
    have hd := dv_bd h.1
    rw [List.foldl_cons]
    refine ih _ ?_ ?_ h.2 <;> (unfold stepC; omega)
theorem clampV_bd (d : List UInt8) (h : d.all isD = true) : 0 ≤ clampV d ∧ clampV d ≤ 1000000000 := clampV_bd_from d 0 (by omega) (by omega) h

theorem clamp_from (d : List UInt8) : ∀ e v : Int, 0 ≤ v → e = min v 1000000000 → d.all isD = true → d.foldl stepC e = min (d.foldl stepV v) 1000000000 := by
  induction d with
  | nil => intro e v _ h _; exact h
  | cons c d ih =>
    intro e v h0 h1 h
    rw [List.all_cons, Bool.and_eq_true] at h
    have hd := dv_bd h.1
    rw [List.foldl_cons, List.foldl_cons]
    refine ih _ _ ?_ ?_ h.2
    · unfold stepV; omega
    · unfold stepC stepV; omega
theorem clamp_eq (d : List UInt8) (h : d.all isD = true) : clampV d = min (val d) 1000000000 := clamp_from d 0 0 (by omega) (by omega) h

theorem val_from_ge (d : List UInt8) : ∀ v : Int, 1 ≤ v → d.all isD = true → (10 : Int) ^ d.length ≤ d.foldl stepV v := by
  induction d with
  | nil => intro v h0 _; simpa using h0
  | cons c d ih =>
    intro v h0 h
    rw [List.all_cons, Bool.and_eq_true] at h
    have hd := dv_bd h.1
    have h2 := ih (v * 1) (by omega) h.2
    have key : ∀ (d : List UInt8) (a : Int), d.all isD = true → 1 ≤ a → ∀ k : Nat, (10 : Int) ^ k ≤ a → (10 : Int) ^ (k + d.length) ≤ d.foldl stepV a := by
      intro d
      induction d with
      | nil => intro a _ _ k hk; simpa using hk
      | cons c d ih =>
        intro a h h1 k hk
        rw [List.all_cons, Bool.and_eq_true] at h
        have hd := dv_bd h.1
        rw [List.foldl_cons, List.length_cons, show k + (d.length + 1) = (k + 1) + d.length from by omega]
        refine ih _ h.2 (by unfold stepV; omega) (k + 1) ?_
        rw [Int.pow_succ]
        unfold stepV
        omega
    have := key (c :: d) v (by rw [List.all_cons, h.1, h.2]; rfl) h0 0 (by simpa using h0)
    simpa using this
theorem val_cons (c : UInt8) (d : List UInt8) : val (c :: d) = d.foldl stepV (dv c) := by
  unfold val
  rw [List.foldl_cons]
  congr 1
  unfold stepV
  omega
theorem val_big (c : UInt8) (d : List UInt8) (hc : isD c = true) (hn : c ≠ 48) (h : d.all isD = true) (hl : 10 ≤ d.length) : 1000000000 ≤ val (c :: d) := by
  rw [val_cons]
  have hd := dv_bd hc
  have h1 : 1 ≤ dv c := by
    have : c.toNat ≠ 48 := fun e => hn (UInt8.toNat_inj.1 e)
    have := (isD_iff c).1 hc
    unfold dv
    omega
  have := val_from_ge d (dv c) h1 h
  have h2 : (10 : Int) ^ 10 ≤ 10 ^ d.length := by
    obtain ⟨j, hj⟩ : ∃ j, d.length = 10 + j := ⟨d.length - 10, by omega⟩
    rw [hj, Int.pow_add]
    have : (1 : Int) ≤ 10 ^ j := Int.pow_pos (by omega)
    have h10 : (10 : Int) ^ 10 = 10000000000 := by decide
    rw [h10]
    omega
  have h10 : (10 : Int) ^ 10 = 10000000000 := by decide
  omega
theorem val_zeros (z d : List UInt8) (h : z.all (· == 48) = true) : val (z ++ d) = val d := by
  induction z with
  | nil => rfl
  | cons c z ih =>
    rw [List.all_cons, Bool.and_eq_true, beq_iff_eq] at h
    have e := h.1
    subst e
    rw [List.cons_append, val_cons]
    show (z ++ d).foldl stepV 0 = _
    exact ih h.2
theorem val_bd (d : List UInt8) (h : d.all isD = true) : 0 ≤ val d ∧ val d < 10 ^ d.length := by
  have key : ∀ (d : List UInt8) (a : Int) (k : Nat), d.all isD = true → 0 ≤ a → a < 10 ^ k → 0 ≤ d.foldl stepV a ∧ d.foldl stepV a < 10 ^ (k + d.length) := by
    intro d
    induction d with
    | nil => intro a k _ h0 h1; exact ⟨h0, by simpa using h1⟩
    | cons c d ih =>
      intro a k h h0 h1
      rw [List.all_cons, Bool.and_eq_true] at h
      have hd := dv_bd h.1
      rw [List.foldl_cons, List.length_cons, show k + (d.length + 1) = (k + 1) + d.length from by omega]
      refine ih _ (k + 1) h.2 (by unfold stepV; omega) ?_
      rw [Int.pow_succ]
      unfold stepV
      omega
  have := key d 0 0 h (by omega) (by simp)
  simpa [val] using this

/-! ### The exponent -/
def sgn (l : List UInt8) : Bool := l[1]? == some 45 || l[1]? == some 43
def negL (l : List UInt8) : Bool := l[1]? == some 45
def rest (l : List UInt8) : List UInt8 := if sgn l then l.drop 2 else l.drop 1
def signed (n : Bool) (v : Int) : Int := if n then -v else v
def expo (l mark : List UInt8) : Int × Bool :=
  if l.isEmpty then (0, true)
  else if !(mark.contains (l.headD 0)) then (0, false)
  else if (rest l).isEmpty then (0, false)
  else if !((rest l).all isD) then (0, false)
  else (signed (negL l) (clampV (rest l)), true)
theorem expo_false (l mark : List UInt8) (h : (expo l mark).2 = false) : (expo l mark).1 = 0 := by
  unfold expo at h ⊢
  repeat' split
  all_goals simp_all

end Go.Proofs.Qxb6600543a
