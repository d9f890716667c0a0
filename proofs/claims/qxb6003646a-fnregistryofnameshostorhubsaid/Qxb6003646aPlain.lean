/-
  Plain functions over lists of bytes, and their laws: the last place of a byte, an image reference's repository and version, a registry. No Go in sight.
-/
import Derived.Lib.Bytealg
import Derived.Lib.IndexBytes
namespace Go.Proofs.Qxb6003646a
open Go

/-! ### Up to a byte, behind it -/
theorem takeWhile_at (a b : List UInt8) (c : UInt8) (h : a.contains c = false) : (a ++ c :: b).takeWhile (· != c) = a := by
  induction a with
  | nil => simp
  | cons x a ih =>
    simp only [List.contains_cons, Bool.or_eq_false_iff, beq_eq_false_iff_ne] at h
    have hb' : (x != c) = true := by simp; exact fun e => h.1 e.symm
    rw [List.cons_append, List.takeWhile_cons, hb']
    simp [ih h.2]

theorem dropWhile_at (a b : List UInt8) (c : UInt8) (h : a.contains c = false) : ((a ++ c :: b).dropWhile (· != c)).tail = b := by
  induction a with
  | nil => simp
  | cons x a ih =>
    simp only [List.contains_cons, Bool.or_eq_false_iff, beq_eq_false_iff_ne] at h
    have hb' : (x != c) = true := by simp; exact fun e => h.1 e.symm
    rw [List.cons_append, List.dropWhile_cons, hb']
    simp [ih h.2]

theorem takeWhile_all (l : List UInt8) (c : UInt8) (h : l.contains c = false) : l.takeWhile (· != c) = l := by
  induction l with
  | nil => rfl
  | cons x a ih =>
    simp only [List.contains_cons, Bool.or_eq_false_iff, beq_eq_false_iff_ne] at h
    have hb' : (x != c) = true := by simp; exact fun e => h.1 e.symm
    rw [List.takeWhile_cons, hb']
    simp [ih h.2]

theorem takeWhile_more (a b : List UInt8) (c : UInt8) : (a ++ c :: b).takeWhile (· != c) = a.takeWhile (· != c) := by
  induction a with
  | nil => simp
  | cons x a ih =>
    rw [List.cons_append, List.takeWhile_cons, List.takeWhile_cons, ih]

theorem contains_take {l : List UInt8} {c : UInt8} (h : l.contains c = false) (k : Nat) : (l.take k).contains c = false := by
  simp only [List.contains_eq_mem, decide_eq_false_iff_not] at h ⊢
  exact fun e => h (List.mem_of_mem_take e)
theorem contains_takeWhile {l : List UInt8} {c : UInt8} (p : UInt8 → Bool) (h : l.contains c = false) : (l.takeWhile p).contains c = false := by
  simp only [List.contains_eq_mem, decide_eq_false_iff_not] at h ⊢
  exact fun e => h ((List.takeWhile_prefix p).subset e)
theorem contains_app (a b : List UInt8) (c : UInt8) (ha : a.contains c = false) (hb : b.contains c = false) : (a ++ b).contains c = false := by
  simp only [List.contains_eq_mem, decide_eq_false_iff_not] at ha hb ⊢
  simp only [List.mem_append, not_or]
  exact ⟨ha, hb⟩
theorem contains_cons_ne (x : UInt8) (b : List UInt8) (c : UInt8) (ha : x ≠ c) (hb : b.contains c = false) : (x :: b).contains c = false := by
  simp only [List.contains_eq_mem, decide_eq_false_iff_not] at hb ⊢
  simp only [List.mem_cons, not_or]
  exact ⟨fun e => ha e.symm, hb⟩

/-! ### The last place of a byte -/
def lastI : List UInt8 → UInt8 → Int
  | [], _ => -1
  | b :: l, c => if 0 ≤ lastI l c then lastI l c + 1 else if b = c then 0 else -1

theorem lastI_ge (l : List UInt8) (c : UInt8) : -1 ≤ lastI l c := by
  induction l with
  | nil => exact Int.le_refl _
  | cons b l ih => unfold lastI; split <;> (try split) <;> omega
theorem lastI_lt (l : List UInt8) (c : UInt8) : lastI l c < l.length := by
  induction l with
  | nil => exact (by decide : (-1 : Int) < 0)
  | cons b l ih => unfold lastI; simp only [List.length_cons]; split <;> (try split) <;> omega
theorem lastI_none (l : List UInt8) (c : UInt8) (h : l.contains c = false) : lastI l c = -1 := by
  induction l with
  | nil => rfl
  | cons b l ih =>
    simp only [List.contains_cons, Bool.or_eq_false_iff, beq_eq_false_iff_ne] at h
    unfold lastI
    rw [ih h.2, if_neg (by omega), if_neg (fun e => h.1 e.symm)]
theorem lastI_app (a b : List UInt8) (c : UInt8) (h : b.contains c = false) : lastI (a ++ c :: b) c = a.length := by
  induction a with
  | nil =>
    rw [List.nil_append]
    unfold lastI
    rw [lastI_none b c h, if_neg (by omega), if_pos rfl]
    rfl
  | cons x a ih =>
    rw [List.cons_append]
    unfold lastI
    rw [ih, if_pos (by omega)]
    simp
theorem lastI_app_ne (a b : List UInt8) (x c : UInt8) (hx : x ≠ c) (h : b.contains c = false) : lastI (a ++ x :: b) c < a.length := by
  induction a with
  | nil =>
    rw [List.nil_append]
    unfold lastI
    rw [lastI_none b c h, if_neg (by omega), if_neg hx]
    exact (by decide : (-1 : Int) < 0)
  | cons y a ih =>
    rw [List.cons_append]
    unfold lastI
    simp only [List.length_cons]
    split <;> (try split) <;> omega
theorem lastI_app_ge (a b : List UInt8) (c : UInt8) : (a.length : Int) ≤ lastI (a ++ c :: b) c := by
  induction a with
  | nil =>
    rw [List.nil_append]
    unfold lastI
    have := lastI_ge b c
    simp only [List.length_nil]
    split
    · omega
    · simp
  | cons y a ih =>
    rw [List.cons_append]
    unfold lastI
    simp only [List.length_cons]
    split <;> (try split) <;> omega

/-- From the end: no c from place k on, and c at place k - 1. -/
theorem lastI_at (l : List UInt8) (c : UInt8) (k : Nat) (h : k < l.length) (hc : l[k] = c) (hn : (l.drop (k + 1)).contains c = false) : lastI l c = k := by
  have e : l = l.take k ++ c :: l.drop (k + 1) := by
    have h1 : l.drop k = l[k] :: l.drop (k + 1) := List.drop_eq_getElem_cons h
    rw [← hc, ← h1, List.take_append_drop]
  have := lastI_app (l.take k) (l.drop (k + 1)) c hn
  rw [← e] at this
  rw [this, List.length_take]
  omega
theorem drop_step (l : List UInt8) (c : UInt8) (k : Nat) (h : k < l.length) (hc : l[k] ≠ c) (hn : (l.drop (k + 1)).contains c = false) : (l.drop k).contains c = false := by
  rw [List.drop_eq_getElem_cons h]
  exact contains_cons_ne _ _ _ hc hn

/-! ### A reference -/
def befL (l : List UInt8) (c : UInt8) : List UInt8 := l.takeWhile (· != c)
def aftL (l : List UInt8) (c : UInt8) : List UInt8 := (l.dropWhile (· != c)).tail
/-- Has the part before '@' a tag? -/
def taggedL (r : List UInt8) : Bool := decide (lastI r 47 < lastI r 58)
def stemL (r : List UInt8) : List UInt8 := if taggedL r then r.take (lastI r 58).toNat else r
def tagL (r : List UInt8) : List UInt8 := if taggedL r then r.drop ((lastI r 58).toNat + 1) else []
def repoL (l : List UInt8) : List UInt8 := stemL (befL l 64)
def verL (l : List UInt8) : List UInt8 := if l.contains 64 then aftL l 64 else tagL (befL l 64)

theorem befL_none {l : List UInt8} {c : UInt8} (h : l.contains c = false) : befL l c = l := takeWhile_all l c h
theorem befL_at (a b : List UInt8) (c : UInt8) (h : a.contains c = false) : befL (a ++ c :: b) c = a := takeWhile_at a b c h
theorem befL_more (a b : List UInt8) (c : UInt8) : befL (a ++ c :: b) c = befL a c := takeWhile_more a b c
theorem contains_at (a b : List UInt8) (c : UInt8) : (a ++ c :: b).contains c = true := by simp

/-- Law 1. -/
theorem digest_repo (r d : List UInt8) : repoL (r ++ 64 :: d) = repoL r := by unfold repoL; rw [befL_more]
theorem digest_ver (r d : List UInt8) (h : r.contains 64 = false) : verL (r ++ 64 :: d) = d := by
  unfold verL
  rw [contains_at, if_pos rfl]
  exact dropWhile_at r d 64 h

/-- Law 2. -/
theorem tagged_app (r t : List UInt8) (h1 : t.contains 58 = false) (h2 : t.contains 47 = false) : taggedL (r ++ 58 :: t) = true := by
  unfold taggedL
  rw [lastI_app r t 58 h1]
  exact decide_eq_true (lastI_app_ne r t 58 47 (by decide) h2)
theorem tag_repo (r t : List UInt8) (h0 : r.contains 64 = false) (h1 : t.contains 58 = false) (h2 : t.contains 47 = false) (h3 : t.contains 64 = false) : repoL (r ++ 58 :: t) = r ∧ verL (r ++ 58 :: t) = t := by
  have hn : (r ++ 58 :: t).contains 64 = false := contains_app _ _ _ h0 (contains_cons_ne _ _ _ (by decide) h3)
  unfold repoL verL
  rw [befL_none hn, hn]
  unfold stemL tagL
  rw [tagged_app r t h1 h2, lastI_app r t 58 h1]
  simp

/-! ### A registry -/
def hubL : List UInt8 := [105, 110, 100, 101, 120, 46, 100, 111, 99, 107, 101, 114, 46, 105, 111]
def dockerL : List UInt8 := [100, 111, 99, 107, 101, 114, 46, 105, 111]
def localL : List UInt8 := [108, 111, 99, 97, 108, 104, 111, 115, 116]
/-- Law 4. -/
theorem stem_no (r : List UInt8) (c : UInt8) (h : r.contains c = false) : (stemL r).contains c = false := by
  unfold stemL
  split
  · exact contains_take h _
  · exact h
theorem bare_no (l : List UInt8) (h : l.contains 47 = false) : (repoL l).contains 47 = false := stem_no _ _ (contains_takeWhile _ h)

/-- Law 3: the repository of host/path opens with the host and a slash. -/
theorem named_repo (h p : List UInt8) (h2 : h.contains 64 = false) (h3 : p.contains 64 = false) : ∃ q, repoL (h ++ 47 :: p) = h ++ 47 :: q := by
  have hn : (h ++ 47 :: p).contains 64 = false := contains_app _ _ _ h2 (contains_cons_ne _ _ _ (by decide) h3)
  unfold repoL
  rw [befL_none hn]
  unfold stemL
  split
  · rename_i ht
    have hlt : lastI (h ++ 47 :: p) 47 < lastI (h ++ 47 :: p) 58 := of_decide_eq_true ht
    have hge := lastI_app_ge h p 47
    obtain ⟨j, hj⟩ : ∃ j : Nat, (lastI (h ++ 47 :: p) 58).toNat = h.length + (j + 1) := ⟨(lastI (h ++ 47 :: p) 58).toNat - h.length - 1, by omega⟩
    rw [hj, List.take_append]
    refine ⟨p.take j, ?_⟩
    rw [List.take_of_length_le (by omega)]
    congr 1
    rw [show h.length + (j + 1) - h.length = j + 1 from by omega, List.take_succ_cons]
  · exact ⟨p, rfl⟩
theorem named_parts (h p : List UInt8) (h1 : h.contains 47 = false) (h2 : h.contains 64 = false) (h3 : p.contains 64 = false) : (repoL (h ++ 47 :: p)).contains 47 = true ∧ befL (repoL (h ++ 47 :: p)) 47 = h := by
  obtain ⟨q, e⟩ := named_repo h p h2 h3
  rw [e]
  exact ⟨contains_at _ _ _, befL_at _ _ _ h1⟩

end Go.Proofs.Qxb6003646a
