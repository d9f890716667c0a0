/-
  strings.Cut at a separator of one byte, walked over this seat's translation; and Cut's answer in plain words (lists of bytes).
-/
import Derived.Test.Qxb6613675aRows
import Derived.WalkKit
import Derived.WalkSpells
import Derived.WalkLawsBesides
import Derived.Lib.Bytealg
import Derived.Lib.IndexBytes
namespace Go.Proofs.Qxb6613675a
open Go.RowKit

set_option maxHeartbeats 400000 in
theorem indexByte_any (s : ByteArray) (c : Int) (w : World) :
    Calls Try.prog 14 #[.string s, .int .u8 c] w fun e w' => e = .returned (.int .i64 (Lib.indexByte s.data.toList c.toNat.toUInt8)) ∧ w' = w := by
  go_enter Try.func14, Try.ntmps14
  go_wp2
  rw [run_callFunc_extern Try.func18 (by kernel_rfl) (by kernel_rfl) (by kernel_rfl) (e := Extern.BytealgIndexByte.indexByte) (by kernel_rfl), Lib.run_indexByteString]
  simp only [Result.andThen]
  rw [Oper.upon_value]
  go_wp2
  go_ret
  exact ⟨rfl, rfl⟩

set_option maxHeartbeats 400000 in
theorem index_one (s : ByteArray) (c : UInt8) (w : World) :
    Calls Try.prog 13 #[.string s, .string ⟨#[c]⟩] w fun e w' => e = .returned (.int .i64 (Lib.indexByte s.data.toList c)) ∧ w' = w := by
  by_cases h : s = ⟨#[c]⟩
  · subst h
    go_enter Try.func13, Try.ntmps13
    go_wp2
    go_ret
    exact ⟨by simp [Lib.indexByte], rfl⟩
  · have h' : ([c] == s.toList) = false := by
      rw [beq_eq_false_iff_ne]
      intro e
      apply h
      rw [Lib.toList_data] at e
      rw [← Lib.mk_data s, ← e]
    clear h
    go_enter Try.func13, Try.ntmps13
    go_wp2_with (go_at_call 14; refine (indexByte_any _ _ _).mono ?_; rintro e w' ⟨rfl, rfl⟩)
    go_ret
    exact ⟨rfl, rfl⟩

/-- What Cut gives at a separator of one byte. -/
def befB (s : ByteArray) (c : UInt8) : ByteArray := ⟨(s.data.toList.takeWhile (· != c)).toArray⟩
def aftB (s : ByteArray) (c : UInt8) : ByteArray := ⟨((s.data.toList.dropWhile (· != c)).tail).toArray⟩
def hasB (s : ByteArray) (c : UInt8) : Bool := s.data.toList.contains c

theorem indexByte_miss (l : List UInt8) (c : UInt8) (h : l.contains c = false) : Lib.indexByte l c = -1 ∧ l.takeWhile (· != c) = l ∧ (l.dropWhile (· != c)).tail = [] := by
  induction l with
  | nil => exact ⟨rfl, rfl, rfl⟩
  | cons b l ih =>
    simp only [List.contains_cons, Bool.or_eq_false_iff, beq_eq_false_iff_ne] at h
    obtain ⟨h1, h2, h3⟩ := ih h.2
    have hb : (b == c) = false := beq_eq_false_iff_ne.2 (fun e => h.1 e.symm)
    have hb' : (b != c) = true := by simp [bne, hb]
    refine ⟨?_, ?_, ?_⟩
    · unfold Lib.indexByte; simp [hb, h1]
    · rw [List.takeWhile_cons, hb']; simp [h2]
    · rw [List.dropWhile_cons, hb']; simp [h3]

theorem indexByte_hit (l : List UInt8) (c : UInt8) (h : l.contains c = true) : ∃ k : Nat, k < l.length ∧ Lib.indexByte l c = k ∧ l.takeWhile (· != c) = l.take k ∧ (l.dropWhile (· != c)).tail = l.drop (k + 1) := by
  induction l with
  | nil => simp at h
  | cons b l ih =>
    by_cases hb : (b == c) = true
    · have hb' : (b != c) = false := by simp [bne, hb]
      refine ⟨0, by simp, ?_, ?_, ?_⟩
      · unfold Lib.indexByte; simp [hb]
      · rw [List.takeWhile_cons, hb']; simp
      · rw [List.dropWhile_cons, hb']; simp
    · have hb0 : (b == c) = false := by simpa using hb
      have hb' : (b != c) = true := by simp [bne, hb0]
      have hl : l.contains c = true := by
        simp only [List.contains_cons, Bool.or_eq_true] at h
        rcases h with h | h
        · have e : c = b := by simpa using h
          exact absurd (beq_iff_eq.2 e.symm) hb
        · exact h
      obtain ⟨k, h1, h2, h3, h4⟩ := ih hl
      refine ⟨k + 1, by simp; omega, ?_, ?_, ?_⟩
      · unfold Lib.indexByte
        rw [h2, hb0]
        have : (((k : Int)) == -1) = false := beq_eq_false_iff_ne.2 (by omega)
        rw [this]; simp
      · rw [List.takeWhile_cons, hb']; simp [h3]
      · rw [List.dropWhile_cons, hb']; simp [h4]

set_option maxHeartbeats 400000 in
theorem cutlite_one (s : ByteArray) (c : UInt8) (w : World) (hs : s.size ≤ maxLen) :
    Calls Try.prog 12 #[.string s, .string ⟨#[c]⟩] w fun e w' => e = .returned (.tuple #[.string (befB s c), .string (aftB s c), .bool (hasB s c)]) ∧ ∃ n, w' = w.drewN n := by
  unfold maxLen at hs
  cases hc : hasB s c with
  | false =>
    obtain ⟨h1, h2, h3⟩ := indexByte_miss s.data.toList c hc
    have e1 : befB s c = s := by unfold befB; rw [h2, Lib.mk_data]
    have e2 : aftB s c = ByteArray.empty := by unfold aftB; rw [h3]; rfl
    rw [e1, e2]
    go_enter Try.func12, Try.ntmps12
    go_wp2_with (go_at_call 13; refine (index_one _ _ _).mono ?_; rintro e w' ⟨rfl, rfl⟩; rw [h1])
    go_ret3
    exact ⟨rfl, 0, rfl⟩
  | true =>
    obtain ⟨k, hk, h1, h2, h3⟩ := indexByte_hit s.data.toList c hc
    have hk' : k < s.size := by rw [Lib.size_eq]; exact hk
    have e1 : befB s c = s.extract 0 k := by unfold befB; rw [h2, Lib.extract_eq]; simp
    have e2 : aftB s c = s.extract (k + 1) s.size := by
      unfold aftB; rw [h3, ← Lib.extract_to_end, Lib.mk_data]
    rw [e1, e2]
    have H1 : Hid (Lib.indexByte s.data.toList c = k) := h1
    clear h1 h2 h3 e1 e2 hc
    have c1 : (0 : Int) ≤ ↑k := by omega
    have c2 : (↑k : Int) ≤ ↑s.size := by omega
    have c3 : (0 : Int) ≤ ↑k + 1 := by omega
    have c4 : (↑k + 1 : Int) ≤ ↑s.size := by omega
    go_enter Try.func12, Try.ntmps12
    go_wp2_with (go_at_call 13; refine (index_one _ _ _).mono ?_; rintro e w' ⟨rfl, rfl⟩; rw [H1.out])
    go_region
    go_wp2
    go_ret3
    exact ⟨rfl, 1, rfl⟩

set_option maxHeartbeats 400000 in
theorem cut_one (s : ByteArray) (c : UInt8) (w : World) (hs : s.size ≤ maxLen) :
    Calls Try.prog 11 #[.string s, .string ⟨#[c]⟩] w fun e w' => e = .returned (.tuple #[.string (befB s c), .string (aftB s c), .bool (hasB s c)]) ∧ ∃ n, w' = w.drewN n := by
  go_enter Try.func11, Try.ntmps11
  go_wp2_with (go_at_call 12; refine (cutlite_one _ _ _ hs).mono ?_; rintro e w' ⟨rfl, n, rfl⟩)
  go_ret3
  exact ⟨rfl, n, rfl⟩

end Go.Proofs.Qxb6613675a
