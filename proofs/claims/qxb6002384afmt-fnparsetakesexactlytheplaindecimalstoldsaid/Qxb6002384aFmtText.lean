/-
  strings.Cut at a separator of one byte, TrimPrefix at the minus sign, isDigits: walked over this seat's translation; and Cut's answer in plain words (lists of bytes).
-/
import Derived.Test.Qxb6002384aFmtRows
import Derived.WalkKit
import Derived.WalkSpells
import Derived.WalkLawsBesides
import Derived.Lib.Bytealg
import Derived.Lib.IndexBytes
namespace Go.Proofs.Qxb6002384aFmt
open Go.RowKit

set_option maxHeartbeats 400000 in
theorem indexByte_any (s : ByteArray) (c : Int) (w : World) :
    Calls Tryf.prog 38 #[.string s, .int .u8 c] w fun e w' => e = .returned (.int .i64 (Lib.indexByte s.data.toList c.toNat.toUInt8)) ∧ w' = w := by
  go_enter Tryf.func38, Tryf.ntmps38
  go_wp2
  rw [run_callFunc_extern Tryf.func45 (by kernel_rfl) (by kernel_rfl) (by kernel_rfl) (e := Extern.BytealgIndexByte.indexByte) (by kernel_rfl), Lib.run_indexByteString]
  simp only [Result.andThen]
  rw [Oper.upon_value]
  go_wp2
  go_ret
  exact ⟨rfl, rfl⟩

set_option maxHeartbeats 400000 in
theorem index_one (s : ByteArray) (c : UInt8) (w : World) :
    Calls Tryf.prog 34 #[.string s, .string ⟨#[c]⟩] w fun e w' => e = .returned (.int .i64 (Lib.indexByte s.data.toList c)) ∧ w' = w := by
  by_cases h : s = ⟨#[c]⟩
  · subst h
    go_enter Tryf.func34, Tryf.ntmps34
    go_wp2
    go_ret
    exact ⟨by simp [Lib.indexByte], rfl⟩
  · have h' : ([c] == s.toList) = false := by
      rw [beq_eq_false_iff_ne]
      intro e
      apply h
      rw [Lib.toList_data] at e
      rw [← Lib.mk_data s, ← e]
    clear h
    go_enter Tryf.func34, Tryf.ntmps34
    go_wp2_with (go_at_call 38; refine (indexByte_any _ _ _).mono ?_; rintro e w' ⟨rfl, rfl⟩)
    go_ret
    exact ⟨rfl, rfl⟩

/-- What Cut gives at a separator of one byte. -/
def befB (s : ByteArray) (c : UInt8) : ByteArray := ⟨(s.data.toList.takeWhile (· != c)).toArray⟩
def aftB (s : ByteArray) (c : UInt8) : ByteArray := ⟨((s.data.toList.dropWhile (· != c)).tail).toArray⟩
def hasB (s : ByteArray) (c : UInt8) : Bool := s.data.toList.contains c

theorem indexByte_miss (l : List UInt8) (c : UInt8) (h : l.contains c = false) : Lib.indexByte l c = -1 ∧ l.takeWhile (· != c) = l ∧ (l.dropWhile (· != c)).tail = [] := by
  induction l with
  | nil => exact ⟨rfl, rfl, rfl⟩
  | cons b l ih =>
    simp only [List.contains_cons, Bool.or_eq_false_iff, beq_eq_false_iff_ne] at h
    obtain ⟨h1, h2, h3⟩ := ih h.2
    have hb : (b == c) = false := beq_eq_false_iff_ne.2 (fun e => h.1 e.symm)
    have hb' : (b != c) = true := by simp [bne, hb]
    refine ⟨?_, ?_, ?_⟩
    · unfold Lib.indexByte; simp [hb, h1]
    · rw [List.takeWhile_cons, hb']; simp [h2]
    · rw [List.dropWhile_cons, hb']; simp [h3]

theorem indexByte_hit (l : List UInt8) (c : UInt8) (h : l.contains c = true) : ∃ k : Nat, k < l.length ∧ Lib.indexByte l c = k ∧ l.takeWhile (· != c) = l.take k ∧ (l.dropWhile (· != c)).tail = l.drop (k + 1) := by
  induction l with
  | nil => simp at h
  | cons b l ih =>
    by_cases hb : (b == c) = true
    · have hb' : (b != c) = false := by simp [bne, hb]
      refine ⟨0, by simp, ?_, ?_, ?_⟩
      · unfold Lib.indexByte; simp [hb]
      · rw [List.takeWhile_cons, hb']; simp
      · rw [List.dropWhile_cons, hb']; simp
    · have hb0 : (b == c) = false := by simpa using hb
      have hb' : (b != c) = true := by simp [bne, hb0]
      have hl : l.contains c = true := by
        simp only [List.contains_cons, Bool.or_eq_true] at h
        rcases h with h | h
        · have e : c = b := by simpa using h
          exact absurd (beq_iff_eq.2 e.symm) hb
        · exact h
      obtain ⟨k, h1, h2, h3, h4⟩ := ih hl
      refine ⟨k + 1, by simp; omega, ?_, ?_, ?_⟩
      · unfold Lib.indexByte
        rw [h2, hb0]
        have : (((k : Int)) == -1) = false := beq_eq_false_iff_ne.2 (by omega)
        rw [this]; simp
      · rw [List.takeWhile_cons, hb']; simp [h3]
      · rw [List.dropWhile_cons, hb']; simp [h4]

set_option maxHeartbeats 400000 in
theorem cutlite_one (s : ByteArray) (c : UInt8) (w : World) (hs : s.size ≤ maxLen) :
    Calls Tryf.prog 20 #[.string s, .string ⟨#[c]⟩] w fun e w' => e = .returned (.tuple #[.string (befB s c), .string (aftB s c), .bool (hasB s c)]) ∧ ∃ n, w' = w.drewN n := by
  unfold maxLen at hs
  cases hc : hasB s c with
  | false =>
    obtain ⟨h1, h2, h3⟩ := indexByte_miss s.data.toList c hc
    have e1 : befB s c = s := by unfold befB; rw [h2, Lib.mk_data]
    have e2 : aftB s c = ByteArray.empty := by unfold aftB; rw [h3]; rfl
    rw [e1, e2]
    go_enter Tryf.func20, Tryf.ntmps20
    go_wp2_with (go_at_call 34; refine (index_one _ _ _).mono ?_; rintro e w' ⟨rfl, rfl⟩; rw [h1])
    go_ret3
    exact ⟨rfl, 0, rfl⟩
  | true =>
    obtain ⟨k, hk, h1, h2, h3⟩ := indexByte_hit s.data.toList c hc
    have hk' : k < s.size := by rw [Lib.size_eq]; exact hk
    have e1 : befB s c = s.extract 0 k := by unfold befB; rw [h2, Lib.extract_eq]; simp
    have e2 : aftB s c = s.extract (k + 1) s.size := by
      unfold aftB; rw [h3, ← Lib.extract_to_end, Lib.mk_data]
    rw [e1, e2]
    have H1 : Hid (Lib.indexByte s.data.toList c = k) := h1
    clear h1 h2 h3 e1 e2 hc
    have c1 : (0 : Int) ≤ ↑k := by omega
    have c2 : (↑k : Int) ≤ ↑s.size := by omega
    have c3 : (0 : Int) ≤ ↑k + 1 := by omega
    have c4 : (↑k + 1 : Int) ≤ ↑s.size := by omega
    go_enter Tryf.func20, Tryf.ntmps20
    go_wp2_with (go_at_call 34; refine (index_one _ _ _).mono ?_; rintro e w' ⟨rfl, rfl⟩; rw [H1.out])
    go_region
    go_wp2
    go_ret3
    exact ⟨rfl, 1, rfl⟩

set_option maxHeartbeats 400000 in
theorem cut_one (s : ByteArray) (c : UInt8) (w : World) (hs : s.size ≤ maxLen) :
    Calls Tryf.prog 12 #[.string s, .string ⟨#[c]⟩] w fun e w' => e = .returned (.tuple #[.string (befB s c), .string (aftB s c), .bool (hasB s c)]) ∧ ∃ n, w' = w.drewN n := by
  go_enter Tryf.func12, Tryf.ntmps12
  go_wp2_with (go_at_call 20; refine (cutlite_one _ _ _ hs).mono ?_; rintro e w' ⟨rfl, n, rfl⟩)
  go_ret3
  exact ⟨rfl, n, rfl⟩

/-! ### TrimPrefix at one byte; isDigits -/
def isD (c : UInt8) : Bool := decide (48 ≤ c.toNat) && decide (c.toNat ≤ 57)
theorem isD_iff (c : UInt8) : isD c = true ↔ 48 ≤ c.toNat ∧ c.toNat ≤ 57 := by unfold isD; simp
theorem notD_lo (c : UInt8) (h : ((c.toNat : Nat) : Int) < 48) : isD c = false := by unfold isD; rw [decide_eq_false (by omega)]; rfl
theorem notD_hi (c : UInt8) (h : 57 < ((c.toNat : Nat) : Int)) : isD c = false := by unfold isD; rw [decide_eq_false (p := c.toNat ≤ 57) (by omega)]; simp
theorem isD_mid (c : UInt8) (h : ¬ ((c.toNat : Nat) : Int) < 48) (k : ¬ 57 < ((c.toNat : Nat) : Int)) : isD c = true := (isD_iff c).2 (by omega)
theorem take_snoc (s : ByteArray) (k : Nat) (h : k < s.size) : s.data.toList.take (k + 1) = s.data.toList.take k ++ [s[k]] := by
  rw [List.take_succ_eq_append_getElem (by simpa using h)]; rfl
theorem all_bad (u : ByteArray) (k : Nat) (h : k < u.size) (hb : isD u[k] = false) : u.data.toList.all isD = false := by
  rw [List.all_eq_false]
  exact ⟨u[k], by
    have h1 : u[k] = u.data.toList[k]'(by simpa using h) := rfl
    rw [h1]
    exact List.getElem_mem _, by rw [hb]; simp⟩
theorem all_step (u : ByteArray) (k : Nat) (h : k < u.size) (ha : (u.data.toList.take k).all isD = true) (hb : isD u[k] = true) : (u.data.toList.take (k + 1)).all isD = true := by
  rw [take_snoc u k h, List.all_append, ha]
  simp [hb]
theorem all_end (u : ByteArray) (k : Nat) (h : ¬ k < u.size) (ha : (u.data.toList.take k).all isD = true) : u.data.toList.all isD = true := by
  rw [List.take_of_length_le (by rw [← Lib.size_eq]; omega)] at ha
  exact ha
def digsL (l : List UInt8) : Bool := !l.isEmpty && l.all isD
theorem ret_bool {a b : Bool} (h : a = b) : Ending.returned (.bool a) = .returned (.bool b) := by rw [h]
theorem empty_of (s : ByteArray) (h : ¬ 0 < s.size) : s.toList.isEmpty = true := by
  rw [Lib.toList_data, List.isEmpty_iff]
  apply List.eq_nil_of_length_eq_zero
  rw [← Lib.size_eq]
  omega
theorem nonempty_of (s : ByteArray) (h : 0 < s.size) : s.toList.isEmpty = false := by
  rw [Lib.toList_data]
  cases hl : s.data.toList with
  | nil => rw [Lib.size_eq, hl] at h; simp at h
  | cons _ _ => rfl

set_option maxHeartbeats 400000 in
theorem isDigits_any (s : ByteArray) (w : World) (hs : s.size ≤ maxLen) :
    Calls Tryf.prog 14 #[.string s] w fun e w' => e = .returned (.bool (digsL s.data.toList)) ∧ w' = w := by
  unfold maxLen at hs
  by_cases h0 : 0 < s.size
  · have he := nonempty_of s h0
    have he' : s.data.toList.isEmpty = false := by rw [← Lib.toList_data]; exact he
    have HD : Hid (digsL s.data.toList = s.data.toList.all isD) := by unfold Hid digsL; rw [he']; rfl
    clear he'
    go_enter Tryf.func14, Tryf.ntmps14
    go_wp2
    go_loop [3] (fun i => ∃ k : Nat, k ≤ s.size ∧ i = .int .i64 k ∧ Hid ((s.data.toList.take k).all isD = true)) (fun i => s.size - (intOf i).toNat)
    case atStart => exact ⟨0, Nat.zero_le _, rfl, rfl⟩
    case round =>
      obtain ⟨k, hk, rfl, had⟩ := hrel
      by_cases hlt : k < s.size
      · by_cases q1 : ((s[k].toNat : Nat) : Int) < 48
        · have HE : Hid (digsL s.data.toList = false) := by unfold Hid; rw [HD.out]; exact all_bad s k hlt (notD_lo _ q1)
          go_wp2
          go_ret
          exact ⟨ret_bool HE.out.symm, rfl⟩
        · have q3 : decide (((s[k].toNat : Nat) : Int) < 48) = false := decide_eq_false q1
          by_cases q2 : 57 < ((s[k].toNat : Nat) : Int)
          · have HE : Hid (digsL s.data.toList = false) := by unfold Hid; rw [HD.out]; exact all_bad s k hlt (notD_hi _ q2)
            go_wp2
            go_ret
            exact ⟨ret_bool HE.out.symm, rfl⟩
          · go_wp2
            go_round
            case rel => exact ⟨k + 1, by omega, by go_num, all_step s k hlt had.out (isD_mid _ q1 q2)⟩
            case measure => simp [intOf]; omega
      · have HE : Hid (digsL s.data.toList = true) := by unfold Hid; rw [HD.out]; exact all_end s k hlt had.out
        go_wp2
        go_ret
        exact ⟨ret_bool HE.out.symm, rfl⟩
  · have he := empty_of s h0
    have he' : s.data.toList.isEmpty = true := by rw [← Lib.toList_data]; exact he
    have HE : Hid (digsL s.data.toList = false) := by unfold Hid digsL; rw [he']; rfl
    clear he'
    go_enter Tryf.func14, Tryf.ntmps14
    go_wp2
    go_ret
    exact ⟨ret_bool HE.out.symm, rfl⟩

/-- Without a leading minus sign. -/
def trimL (l : List UInt8) : List UInt8 := if l[0]? = some 45 then l.drop 1 else l
def trimB (s : ByteArray) : ByteArray := ⟨(trimL s.data.toList).toArray⟩
theorem trim_hit (s : ByteArray) (h : 0 < s.size) (hc : s[0] = 45) : trimB s = s.extract 1 s.size := by
  unfold trimB trimL
  rw [Lib.data_getElem? s 0 h, hc, if_pos rfl, ← Lib.extract_to_end, Lib.mk_data]
theorem trim_miss (s : ByteArray) (h : 0 < s.size) (hc : s[0] ≠ 45) : trimB s = s := by
  unfold trimB trimL
  rw [Lib.data_getElem? s 0 h, if_neg (by intro e; exact hc (Option.some.inj e)), Lib.mk_data]
theorem trim_none (s : ByteArray) (h : ¬ 0 < s.size) : trimB s = s := by
  unfold trimB trimL
  have : s.data.toList = [] := by
    apply List.eq_nil_of_length_eq_zero
    rw [← Lib.size_eq]; omega
  rw [this]
  have h2 := Lib.mk_data s
  rw [this] at h2
  exact h2
theorem head_list (s : ByteArray) (h : 0 < s.size) : (s.extract 0 1).toList = [s[0]] := by
  rw [Lib.extract_toList]
  have h1 : s.data.toList = s[0] :: s.data.toList.drop 1 := by
    have := List.drop_eq_getElem_cons (l := s.data.toList) (i := 0) (by rw [← Lib.size_eq]; exact h)
    rw [List.drop_zero] at this
    exact this
  rw [List.drop_zero, h1]
  rfl

set_option maxHeartbeats 400000 in
theorem trim_any (s : ByteArray) (w : World) (hs : s.size ≤ maxLen) :
    Calls Tryf.prog 13 #[.string s, .string ⟨#[45]⟩] w fun e w' => e = .returned (.string (trimB s)) ∧ w' = w := by
  unfold maxLen at hs
  by_cases h0 : 0 < s.size
  · have hh := head_list s h0
    by_cases hc : s[0] = 45
    · have HT : Hid (trimB s = s.extract 1 s.size) := trim_hit s h0 hc
      have hb : ((s.extract 0 1).toList == [45]) = true := by rw [hh, hc]; rfl
      clear hh hc
      go_enter Tryf.func13, Tryf.ntmps13
      go_wp2
      go_ret
      exact ⟨by rw [HT.out]; rfl, rfl⟩
    · have HT : Hid (trimB s = s) := trim_miss s h0 hc
      have hb : ((s.extract 0 1).toList == [45]) = false := by rw [hh]; simp [hc]
      clear hh hc
      go_enter Tryf.func13, Tryf.ntmps13
      go_wp2
      go_ret
      exact ⟨by rw [HT.out]; rfl, rfl⟩
  · have HT : Hid (trimB s = s) := trim_none s h0
    go_enter Tryf.func13, Tryf.ntmps13
    go_wp2
    go_ret
    exact ⟨by rw [HT.out]; rfl, rfl⟩

end Go.Proofs.Qxb6002384aFmt
