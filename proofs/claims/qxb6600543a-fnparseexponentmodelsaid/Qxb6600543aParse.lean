/-
  parseExponent, walked: it returns 'expo'.
-/
import Derived.Test.Qxb6600543aRows
import Derived.Test.Qxb6600543aScan
import Derived.WalkKit
import Derived.WalkSpells
import Derived.WalkLawsBesides
namespace Go.Proofs.Qxb6600543a
open Go.RowKit

set_option maxHeartbeats 400000 in
theorem indexByteLite_any (s : ByteArray) (c : Int) (w : World) :
    Calls Try.prog 23 #[.string s, .int .u8 c] w fun e w' => e = .returned (.int .i64 (Lib.indexByte s.data.toList c.toNat.toUInt8)) ∧ w' = w := by
  go_enter Try.func23, Try.ntmps23
  go_wp2
  rw [run_callFunc_extern Try.func25 (by kernel_rfl) (by kernel_rfl) (by kernel_rfl) (e := Extern.BytealgIndexByte.indexByte) (by kernel_rfl), Lib.run_indexByteString]
  simp only [Result.andThen]
  rw [Oper.upon_value]
  go_wp2
  go_ret
  exact ⟨rfl, rfl⟩

set_option maxHeartbeats 400000 in
theorem indexByte_any (s : ByteArray) (c : UInt8) (w : World) :
    Calls Try.prog 21 #[.string s, .int .u8 c.toNat] w fun e w' => e = .returned (.int .i64 (Lib.indexByte s.data.toList c)) ∧ w' = w := by
  have hb : ((c.toNat : Int)).toNat.toUInt8 = c := by simp
  go_enter Try.func21, Try.ntmps21
  go_wp2_with (go_at_call 23; refine (indexByteLite_any _ _ _).mono ?_; rintro e w' ⟨rfl, rfl⟩; rw [hb])
  go_ret
  exact ⟨rfl, rfl⟩

theorem indexByte_neg (l : List UInt8) (c : UInt8) : decide (Lib.indexByte l c < 0) = !(l.contains c) := by
  induction l with
  | nil => rfl
  | cons b l ih =>
    rw [List.contains_cons]
    unfold Lib.indexByte
    by_cases h : b = c
    · subst h; simp
    · have h1 : (b == c) = false := by simp [h]
      have h2 : (c == b) = false := by simp [Ne.symm h]
      rw [h1, h2, Bool.false_or, ← ih]
      have hge := Lib.indexByte_ge l c
      by_cases h3 : Lib.indexByte l c = -1
      · simp [h3]
      · have h4 : (Lib.indexByte l c == -1) = false := by simp [h3]
        rw [h4]
        simp only [Bool.false_eq_true, if_false]
        rw [Bool.eq_iff_iff]
        simp only [decide_eq_true_eq]
        omega

theorem ret_expo {a b : Int} {c d : Bool} (h : a = b) (k : c = d) : Ending.returned (.tuple #[.int .i64 a, .bool c]) = .returned (.tuple #[.int .i64 b, .bool d]) := by rw [h, k]

theorem take_snoc (s : ByteArray) (k : Nat) (h : k < s.size) : s.data.toList.take (k + 1) = s.data.toList.take k ++ [s[k]] := by
  rw [List.take_succ_eq_append_getElem (by simpa using h)]; rfl
theorem all_bad (u : ByteArray) (k : Nat) (h : k < u.size) (hb : isD u[k] = false) : u.data.toList.all isD = false := by
  rw [List.all_eq_false]
  exact ⟨u[k], by
    have h1 : u[k] = u.data.toList[k]'(by simpa using h) := rfl
    rw [h1]
    exact List.getElem_mem _, by rw [hb]; simp⟩
theorem all_step (u : ByteArray) (k : Nat) (h : k < u.size) (ha : (u.data.toList.take k).all isD = true) (hb : isD u[k] = true) : (u.data.toList.take (k + 1)).all isD = true := by
  rw [take_snoc u k h, List.all_append, ha]
  simp [hb]
theorem all_end (u : ByteArray) (k : Nat) (h : ¬ k < u.size) (ha : (u.data.toList.take k).all isD = true) : u.data.toList.all isD = true := by
  rw [List.take_of_length_le (by rw [← Lib.size_eq]; omega)] at ha
  exact ha
theorem take_end (u : ByteArray) (k : Nat) (h : ¬ k < u.size) : u.data.toList.take k = u.data.toList := List.take_of_length_le (by rw [← Lib.size_eq]; omega)
theorem notD_lo (c : UInt8) (h : ((c.toNat : Nat) : Int) < 48) : isD c = false := by unfold isD; rw [decide_eq_false (by omega)]; rfl
theorem notD_hi (c : UInt8) (h : 57 < ((c.toNat : Nat) : Int)) : isD c = false := by unfold isD; rw [decide_eq_false (p := c.toNat ≤ 57) (by omega)]; simp
theorem isD_mid (c : UInt8) (h : ¬ ((c.toNat : Nat) : Int) < 48) (k : ¬ 57 < ((c.toNat : Nat) : Int)) : isD c = true := (isD_iff c).2 (by omega)
theorem clamp_step (u : ByteArray) (k : Nat) (h : k < u.size) : (if 1000000000 < clampV (u.data.toList.take k) * 10 + (((u[k].toNat : Nat) : Int) - 48) then (1000000000 : Int) else clampV (u.data.toList.take k) * 10 + (((u[k].toNat : Nat) : Int) - 48)) = clampV (u.data.toList.take (k + 1)) := by
  rw [take_snoc u k h, clampV_snoc]
  unfold dv
  omega

set_option maxHeartbeats 1000000 in
theorem parse_none (s mark t : ByteArray) (w : World) (h0 : 0 < s.size) (ht : s.extract 1 s.size = t) (hts : 0 < t.size) (htb : t.size ≤ 1048576)
    (hi : ¬ Lib.indexByte mark.data.toList s[0] < 0) (hte : t.toList.isEmpty = false) (hse : s.toList.isEmpty = false) (g1 : (((t[0].toNat : Nat) : Int) == 45) = false) (g2 : (((t[0].toNat : Nat) : Int) == 43) = false) :
    Calls Try.prog 18 #[.string s, .string mark] w fun e w' => e = .returned (.tuple #[.int .i64 (expoU false t.data.toList).1, .bool (expoU false t.data.toList).2]) ∧ w' = w := by
  go_enter Try.func18, Try.ntmps18
  go_wp2_with (go_at_call 21; refine (indexByte_any _ _ _).mono ?_; rintro e w' ⟨rfl, rfl⟩)
  go_loop [7, 43] (fun e i => ∃ k : Nat, k ≤ t.size ∧ i = .int .i64 k ∧ e = .int .i64 (clampV (t.data.toList.take k)) ∧ Hid ((t.data.toList.take k).all isD = true)) (fun _ i => t.size - (intOf i).toNat)
  case atStart => exact ⟨0, Nat.zero_le _, rfl, rfl, rfl⟩
  case round =>
    obtain ⟨k, hk, rfl, rfl, had⟩ := hrel
    have hbd := clampV_bd _ had.out
    by_cases hlt : k < t.size
    · by_cases q1 : ((t[k].toNat : Nat) : Int) < 48
      · have HE : Hid (expoU false t.data.toList = (0, false)) := expoU_bad _ (all_bad t k hlt (notD_lo _ q1))
        go_wp2
        go_ret2
        exact ⟨ret_expo (by rw [HE.out]) (by rw [HE.out]), rfl⟩
      · have q3 : decide (((t[k].toNat : Nat) : Int) < 48) = false := decide_eq_false q1
        by_cases q2 : 57 < ((t[k].toNat : Nat) : Int)
        · have HE : Hid (expoU false t.data.toList = (0, false)) := expoU_bad _ (all_bad t k hlt (notD_hi _ q2))
          go_wp2
          go_ret2
          exact ⟨ret_expo (by rw [HE.out]) (by rw [HE.out]), rfl⟩
        · go_wp2
          go_round
          case rel => exact ⟨k + 1, by omega, by go_num, congrArg (Value.int .i64) (clamp_step t k hlt), all_step t k hlt had.out (isD_mid _ q1 q2)⟩
          case measure => simp [intOf]; omega
    · have HE : Hid (expoU false t.data.toList = (signed false (clampV (t.data.toList.take k)), true)) := by
        unfold Hid; rw [take_end t k hlt]; exact expoU_good _ (all_end t k hlt had.out)
      go_wp2
      go_ret2
      exact ⟨ret_expo (by rw [HE.out]; rfl) (by rw [HE.out]), rfl⟩

set_option maxHeartbeats 1000000 in
theorem parse_minus (s mark t u : ByteArray) (w : World) (h0 : 0 < s.size) (ht : s.extract 1 s.size = t) (hts : 0 < t.size) (hu : t.extract 1 t.size = u) (htb : u.size ≤ 1048576)
    (hi : ¬ Lib.indexByte mark.data.toList s[0] < 0) (hte : t.toList.isEmpty = false) (hse : s.toList.isEmpty = false) (g1 : (((t[0].toNat : Nat) : Int) == 45) = true) (hue : u.toList.isEmpty = false) :
    Calls Try.prog 18 #[.string s, .string mark] w fun e w' => e = .returned (.tuple #[.int .i64 (expoU true u.data.toList).1, .bool (expoU true u.data.toList).2]) ∧ w' = w := by
  go_enter Try.func18, Try.ntmps18
  go_wp2_with (go_at_call 21; refine (indexByte_any _ _ _).mono ?_; rintro e w' ⟨rfl, rfl⟩)
  go_loop [7, 43] (fun e i => ∃ k : Nat, k ≤ u.size ∧ i = .int .i64 k ∧ e = .int .i64 (clampV (u.data.toList.take k)) ∧ Hid ((u.data.toList.take k).all isD = true)) (fun _ i => u.size - (intOf i).toNat)
  case atStart => exact ⟨0, Nat.zero_le _, rfl, rfl, rfl⟩
  case round =>
    obtain ⟨k, hk, rfl, rfl, had⟩ := hrel
    have hbd := clampV_bd _ had.out
    by_cases hlt : k < u.size
    · by_cases q1 : ((u[k].toNat : Nat) : Int) < 48
      · have HE : Hid (expoU true u.data.toList = (0, false)) := expoU_bad _ (all_bad u k hlt (notD_lo _ q1))
        go_wp2
        go_ret2
        exact ⟨ret_expo (by rw [HE.out]) (by rw [HE.out]), rfl⟩
      · have q3 : decide (((u[k].toNat : Nat) : Int) < 48) = false := decide_eq_false q1
        by_cases q2 : 57 < ((u[k].toNat : Nat) : Int)
        · have HE : Hid (expoU true u.data.toList = (0, false)) := expoU_bad _ (all_bad u k hlt (notD_hi _ q2))
          go_wp2
          go_ret2
          exact ⟨ret_expo (by rw [HE.out]) (by rw [HE.out]), rfl⟩
        · go_wp2
          go_round
          case rel => exact ⟨k + 1, by omega, by go_num, congrArg (Value.int .i64) (clamp_step u k hlt), all_step u k hlt had.out (isD_mid _ q1 q2)⟩
          case measure => simp [intOf]; omega
    · have HE : Hid (expoU true u.data.toList = (signed true (clampV (u.data.toList.take k)), true)) := by
        unfold Hid; rw [take_end u k hlt]; exact expoU_good _ (all_end u k hlt had.out)
      go_wp2
      go_ret2
      exact ⟨ret_expo (by rw [HE.out]; rfl) (by rw [HE.out]), rfl⟩

set_option maxHeartbeats 1000000 in
theorem parse_minus_bare (s mark t u : ByteArray) (w : World) (h0 : 0 < s.size) (ht : s.extract 1 s.size = t) (hts : 0 < t.size) (hu : t.extract 1 t.size = u)
    (hi : ¬ Lib.indexByte mark.data.toList s[0] < 0) (hte : t.toList.isEmpty = false) (hse : s.toList.isEmpty = false) (g1 : (((t[0].toNat : Nat) : Int) == 45) = true) (hue : u.toList.isEmpty = true) :
    Calls Try.prog 18 #[.string s, .string mark] w fun e w' => e = .returned (.tuple #[.int .i64 0, .bool false]) ∧ w' = w := by
  go_enter Try.func18, Try.ntmps18
  go_wp2_with (go_at_call 21; refine (indexByte_any _ _ _).mono ?_; rintro e w' ⟨rfl, rfl⟩)
  go_ret2
  exact ⟨rfl, rfl⟩

set_option maxHeartbeats 1000000 in
theorem parse_plus (s mark t u : ByteArray) (w : World) (h0 : 0 < s.size) (ht : s.extract 1 s.size = t) (hts : 0 < t.size) (hu : t.extract 1 t.size = u) (htb : u.size ≤ 1048576)
    (hi : ¬ Lib.indexByte mark.data.toList s[0] < 0) (hte : t.toList.isEmpty = false) (hse : s.toList.isEmpty = false) (g1 : (((t[0].toNat : Nat) : Int) == 45) = false) (g2 : (((t[0].toNat : Nat) : Int) == 43) = true) (hue : u.toList.isEmpty = false) :
    Calls Try.prog 18 #[.string s, .string mark] w fun e w' => e = .returned (.tuple #[.int .i64 (expoU false u.data.toList).1, .bool (expoU false u.data.toList).2]) ∧ w' = w := by
  go_enter Try.func18, Try.ntmps18
  go_wp2_with (go_at_call 21; refine (indexByte_any _ _ _).mono ?_; rintro e w' ⟨rfl, rfl⟩)
  go_loop [7, 43] (fun e i => ∃ k : Nat, k ≤ u.size ∧ i = .int .i64 k ∧ e = .int .i64 (clampV (u.data.toList.take k)) ∧ Hid ((u.data.toList.take k).all isD = true)) (fun _ i => u.size - (intOf i).toNat)
  case atStart => exact ⟨0, Nat.zero_le _, rfl, rfl, rfl⟩
  case round =>
    obtain ⟨k, hk, rfl, rfl, had⟩ := hrel
    have hbd := clampV_bd _ had.out
    by_cases hlt : k < u.size
    · by_cases q1 : ((u[k].toNat : Nat) : Int) < 48
      · have HE : Hid (expoU false u.data.toList = (0, false)) := expoU_bad _ (all_bad u k hlt (notD_lo _ q1))
        go_wp2
        go_ret2
        exact ⟨ret_expo (by rw [HE.out]) (by rw [HE.out]), rfl⟩
      · have q3 : decide (((u[k].toNat : Nat) : Int) < 48) = false := decide_eq_false q1
        by_cases q2 : 57 < ((u[k].toNat : Nat) : Int)
        · have HE : Hid (expoU false u.data.toList = (0, false)) := expoU_bad _ (all_bad u k hlt (notD_hi _ q2))
          go_wp2
          go_ret2
          exact ⟨ret_expo (by rw [HE.out]) (by rw [HE.out]), rfl⟩
        · go_wp2
          go_round
          case rel => exact ⟨k + 1, by omega, by go_num, congrArg (Value.int .i64) (clamp_step u k hlt), all_step u k hlt had.out (isD_mid _ q1 q2)⟩
          case measure => simp [intOf]; omega
    · have HE : Hid (expoU false u.data.toList = (signed false (clampV (u.data.toList.take k)), true)) := by
        unfold Hid; rw [take_end u k hlt]; exact expoU_good _ (all_end u k hlt had.out)
      go_wp2
      go_ret2
      exact ⟨ret_expo (by rw [HE.out]; rfl) (by rw [HE.out]), rfl⟩

set_option maxHeartbeats 1000000 in
theorem parse_plus_bare (s mark t u : ByteArray) (w : World) (h0 : 0 < s.size) (ht : s.extract 1 s.size = t) (hts : 0 < t.size) (hu : t.extract 1 t.size = u)
    (hi : ¬ Lib.indexByte mark.data.toList s[0] < 0) (hte : t.toList.isEmpty = false) (hse : s.toList.isEmpty = false) (g1 : (((t[0].toNat : Nat) : Int) == 45) = false) (g2 : (((t[0].toNat : Nat) : Int) == 43) = true) (hue : u.toList.isEmpty = true) :
    Calls Try.prog 18 #[.string s, .string mark] w fun e w' => e = .returned (.tuple #[.int .i64 0, .bool false]) ∧ w' = w := by
  go_enter Try.func18, Try.ntmps18
  go_wp2_with (go_at_call 21; refine (indexByte_any _ _ _).mono ?_; rintro e w' ⟨rfl, rfl⟩)
  go_ret2
  exact ⟨rfl, rfl⟩

set_option maxHeartbeats 1000000 in
theorem parse_short (s mark t : ByteArray) (w : World) (h0 : 0 < s.size) (ht : s.extract 1 s.size = t)
    (hi : ¬ Lib.indexByte mark.data.toList s[0] < 0) (hte : t.toList.isEmpty = true) (hse : s.toList.isEmpty = false) :
    Calls Try.prog 18 #[.string s, .string mark] w fun e w' => e = .returned (.tuple #[.int .i64 0, .bool false]) ∧ w' = w := by
  go_enter Try.func18, Try.ntmps18
  go_wp2_with (go_at_call 21; refine (indexByte_any _ _ _).mono ?_; rintro e w' ⟨rfl, rfl⟩)
  go_ret2
  exact ⟨rfl, rfl⟩

set_option maxHeartbeats 1000000 in
theorem parse_unmarked (s mark : ByteArray) (w : World) (h0 : 0 < s.size) (hi : Lib.indexByte mark.data.toList s[0] < 0) (hse : s.toList.isEmpty = false) :
    Calls Try.prog 18 #[.string s, .string mark] w fun e w' => e = .returned (.tuple #[.int .i64 0, .bool false]) ∧ w' = w := by
  go_enter Try.func18, Try.ntmps18
  go_wp2_with (go_at_call 21; refine (indexByte_any _ _ _).mono ?_; rintro e w' ⟨rfl, rfl⟩)
  go_ret2
  exact ⟨rfl, rfl⟩

set_option maxHeartbeats 1000000 in
theorem parse_empty (s mark : ByteArray) (w : World) (hse : s.toList.isEmpty = true) :
    Calls Try.prog 18 #[.string s, .string mark] w fun e w' => e = .returned (.tuple #[.int .i64 0, .bool true]) ∧ w' = w := by
  go_enter Try.func18, Try.ntmps18
  go_wp2_with (go_at_call 21; refine (indexByte_any _ _ _).mono ?_; rintro e w' ⟨rfl, rfl⟩)
  go_ret2
  exact ⟨rfl, rfl⟩

end Go.Proofs.Qxb6600543a
