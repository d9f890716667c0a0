/-
  strings.Cut at a separator of one byte, LastIndex at one byte, hasByte, splitReference: walked over this seat's translation; and Cut's answer in plain words (lists of bytes).
-/
import Derived.Test.Qxb6003646aRows
import Derived.Test.Qxb6003646aPlain
import Derived.WalkKit
import Derived.WalkSpells
import Derived.WalkLawsBesides
import Derived.Lib.Bytealg
import Derived.Lib.IndexBytes
namespace Go.Proofs.Qxb6003646a
open Go.RowKit

set_option maxHeartbeats 400000 in
theorem indexByte_any (s : ByteArray) (c : Int) (w : World) :
    Calls Try.prog 39 #[.string s, .int .u8 c] w fun e w' => e = .returned (.int .i64 (Lib.indexByte s.data.toList c.toNat.toUInt8)) ∧ w' = w := by
  go_enter Try.func39, Try.ntmps39
  go_wp2
  rw [run_callFunc_extern Try.func45 (by kernel_rfl) (by kernel_rfl) (by kernel_rfl) (e := Extern.BytealgIndexByte.indexByte) (by kernel_rfl), Lib.run_indexByteString]
  simp only [Result.andThen]
  rw [Oper.upon_value]
  go_wp2
  go_ret
  exact ⟨rfl, rfl⟩

set_option maxHeartbeats 400000 in
theorem index_one (s : ByteArray) (c : UInt8) (w : World) :
    Calls Try.prog 33 #[.string s, .string ⟨#[c]⟩] w fun e w' => e = .returned (.int .i64 (Lib.indexByte s.data.toList c)) ∧ w' = w := by
  by_cases h : s = ⟨#[c]⟩
  · subst h
    go_enter Try.func33, Try.ntmps33
    go_wp2
    go_ret
    exact ⟨by simp [Lib.indexByte], rfl⟩
  · have h' : ([c] == s.toList) = false := by
      rw [beq_eq_false_iff_ne]
      intro e
      apply h
      rw [Lib.toList_data] at e
      rw [← Lib.mk_data s, ← e]
    clear h
    go_enter Try.func33, Try.ntmps33
    go_wp2_with (go_at_call 39; refine (indexByte_any _ _ _).mono ?_; rintro e w' ⟨rfl, rfl⟩)
    go_ret
    exact ⟨rfl, rfl⟩

/-- What Cut gives at a separator of one byte. -/
def befB (s : ByteArray) (c : UInt8) : ByteArray := ⟨(s.data.toList.takeWhile (· != c)).toArray⟩
def aftB (s : ByteArray) (c : UInt8) : ByteArray := ⟨((s.data.toList.dropWhile (· != c)).tail).toArray⟩
def hasB (s : ByteArray) (c : UInt8) : Bool := s.data.toList.contains c

theorem indexByte_miss (l : List UInt8) (c : UInt8) (h : l.contains c = false) : Lib.indexByte l c = -1 ∧ l.takeWhile (· != c) = l ∧ (l.dropWhile (· != c)).tail = [] := by
  induction l with
  | nil => exact ⟨rfl, rfl, rfl⟩
  | cons b l ih =>
    simp only [List.contains_cons, Bool.or_eq_false_iff, beq_eq_false_iff_ne] at h
    obtain ⟨h1, h2, h3⟩ := ih h.2
    have hb : (b == c) = false := beq_eq_false_iff_ne.2 (fun e => h.1 e.symm)
    have hb' : (b != c) = true := by simp [bne, hb]
    refine ⟨?_, ?_, ?_⟩
    · unfold Lib.indexByte; simp [hb, h1]
    · rw [List.takeWhile_cons, hb']; simp [h2]
    · rw [List.dropWhile_cons, hb']; simp [h3]

theorem indexByte_hit (l : List UInt8) (c : UInt8) (h : l.contains c = true) : ∃ k : Nat, k < l.length ∧ Lib.indexByte l c = k ∧ l.takeWhile (· != c) = l.take k ∧ (l.dropWhile (· != c)).tail = l.drop (k + 1) := by
  induction l with
  | nil => simp at h
  | cons b l ih =>
    by_cases hb : (b == c) = true
    · have hb' : (b != c) = false := by simp [bne, hb]
      refine ⟨0, by simp, ?_, ?_, ?_⟩
      · unfold Lib.indexByte; simp [hb]
      · rw [List.takeWhile_cons, hb']; simp
      · rw [List.dropWhile_cons, hb']; simp
    · have hb0 : (b == c) = false := by simpa using hb
      have hb' : (b != c) = true := by simp [bne, hb0]
      have hl : l.contains c = true := by
        simp only [List.contains_cons, Bool.or_eq_true] at h
        rcases h with h | h
        · have e : c = b := by simpa using h
          exact absurd (beq_iff_eq.2 e.symm) hb
        · exact h
      obtain ⟨k, h1, h2, h3, h4⟩ := ih hl
      refine ⟨k + 1, by simp; omega, ?_, ?_, ?_⟩
      · unfold Lib.indexByte
        rw [h2, hb0]
        have : (((k : Int)) == -1) = false := beq_eq_false_iff_ne.2 (by omega)
        rw [this]; simp
      · rw [List.takeWhile_cons, hb']; simp [h3]
      · rw [List.dropWhile_cons, hb']; simp [h4]

set_option maxHeartbeats 400000 in
theorem cutlite_one (s : ByteArray) (c : UInt8) (w : World) (hs : s.size ≤ maxLen) :
    Calls Try.prog 29 #[.string s, .string ⟨#[c]⟩] w fun e w' => e = .returned (.tuple #[.string (befB s c), .string (aftB s c), .bool (hasB s c)]) ∧ ∃ n, w' = w.drewN n := by
  unfold maxLen at hs
  cases hc : hasB s c with
  | false =>
    obtain ⟨h1, h2, h3⟩ := indexByte_miss s.data.toList c hc
    have e1 : befB s c = s := by unfold befB; rw [h2, Lib.mk_data]
    have e2 : aftB s c = ByteArray.empty := by unfold aftB; rw [h3]; rfl
    rw [e1, e2]
    go_enter Try.func29, Try.ntmps29
    go_wp2_with (go_at_call 33; refine (index_one _ _ _).mono ?_; rintro e w' ⟨rfl, rfl⟩; rw [h1])
    go_ret3
    exact ⟨rfl, 0, rfl⟩
  | true =>
    obtain ⟨k, hk, h1, h2, h3⟩ := indexByte_hit s.data.toList c hc
    have hk' : k < s.size := by rw [Lib.size_eq]; exact hk
    have e1 : befB s c = s.extract 0 k := by unfold befB; rw [h2, Lib.extract_eq]; simp
    have e2 : aftB s c = s.extract (k + 1) s.size := by
      unfold aftB; rw [h3, ← Lib.extract_to_end, Lib.mk_data]
    rw [e1, e2]
    have H1 : Hid (Lib.indexByte s.data.toList c = k) := h1
    clear h1 h2 h3 e1 e2 hc
    have c1 : (0 : Int) ≤ ↑k := by omega
    have c2 : (↑k : Int) ≤ ↑s.size := by omega
    have c3 : (0 : Int) ≤ ↑k + 1 := by omega
    have c4 : (↑k + 1 : Int) ≤ ↑s.size := by omega
    go_enter Try.func29, Try.ntmps29
    go_wp2_with (go_at_call 33; refine (index_one _ _ _).mono ?_; rintro e w' ⟨rfl, rfl⟩; rw [H1.out])
    go_region
    go_wp2
    go_ret3
    exact ⟨rfl, 1, rfl⟩

set_option maxHeartbeats 400000 in
theorem cut_one (s : ByteArray) (c : UInt8) (w : World) (hs : s.size ≤ maxLen) :
    Calls Try.prog 26 #[.string s, .string ⟨#[c]⟩] w fun e w' => e = .returned (.tuple #[.string (befB s c), .string (aftB s c), .bool (hasB s c)]) ∧ ∃ n, w' = w.drewN n := by
  go_enter Try.func26, Try.ntmps26
  go_wp2_with (go_at_call 29; refine (cutlite_one _ _ _ hs).mono ?_; rintro e w' ⟨rfl, n, rfl⟩)
  go_ret3
  exact ⟨rfl, n, rfl⟩

theorem byte_is (x c : UInt8) (h : ((x.toNat : Int) == (c.toNat : Int)) = true) : x = c := by
  have := beq_iff_eq.1 h
  exact UInt8.toNat_inj.1 (by omega)
theorem byte_isnt (x c : UInt8) (h : ((x.toNat : Int) == (c.toNat : Int)) = false) : x ≠ c := by
  rintro rfl
  simp at h

theorem take_snoc (s : ByteArray) (k : Nat) (h : k < s.size) : s.data.toList.take (k + 1) = s.data.toList.take k ++ [s[k]] := by
  rw [List.take_succ_eq_append_getElem (by simpa using h)]; rfl
theorem none_step (s : ByteArray) (c : UInt8) (k : Nat) (h : k < s.size) (hn : (s.data.toList.take k).contains c = false) (hc : s[k] ≠ c) : (s.data.toList.take (k + 1)).contains c = false := by
  rw [take_snoc s k h]
  exact contains_app _ _ _ hn (contains_cons_ne _ _ _ hc rfl)
theorem has_at (s : ByteArray) (c : UInt8) (k : Nat) (h : k < s.size) (hc : s[k] = c) : hasB s c = true := by
  unfold hasB
  have : s[k] ∈ s.data.toList := by
    have h1 : s[k] = s.data.toList[k]'(by simpa using h) := rfl
    rw [h1]
    exact List.getElem_mem _
  rw [hc] at this
  simpa using this

theorem ret_bool {a b : Bool} (h : a = b) : Ending.returned (.bool a) = .returned (.bool b) := by rw [h]
theorem ret_int {k : IntKind} {a b : Int} (h : a = b) : Ending.returned (.int k a) = .returned (.int k b) := by rw [h]

set_option maxHeartbeats 400000 in
theorem hasByte_any (s : ByteArray) (c : UInt8) (z : Int) (hz : z = c.toNat) (w : World) (hs : s.size ≤ maxLen) :
    Calls Try.prog 10 #[.string s, .int .u8 z] w fun e w' => e = .returned (.bool (hasB s c)) ∧ w' = w := by
  unfold maxLen at hs
  subst hz
  go_enter Try.func10, Try.ntmps10
  go_wp2
  go_loop [5] (fun i => ∃ k : Nat, k ≤ s.size ∧ i = .int .i64 k ∧ Hid ((s.data.toList.take k).contains c = false)) (fun i => s.size - (intOf i).toNat)
  case atStart => exact ⟨0, Nat.zero_le _, rfl, by simp [Hid]⟩
  case round =>
    obtain ⟨k, hk, rfl, hn⟩ := hrel
    by_cases hlt : k < s.size
    · go_wp2
      · have hc : ((s[k].toNat : Int) == (c.toNat : Int)) = true := by assumption
        go_ret
        exact ⟨ret_bool (has_at s c k hlt (byte_is _ _ hc)).symm, rfl⟩
      · have hc : ((s[k].toNat : Int) == (c.toNat : Int)) = false := by assumption
        go_round
        case rel => exact ⟨k + 1, by omega, by go_num, none_step s c k hlt hn.out (byte_isnt _ _ hc)⟩
        case measure => simp [intOf]; omega
    · have hn2 : hasB s c = false := by
        have := hn.out
        rw [List.take_of_length_le (by rw [← Lib.size_eq]; omega)] at this
        exact this
      have H2 : Hid (hasB s c = false) := hn2
      clear hn2
      go_wp2
      go_ret
      exact ⟨ret_bool H2.out.symm, rfl⟩

set_option maxHeartbeats 400000 in
theorem lastByte_any (s : ByteArray) (c : UInt8) (w : World) (hs : s.size ≤ maxLen) :
    Calls Try.prog 30 #[.string s, .int .u8 c.toNat] w fun e w' => e = .returned (.int .i64 (lastI s.data.toList c)) ∧ w' = w := by
  unfold maxLen at hs
  go_enter Try.func30, Try.ntmps30
  go_wp2
  go_loop [5] (fun i => ∃ k : Nat, k ≤ s.size ∧ i = .int .i64 ((k : Int) - 1) ∧ Hid ((s.data.toList.drop k).contains c = false)) (fun i => (intOf i + 1).toNat)
  case atStart => exact ⟨s.size, Nat.le_refl _, rfl, by unfold Hid; rw [List.drop_of_length_le (by rw [← Lib.size_eq]; omega)]; rfl⟩
  case round =>
    obtain ⟨k, hk, rfl, hn⟩ := hrel
    cases k with
    | zero =>
      have H2 : Hid (lastI s.data.toList c = -1) := lastI_none _ _ hn.out
      clear hn
      go_wp2
      go_ret
      exact ⟨ret_int H2.out.symm, rfl⟩
    | succ k =>
      have e1 : (((k + 1 : Nat) : Int) - 1) = k := by omega
      rw [e1]
      clear e1
      have hlt : k < s.size := by omega
      go_wp2
      · have hc : ((s[k].toNat : Int) == (c.toNat : Int)) = true := by assumption
        go_ret
        exact ⟨ret_int (lastI_at s.data.toList c k (by rw [← Lib.size_eq]; exact hlt) (byte_is _ _ hc) hn.out).symm, rfl⟩
      · have hc : ((s[k].toNat : Int) == (c.toNat : Int)) = false := by assumption
        go_round
        case rel => exact ⟨k, by omega, rfl, drop_step s.data.toList c k (by rw [← Lib.size_eq]; exact hlt) (byte_isnt _ _ hc) hn.out⟩
        case measure => simp [intOf]

set_option maxHeartbeats 400000 in
theorem lastIndex_one (s : ByteArray) (c : UInt8) (w : World) (hs : s.size ≤ maxLen) :
    Calls Try.prog 27 #[.string s, .string ⟨#[c]⟩] w fun e w' => e = .returned (.int .i64 (lastI s.data.toList c)) ∧ w' = w := by
  go_enter Try.func27, Try.ntmps27
  go_wp2_with (go_at_call 30; refine (lastByte_any s c _ hs).mono ?_; rintro e w' ⟨rfl, rfl⟩)
  go_ret
  exact ⟨rfl, rfl⟩

/-! ### splitReference -/
def B (l : List UInt8) : ByteArray := ⟨l.toArray⟩
theorem B_list (l : List UInt8) : (B l).data.toList = l := rfl
theorem B_size (l : List UInt8) : (B l).size = l.length := by rw [Lib.size_eq, B_list]
theorem bef_len (l : List UInt8) (c : UInt8) : (befL l c).length ≤ l.length := (List.takeWhile_prefix _).length_le
theorem B_take (l : List UInt8) (k : Nat) : (B l).extract 0 k = B (l.take k) := by
  rw [Lib.extract_eq, B_list]; rfl
theorem B_drop (l : List UInt8) (k : Nat) : (B l).extract k (B l).size = B (l.drop k) := by
  rw [← Lib.mk_data ((B l).extract k (B l).size), Lib.extract_to_end, B_list]; rfl
theorem ret_two {a b c d : ByteArray} (h : a = b) (k : c = d) : Ending.returned (.tuple #[.string a, .string c]) = .returned (.tuple #[.string b, .string d]) := by rw [h, k]

set_option maxHeartbeats 400000 in
theorem split_any (s : ByteArray) (w : World) (hs : s.size ≤ 4194304) :
    Calls Try.prog 23 #[.string s] w fun e w' => e = .returned (.tuple #[.string (B (repoL s.data.toList)), .string (B (verL s.data.toList))]) ∧ ∃ n, w' = w.drewN n := by
  have hm : s.size ≤ maxLen := by unfold maxLen; omega
  have hl := bef_len s.data.toList 64
  rw [← Lib.size_eq] at hl
  have hbs : (befB s 64).size ≤ 4194304 := by
    have : (befB s 64).size = (befL s.data.toList 64).length := B_size _
    omega
  have hbm : (befB s 64).size ≤ maxLen := by unfold maxLen; omega
  have hbl : (befB s 64).data.toList = befL s.data.toList 64 := rfl
  have Hr : Hid (befB s 64 = B (befL s.data.toList 64)) := rfl
  have Ha : Hid (aftB s 64 = B (aftL s.data.toList 64)) := rfl
  generalize hrr : befL s.data.toList 64 = r0 at Hr hbl
  have Hl : Hid (befL s.data.toList 64 = r0) := hrr
  clear hrr
  obtain ⟨r, hrB⟩ : ∃ r, B r0 = r := ⟨_, rfl⟩
  rw [Hr.out, hrB] at hbs hbm hbl
  rw [hrB] at Hr
  have HB : Hid (B r0 = r) := hrB
  clear hrB
  have g1 := lastI_ge r0 58
  have g2 := lastI_lt r0 58
  have g2' : lastI r0 58 < r.size := by rw [← HB.out, B_size]; exact g2
  cases ht : taggedL r0 with
  | false =>
    have h1 : ¬ lastI r0 47 < lastI r0 58 := of_decide_eq_false ht
    have Hst : Hid (repoL s.data.toList = r0) := by unfold Hid repoL stemL; rw [Hl.out, ht]; rfl
    cases hc : hasB s 64 with
    | false =>
      have Hc : Hid (hasB s 64 = false) := hc
      have Hve : Hid (verL s.data.toList = []) := by
        unfold Hid verL tagL; rw [Hl.out, ht, show s.data.toList.contains 64 = false from hc]; rfl
      clear hc ht g2
      go_enter Try.func23, Try.ntmps23
      go_wp2_with fail
      refine (cut_one s 64 _ hm).mono ?_
      rintro e w1 ⟨rfl, n, rfl⟩
      rw [Hr.out, Hc.out]
      go_wp2_with fail
      refine (lastIndex_one r 58 _ hbm).mono ?_
      rintro e w2 ⟨rfl, rfl⟩
      rw [hbl]
      go_wp2_with fail
      refine (lastIndex_one r 47 _ hbm).mono ?_
      rintro e w2 ⟨rfl, rfl⟩
      rw [hbl]
      go_wp2
      go_ret2
      exact ⟨ret_two (by rw [Hst.out]; exact HB.out.symm) (by rw [Hve.out]; rfl), n, rfl⟩
    | true =>
      have Hc : Hid (hasB s 64 = true) := hc
      have Hve : Hid (verL s.data.toList = aftL s.data.toList 64) := by
        unfold Hid verL; rw [show s.data.toList.contains 64 = true from hc]; rfl
      clear hc ht g2
      go_enter Try.func23, Try.ntmps23
      go_wp2_with fail
      refine (cut_one s 64 _ hm).mono ?_
      rintro e w1 ⟨rfl, n, rfl⟩
      rw [Hr.out, Hc.out]
      go_wp2_with fail
      refine (lastIndex_one r 58 _ hbm).mono ?_
      rintro e w2 ⟨rfl, rfl⟩
      rw [hbl]
      go_wp2_with fail
      refine (lastIndex_one r 47 _ hbm).mono ?_
      rintro e w2 ⟨rfl, rfl⟩
      rw [hbl]
      go_wp2
      go_ret2
      exact ⟨ret_two (by rw [Hst.out]; exact HB.out.symm) (by rw [Hve.out]; exact Ha.out), n, rfl⟩
  | true =>
    have h1 : lastI r0 47 < lastI r0 58 := of_decide_eq_true ht
    have g0 := lastI_ge r0 47
    obtain ⟨k, hk⟩ : ∃ k : Nat, lastI r0 58 = k := ⟨(lastI r0 58).toNat, by omega⟩
    have Hst : Hid (repoL s.data.toList = r0.take k) := by unfold Hid repoL stemL; rw [Hl.out, ht, hk]; rfl
    have Htg : Hid (tagL r0 = r0.drop (k + 1)) := by unfold Hid tagL; rw [ht, hk]; rfl
    have Hk : Hid (lastI r0 58 = k) := hk
    rw [hk] at h1 g2'
    have hks : k < r.size := by omega
    clear hk g1 g2 g2' g0
    have c1 : (0 : Int) ≤ ↑k := by omega
    have c2 : (↑k : Int) ≤ ↑r.size := by omega
    have c3 : (0 : Int) ≤ ↑k + 1 := by omega
    have c4 : (↑k + 1 : Int) ≤ ↑r.size := by omega
    have X1 : Hid (r.extract 0 k = B (r0.take k)) := by unfold Hid; rw [← HB.out]; exact B_take _ _
    have X2 : Hid (r.extract (k + 1) r.size = B (r0.drop (k + 1))) := by unfold Hid; rw [← HB.out]; exact B_drop _ _
    cases hc : hasB s 64 with
    | false =>
      have Hc : Hid (hasB s 64 = false) := hc
      have Hve : Hid (verL s.data.toList = tagL r0) := by
        unfold Hid verL; rw [Hl.out, show s.data.toList.contains 64 = false from hc]; rfl
      clear hc ht
      go_enter Try.func23, Try.ntmps23
      go_wp2_with fail
      refine (cut_one s 64 _ hm).mono ?_
      rintro e w1 ⟨rfl, n, rfl⟩
      rw [Hr.out, Hc.out]
      go_wp2_with fail
      refine (lastIndex_one r 58 _ hbm).mono ?_
      rintro e w2 ⟨rfl, rfl⟩
      rw [hbl, Hk.out]
      go_wp2_with fail
      refine (lastIndex_one r 47 _ hbm).mono ?_
      rintro e w2 ⟨rfl, rfl⟩
      rw [hbl]
      go_wp2
      go_region
      go_wp2
      go_ret2
      exact ⟨ret_two (by rw [Hst.out]; exact X1.out) (by rw [Hve.out, Htg.out]; exact X2.out), n + 1, rfl⟩
    | true =>
      have Hc : Hid (hasB s 64 = true) := hc
      have Hve : Hid (verL s.data.toList = aftL s.data.toList 64) := by
        unfold Hid verL; rw [show s.data.toList.contains 64 = true from hc]; rfl
      clear hc ht
      go_enter Try.func23, Try.ntmps23
      go_wp2_with fail
      refine (cut_one s 64 _ hm).mono ?_
      rintro e w1 ⟨rfl, n, rfl⟩
      rw [Hr.out, Hc.out]
      go_wp2_with fail
      refine (lastIndex_one r 58 _ hbm).mono ?_
      rintro e w2 ⟨rfl, rfl⟩
      rw [hbl, Hk.out]
      go_wp2_with fail
      refine (lastIndex_one r 47 _ hbm).mono ?_
      rintro e w2 ⟨rfl, rfl⟩
      rw [hbl]
      go_wp2
      go_region
      go_wp2
      go_ret2
      exact ⟨ret_two (by rw [Hst.out]; exact X1.out) (by rw [Hve.out]; exact Ha.out), n + 1, rfl⟩

set_option maxHeartbeats 400000 in
theorem zzSplit_any (s : ByteArray) (w : World) (hs : s.size ≤ 4194304) :
    Calls Try.prog 11 #[.string s] w fun e w' => e = .returned (.tuple #[.string (B (repoL s.data.toList)), .string (B (verL s.data.toList))]) ∧ ∃ n, w' = w.drewN n := by
  go_enter Try.func11, Try.ntmps11
  go_wp2_with (go_at_call 23; refine (split_any s _ hs).mono ?_; rintro e w' ⟨rfl, n, rfl⟩)
  go_ret2
  exact ⟨rfl, n, rfl⟩

theorem grown_drewN {a w : World} (h : Grown a w) : ∀ n, Grown a (w.drewN n)
  | 0 => h
  | n + 1 => (grown_drewN h n).drew
theorem eq_beq {a b : ByteArray} (h : a = b) : (a.toList == b.toList) = true := by rw [h]; simp
theorem ne_beq {a b : ByteArray} (h : a ≠ b) : (a.toList == b.toList) = false := by
  rw [beq_eq_false_iff_ne]
  intro e
  rw [Lib.toList_data, Lib.toList_data] at e
  exact h (by rw [← Lib.mk_data a, e, Lib.mk_data])
theorem data_append (a b : ByteArray) : (a ++ b).data.toList = a.data.toList ++ b.data.toList := by simp
theorem B_data (a : ByteArray) : B a.data.toList = a := Lib.mk_data a

end Go.Proofs.Qxb6003646a
