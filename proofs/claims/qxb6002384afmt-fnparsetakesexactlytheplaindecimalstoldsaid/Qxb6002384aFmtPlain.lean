/-
  plainDecimal, walked: it returns 'okT' of what stands behind the minus sign.
-/
import Derived.Test.Qxb6002384aFmtText
namespace Go.Proofs.Qxb6002384aFmt
open Go.RowKit

/-! ### The grammar, in plain words -/
def befL (t : List UInt8) : List UInt8 := t.takeWhile (· != 46)
def aftL (t : List UInt8) : List UInt8 := (t.dropWhile (· != 46)).tail
/-- Digits; and, behind a point, digits; forty in all. -/
def okT (t : List UInt8) : Bool := digsL (befL t) && (!(t.contains 46) || digsL (aftL t)) && decide ((befL t).length + (aftL t).length ≤ 40)

theorem dig_ne (c : UInt8) (h : isD c = true) : (c != 46) = true := by
  rw [bne_iff_ne]
  rintro rfl
  revert h
  decide
theorem bef_app (D r : List UInt8) (h : D.all isD = true) : befL (D ++ 46 :: r) = D ∧ aftL (D ++ 46 :: r) = r := by
  unfold befL aftL
  induction D with
  | nil => exact ⟨by simp, by simp⟩
  | cons x D ih =>
    rw [List.all_cons, Bool.and_eq_true] at h
    obtain ⟨h1, h2⟩ := ih h.2
    rw [List.cons_append, List.takeWhile_cons, List.dropWhile_cons, dig_ne x h.1]
    simp only [if_true]
    exact ⟨by rw [h1], h2⟩
theorem bef_all (D : List UInt8) (h : D.all isD = true) : befL D = D ∧ aftL D = [] ∧ D.contains 46 = false := by
  unfold befL aftL
  induction D with
  | nil => exact ⟨rfl, rfl, rfl⟩
  | cons x D ih =>
    rw [List.all_cons, Bool.and_eq_true] at h
    obtain ⟨h1, h2, h3⟩ := ih h.2
    rw [List.takeWhile_cons, List.dropWhile_cons, dig_ne x h.1]
    simp only [if_true]
    refine ⟨by rw [h1], h2, ?_⟩
    rw [List.contains_cons, h3, Bool.or_false]
    have := dig_ne x h.1
    rw [bne_iff_ne] at this
    exact beq_eq_false_iff_ne.2 (fun e => this e.symm)
theorem ok_all (D : List UInt8) (h : D.all isD = true) (hn : D ≠ []) : okT D = decide (D.length ≤ 40) := by
  obtain ⟨h1, h2, h3⟩ := bef_all D h
  unfold okT
  rw [h1, h2, h3]
  have : digsL D = true := by
    unfold digsL
    rw [h]
    cases D with
    | nil => exact absurd rfl hn
    | cons _ _ => rfl
  rw [this]
  simp
theorem ok_nil : okT [] = false := rfl
theorem mem_bef (D r : List UInt8) (c : UInt8) (h : D.all isD = true) (hn : c ≠ 46) : c ∈ befL (D ++ c :: r) := by
  unfold befL
  induction D with
  | nil =>
    rw [List.nil_append, List.takeWhile_cons, show (c != 46) = true from bne_iff_ne.2 hn]
    simp
  | cons x D ih =>
    rw [List.all_cons, Bool.and_eq_true] at h
    rw [List.cons_append, List.takeWhile_cons, dig_ne x h.1]
    simp only [if_true]
    exact List.mem_cons_of_mem _ (ih h.2)
theorem ok_other (D r : List UInt8) (c : UInt8) (h : D.all isD = true) (hc : isD c = false) (hn : c ≠ 46) : okT (D ++ c :: r) = false := by
  have hm := mem_bef D r c h hn
  have : digsL (befL (D ++ c :: r)) = false := by
    unfold digsL
    have : (befL (D ++ c :: r)).all isD = false := List.all_eq_false.2 ⟨c, hm, by rw [hc]; simp⟩
    rw [this, Bool.and_false]
  unfold okT
  rw [this]
  rfl
theorem ok_point (D r : List UInt8) (h : D.all isD = true) (hn : D ≠ []) : okT (D ++ 46 :: r) = (digsL r && decide (D.length + r.length ≤ 40)) := by
  obtain ⟨h1, h2⟩ := bef_app D r h
  have h3 : (D ++ 46 :: r).contains 46 = true := by simp
  unfold okT
  rw [h1, h2, h3]
  have : digsL D = true := by
    unfold digsL
    rw [h]
    cases D with
    | nil => exact absurd rfl hn
    | cons _ _ => rfl
  rw [this]
  simp
theorem ok_point0 (r : List UInt8) : okT (46 :: r) = false := by
  have : befL (46 :: r) = [] := by unfold befL; simp
  unfold okT
  rw [this]
  rfl
theorem digs_other (E r : List UInt8) (c : UInt8) (hc : isD c = false) : digsL (E ++ c :: r) = false := by
  have : (E ++ c :: r).all isD = false := List.all_eq_false.2 ⟨c, by simp, by rw [hc]; simp⟩
  unfold digsL
  rw [this, Bool.and_false]
theorem digs_all (E : List UInt8) (h : E.all isD = true) (hn : E ≠ []) : digsL E = true := by
  unfold digsL
  rw [h]
  cases E with
  | nil => exact absurd rfl hn
  | cons _ _ => rfl

/-! ### Places -/
def cut (s : ByteArray) (A : Nat) : List UInt8 := s.data.toList.drop A
def pre (s : ByteArray) (A j : Nat) : List UInt8 := (s.data.toList.drop A).take j
theorem pre_len (s : ByteArray) (A j : Nat) (h : A + j ≤ s.size) : (pre s A j).length = j := by
  unfold pre
  rw [List.length_take, List.length_drop, ← Lib.size_eq]
  omega
theorem pre_ne (s : ByteArray) (A j : Nat) (h : A + j ≤ s.size) (hj : 0 < j) : pre s A j ≠ [] := by
  intro e
  have := pre_len s A j h
  rw [e] at this
  simp at this
  omega
theorem pre_step (s : ByteArray) (A j k : Nat) (hk : A + j = k) (h : k < s.size) (ha : (pre s A j).all isD = true) (hd : isD s[k] = true) : (pre s A (j + 1)).all isD = true := by
  subst hk
  unfold pre at ha ⊢
  rw [List.take_succ_eq_append_getElem (by rw [List.length_drop, ← Lib.size_eq]; omega), List.all_append, ha, List.getElem_drop]
  have : s.data.toList[A + j]'(by rw [← Lib.size_eq]; exact h) = s[A + j] := rfl
  rw [this]
  simp [hd]
theorem cut_at (s : ByteArray) (A j k : Nat) (hk : A + j = k) (h : k < s.size) : cut s A = pre s A j ++ s[k] :: cut s (k + 1) := by
  subst hk
  unfold cut pre
  have h1 : s.data.toList.drop (A + j) = s[A + j] :: s.data.toList.drop (A + j + 1) := by
    rw [List.drop_eq_getElem_cons (by rw [← Lib.size_eq]; exact h)]; rfl
  have h2 : (s.data.toList.drop A).drop j = s.data.toList.drop (A + j) := by rw [List.drop_drop]
  rw [← h1, ← h2, List.take_append_drop]
theorem cut_end (s : ByteArray) (A j : Nat) (h : A + j = s.size) : cut s A = pre s A j := by
  unfold cut pre
  exact (List.take_of_length_le (by rw [List.length_drop, ← Lib.size_eq]; omega)).symm
theorem byte46 (c : UInt8) (h : (((c.toNat : Nat) : Int) == 46) = true) : c = 46 := by
  have := beq_iff_eq.1 h
  exact UInt8.toNat_inj.1 (by show c.toNat = 46; omega)
theorem not46 (c : UInt8) (h : (((c.toNat : Nat) : Int) == 46) = false) : c ≠ 46 := by
  rintro rfl
  revert h
  decide
theorem notD_lo' (c : UInt8) (h : ¬ 48 ≤ ((c.toNat : Nat) : Int)) : isD c = false := notD_lo c (by omega)
theorem notD_hi' (c : UInt8) (h : ¬ ((c.toNat : Nat) : Int) ≤ 57) : isD c = false := notD_hi c (by omega)
theorem isD_mid' (c : UInt8) (h : 48 ≤ ((c.toNat : Nat) : Int)) (k : ((c.toNat : Nat) : Int) ≤ 57) : isD c = true := isD_mid c (by omega) (by omega)
theorem okr {s : ByteArray} {A : Nat} {b : Bool} (h : okT (cut s A) = b) : Ending.returned (.bool b) = .returned (.bool (okT (cut s A))) := by rw [h]

set_option maxHeartbeats 4000000 in
theorem plain_0 (s : ByteArray) (w : World) (hs : s.size ≤ 65536) (h0 : 0 < s.size) (hneg : (((s[0].toNat : Nat) : Int) == 45) = false) :
    Calls Tryf.prog 7 #[.string s] w fun e w' => e = .returned (.bool (okT (cut s 0))) ∧ w' = w := by
  go_enter Tryf.func7, Tryf.ntmps7
  go_wp2
  go_loop [3, 4] (fun i b => ∃ j : Nat, 0 + j ≤ s.size ∧ i = .int .i64 (j : Int) ∧ b = .int .i64 j ∧ Hid ((pre s 0 j).all isD = true)) (fun _ b => s.size - (intOf b).toNat)
  case atStart => exact ⟨0, by omega, rfl, rfl, rfl⟩
  case round =>
    obtain ⟨j, hj, rfl, rfl, had⟩ := hrel
    by_cases hlt : j < s.size
    · have dlt : decide ((j : Int) < (s.size : Int)) = true := decide_eq_true (by omega)
      by_cases hdig : 48 ≤ ((s[j].toNat : Nat) : Int) ∧ ((s[j].toNat : Nat) : Int) ≤ 57
      · obtain ⟨q1, q2⟩ := hdig
        go_wp2
        go_round
        case rel => exact ⟨j + 1, by omega, by go_num, by go_num, pre_step s 0 j j (by omega) hlt had.out (isD_mid' _ q1 q2)⟩
        case measure => simp [intOf]; omega
      · have HD : Hid (isD s[j] = false) := by
          by_cases q1 : 48 ≤ ((s[j].toNat : Nat) : Int)
          · exact notD_hi' _ (fun q2 => hdig ⟨q1, q2⟩)
          · exact notD_lo' _ q1
        have HC : Hid (cut s 0 = pre s 0 j ++ s[j] :: cut s (j + 1)) := cut_at s 0 j j (by omega) hlt
        by_cases hj0 : j = 0
        · subst hj0
          have HE : Hid (okT (cut s 0) = false) := by
            unfold Hid
            rw [HC.out, show pre s 0 0 = [] from rfl, List.nil_append]
            by_cases e : s[0] = 46
            · rw [e]; exact ok_point0 _
            · exact ok_other [] _ _ rfl HD.out e
          by_cases q1 : 48 ≤ ((s[0].toNat : Nat) : Int)
          · have q2 : ¬ ((s[0].toNat : Nat) : Int) ≤ 57 := fun q2 => hdig ⟨q1, q2⟩
            have q2' : decide (((s[0].toNat : Nat) : Int) ≤ 57) = false := decide_eq_false q2
            clear hdig
            go_wp2
            go_ret
            exact ⟨okr HE.out, rfl⟩
          · have q1' : decide (48 ≤ ((s[0].toNat : Nat) : Int)) = false := decide_eq_false q1
            clear hdig
            go_wp2
            go_ret
            exact ⟨okr HE.out, rfl⟩
        · have hjz : ((j : Int) == 0) = false := beq_eq_false_iff_ne.2 (by omega)
          have hPN : Hid (pre s 0 j ≠ []) := pre_ne s 0 j hj (by omega)
          have hPL : Hid ((pre s 0 j).length = j) := pre_len s 0 j hj
          cases h46 : (((s[j].toNat : Nat) : Int) == 46) with
          | false =>
            have HE : Hid (okT (cut s 0) = false) := by
              unfold Hid; rw [HC.out]; exact ok_other _ _ _ had.out HD.out (not46 _ h46)
            have hne : ((j : Int) == (s.size : Int)) = false := beq_eq_false_iff_ne.2 (by omega)
            by_cases q1 : 48 ≤ ((s[j].toNat : Nat) : Int)
            · have q2 : ¬ ((s[j].toNat : Nat) : Int) ≤ 57 := fun q2 => hdig ⟨q1, q2⟩
              have q2' : decide (((s[j].toNat : Nat) : Int) ≤ 57) = false := decide_eq_false q2
              clear hdig
              go_wp2
              go_ret
              exact ⟨okr HE.out, rfl⟩
            · have q1' : decide (48 ≤ ((s[j].toNat : Nat) : Int)) = false := decide_eq_false q1
              clear hdig
              go_wp2
              go_ret
              exact ⟨okr HE.out, rfl⟩
          | true =>
            have HE : Hid (okT (cut s 0) = (digsL (cut s (j + 1)) && decide (j + (cut s (j + 1)).length ≤ 40))) := by
              unfold Hid; rw [HC.out, byte46 _ h46, ok_point _ _ had.out hPN.out, hPL.out]
            have q1 : ¬ 48 ≤ ((s[j].toNat : Nat) : Int) := by have := beq_iff_eq.1 h46; omega
            have q1' : decide (48 ≤ ((s[j].toNat : Nat) : Int)) = false := decide_eq_false q1
            clear hdig HC HD
            go_wp2
            go_loop [3, 5] (fun i a => ∃ m : Nat, j + 1 + m ≤ s.size ∧ i = .int .i64 ((j : Int) + 1 + (m : Int)) ∧ a = .int .i64 m ∧ Hid ((pre s (j + 1) m).all isD = true)) (fun _ a => s.size - (intOf a).toNat)
            case atStart => exact ⟨0, by omega, by go_num, rfl, rfl⟩
            case round =>
              obtain ⟨m, hm, rfl, rfl, hae⟩ := hrel
              have hPL2 : Hid ((pre s (j + 1) m).length = m) := pre_len s (j + 1) m hm
              by_cases hl2 : j + 1 + m < s.size
              · have dl2 : decide ((j : Int) + 1 + (m : Int) < (s.size : Int)) = true := decide_eq_true (by omega)
                obtain ⟨y, hy⟩ : ∃ y, j + 1 + m = y := ⟨_, rfl⟩
                have hyi : (j : Int) + 1 + (m : Int) = (y : Int) := by omega
                have hy' : y < s.size := by omega
                rw [hyi] at dl2 ⊢
                have HYI : Hid ((j : Int) + 1 + (m : Int) = (y : Int)) := hyi
                have HY : Hid (j + 1 + m = y) := hy
                clear hyi hy hl2
                by_cases hdig2 : 48 ≤ ((s[y].toNat : Nat) : Int) ∧ ((s[y].toNat : Nat) : Int) ≤ 57
                · obtain ⟨r1, r2⟩ := hdig2
                  go_wp2
                  go_round
                  case rel => exact ⟨m + 1, by have := HY.out; omega, by have := HYI.out; rw [← this]; go_num, by go_num, pre_step s (j + 1) m y HY.out hy' hae.out (isD_mid' _ r1 r2)⟩
                  case measure => have := HY.out; simp [intOf]; omega
                · have HD2 : Hid (isD s[y] = false) := by
                    by_cases r1 : 48 ≤ ((s[y].toNat : Nat) : Int)
                    · exact notD_hi' _ (fun r2 => hdig2 ⟨r1, r2⟩)
                    · exact notD_lo' _ r1
                  have HE2 : Hid (okT (cut s 0) = false) := by
                    unfold Hid
                    rw [HE.out, cut_at s (j + 1) m y HY.out hy', digs_other _ _ _ HD2.out]
                    rfl
                  have hne : ((y : Int) == (s.size : Int)) = false := beq_eq_false_iff_ne.2 (by omega)
                  by_cases hm0 : m = 0
                  · subst hm0
                    by_cases r1 : 48 ≤ ((s[y].toNat : Nat) : Int)
                    · have r2 : ¬ ((s[y].toNat : Nat) : Int) ≤ 57 := fun r2 => hdig2 ⟨r1, r2⟩
                      have r2' : decide (((s[y].toNat : Nat) : Int) ≤ 57) = false := decide_eq_false r2
                      clear hdig2
                      go_wp2
                      go_ret
                      exact ⟨okr HE2.out, rfl⟩
                    · have r1' : decide (48 ≤ ((s[y].toNat : Nat) : Int)) = false := decide_eq_false r1
                      clear hdig2
                      go_wp2
                      go_ret
                      exact ⟨okr HE2.out, rfl⟩
                  · have hmz : ((m : Int) == 0) = false := beq_eq_false_iff_ne.2 (by omega)
                    by_cases r1 : 48 ≤ ((s[y].toNat : Nat) : Int)
                    · have r2 : ¬ ((s[y].toNat : Nat) : Int) ≤ 57 := fun r2 => hdig2 ⟨r1, r2⟩
                      have r2' : decide (((s[y].toNat : Nat) : Int) ≤ 57) = false := decide_eq_false r2
                      clear hdig2
                      go_wp2
                      go_ret
                      exact ⟨okr HE2.out, rfl⟩
                    · have r1' : decide (48 ≤ ((s[y].toNat : Nat) : Int)) = false := decide_eq_false r1
                      clear hdig2
                      go_wp2
                      go_ret
                      exact ⟨okr HE2.out, rfl⟩
              · have hend : j + 1 + m = s.size := by omega
                have hCE : cut s (j + 1) = pre s (j + 1) m := cut_end s (j + 1) m (by omega)
                have dl2 : decide ((j : Int) + 1 + (m : Int) < (s.size : Int)) = false := decide_eq_false (by omega)
                by_cases hm0 : m = 0
                · subst hm0
                  have HE2 : Hid (okT (cut s 0) = false) := by
                    unfold Hid; rw [HE.out, hCE]; rfl
                  clear hCE hend
                  go_wp2
                  go_ret
                  exact ⟨okr HE2.out, rfl⟩
                · have hmz : ((m : Int) == 0) = false := beq_eq_false_iff_ne.2 (by omega)
                  have HE2 : Hid (okT (cut s 0) = decide (j + m ≤ 40)) := by
                    unfold Hid
                    rw [HE.out, hCE, digs_all _ hae.out (pre_ne s (j + 1) m hm (by omega)), hPL2.out]
                    rfl
                  have heq : ((j : Int) + 1 + (m : Int) == (s.size : Int)) = true := beq_iff_eq.2 (by omega)
                  clear hCE hend
                  go_wp2
                  go_ret
                  exact ⟨okr (HE2.out.trans (by simp; omega)), rfl⟩
    · have hend : j = s.size := by omega
      have dlt : decide ((j : Int) < (s.size : Int)) = false := decide_eq_false (by omega)
      have hCE : cut s 0 = pre s 0 j := cut_end s 0 j (by omega)
      by_cases hj0 : j = 0
      · subst hj0
        have HE : Hid (okT (cut s 0) = false) := by unfold Hid; rw [hCE]; rfl
        clear hCE hend
        go_wp2
      · have hjz : ((j : Int) == 0) = false := beq_eq_false_iff_ne.2 (by omega)
        have HE : Hid (okT (cut s 0) = decide (j ≤ 40)) := by
          unfold Hid
          rw [hCE, ok_all _ had.out (pre_ne s 0 j hj (by omega)), pre_len s 0 j hj]
        have heq : ((j : Int) == (s.size : Int)) = true := beq_iff_eq.2 (by omega)
        clear hCE hend
        go_wp2
        go_ret
        exact ⟨okr (HE.out.trans (by simp; omega)), rfl⟩

set_option maxHeartbeats 4000000 in
theorem plain_1 (s : ByteArray) (w : World) (hs : s.size ≤ 65536) (h0 : 0 < s.size) (hneg : (((s[0].toNat : Nat) : Int) == 45) = true) :
    Calls Tryf.prog 7 #[.string s] w fun e w' => e = .returned (.bool (okT (cut s 1))) ∧ w' = w := by
  go_enter Tryf.func7, Tryf.ntmps7
  go_wp2
  go_loop [3, 4] (fun i b => ∃ j : Nat, 1 + j ≤ s.size ∧ i = .int .i64 ((j : Int) + 1) ∧ b = .int .i64 j ∧ Hid ((pre s 1 j).all isD = true)) (fun _ b => s.size - (intOf b).toNat)
  case atStart => exact ⟨0, by omega, rfl, rfl, rfl⟩
  case round =>
    obtain ⟨j, hj, rfl, rfl, had⟩ := hrel
    by_cases hlt : (j + 1) < s.size
    · have dlt : decide (((j : Int) + 1) < (s.size : Int)) = true := decide_eq_true (by omega)
      by_cases hdig : 48 ≤ ((s[(j + 1)].toNat : Nat) : Int) ∧ ((s[(j + 1)].toNat : Nat) : Int) ≤ 57
      · obtain ⟨q1, q2⟩ := hdig
        go_wp2
        go_round
        case rel => exact ⟨j + 1, by omega, by go_num, by go_num, pre_step s 1 j (j + 1) (by omega) hlt had.out (isD_mid' _ q1 q2)⟩
        case measure => simp [intOf]; omega
      · have HD : Hid (isD s[(j + 1)] = false) := by
          by_cases q1 : 48 ≤ ((s[(j + 1)].toNat : Nat) : Int)
          · exact notD_hi' _ (fun q2 => hdig ⟨q1, q2⟩)
          · exact notD_lo' _ q1
        have HC : Hid (cut s 1 = pre s 1 j ++ s[(j + 1)] :: cut s ((j + 1) + 1)) := cut_at s 1 j (j + 1) (by omega) hlt
        by_cases hj0 : j = 0
        · subst hj0
          have HE : Hid (okT (cut s 1) = false) := by
            unfold Hid
            rw [HC.out, show pre s 1 0 = [] from rfl, List.nil_append]
            by_cases e : s[(0 + 1)] = 46
            · rw [e]; exact ok_point0 _
            · exact ok_other [] _ _ rfl HD.out e
          by_cases q1 : 48 ≤ ((s[(0 + 1)].toNat : Nat) : Int)
          · have q2 : ¬ ((s[(0 + 1)].toNat : Nat) : Int) ≤ 57 := fun q2 => hdig ⟨q1, q2⟩
            have q2' : decide (((s[(0 + 1)].toNat : Nat) : Int) ≤ 57) = false := decide_eq_false q2
            clear hdig
            go_wp2
            go_ret
            exact ⟨okr HE.out, rfl⟩
          · have q1' : decide (48 ≤ ((s[(0 + 1)].toNat : Nat) : Int)) = false := decide_eq_false q1
            clear hdig
            go_wp2
            go_ret
            exact ⟨okr HE.out, rfl⟩
        · have hjz : ((j : Int) == 0) = false := beq_eq_false_iff_ne.2 (by omega)
          have hPN : Hid (pre s 1 j ≠ []) := pre_ne s 1 j hj (by omega)
          have hPL : Hid ((pre s 1 j).length = j) := pre_len s 1 j hj
          cases h46 : (((s[(j + 1)].toNat : Nat) : Int) == 46) with
          | false =>
            have HE : Hid (okT (cut s 1) = false) := by
              unfold Hid; rw [HC.out]; exact ok_other _ _ _ had.out HD.out (not46 _ h46)
            have hne : (((j : Int) + 1) == (s.size : Int)) = false := beq_eq_false_iff_ne.2 (by omega)
            by_cases q1 : 48 ≤ ((s[(j + 1)].toNat : Nat) : Int)
            · have q2 : ¬ ((s[(j + 1)].toNat : Nat) : Int) ≤ 57 := fun q2 => hdig ⟨q1, q2⟩
              have q2' : decide (((s[(j + 1)].toNat : Nat) : Int) ≤ 57) = false := decide_eq_false q2
              clear hdig
              go_wp2
              go_ret
              exact ⟨okr HE.out, rfl⟩
            · have q1' : decide (48 ≤ ((s[(j + 1)].toNat : Nat) : Int)) = false := decide_eq_false q1
              clear hdig
              go_wp2
              go_ret
              exact ⟨okr HE.out, rfl⟩
          | true =>
            have HE : Hid (okT (cut s 1) = (digsL (cut s ((j + 1) + 1)) && decide (j + (cut s ((j + 1) + 1)).length ≤ 40))) := by
              unfold Hid; rw [HC.out, byte46 _ h46, ok_point _ _ had.out hPN.out, hPL.out]
            have q1 : ¬ 48 ≤ ((s[(j + 1)].toNat : Nat) : Int) := by have := beq_iff_eq.1 h46; omega
            have q1' : decide (48 ≤ ((s[(j + 1)].toNat : Nat) : Int)) = false := decide_eq_false q1
            clear hdig HC HD
            go_wp2
            go_loop [3, 5] (fun i a => ∃ m : Nat, (j + 1) + 1 + m ≤ s.size ∧ i = .int .i64 (((j : Int) + 1) + 1 + (m : Int)) ∧ a = .int .i64 m ∧ Hid ((pre s ((j + 1) + 1) m).all isD = true)) (fun _ a => s.size - (intOf a).toNat)
            case atStart => exact ⟨0, by omega, by go_num, rfl, rfl⟩
            case round =>
              obtain ⟨m, hm, rfl, rfl, hae⟩ := hrel
              have hPL2 : Hid ((pre s ((j + 1) + 1) m).length = m) := pre_len s ((j + 1) + 1) m hm
              by_cases hl2 : (j + 1) + 1 + m < s.size
              · have dl2 : decide (((j : Int) + 1) + 1 + (m : Int) < (s.size : Int)) = true := decide_eq_true (by omega)
                obtain ⟨y, hy⟩ : ∃ y, (j + 1) + 1 + m = y := ⟨_, rfl⟩
                have hyi : ((j : Int) + 1) + 1 + (m : Int) = (y : Int) := by omega
                have hy' : y < s.size := by omega
                rw [hyi] at dl2 ⊢
                have HYI : Hid (((j : Int) + 1) + 1 + (m : Int) = (y : Int)) := hyi
                have HY : Hid ((j + 1) + 1 + m = y) := hy
                clear hyi hy hl2
                by_cases hdig2 : 48 ≤ ((s[y].toNat : Nat) : Int) ∧ ((s[y].toNat : Nat) : Int) ≤ 57
                · obtain ⟨r1, r2⟩ := hdig2
                  go_wp2
                  go_round
                  case rel => exact ⟨m + 1, by have := HY.out; omega, by have := HYI.out; rw [← this]; go_num, by go_num, pre_step s ((j + 1) + 1) m y HY.out hy' hae.out (isD_mid' _ r1 r2)⟩
                  case measure => have := HY.out; simp [intOf]; omega
                · have HD2 : Hid (isD s[y] = false) := by
                    by_cases r1 : 48 ≤ ((s[y].toNat : Nat) : Int)
                    · exact notD_hi' _ (fun r2 => hdig2 ⟨r1, r2⟩)
                    · exact notD_lo' _ r1
                  have HE2 : Hid (okT (cut s 1) = false) := by
                    unfold Hid
                    rw [HE.out, cut_at s ((j + 1) + 1) m y HY.out hy', digs_other _ _ _ HD2.out]
                    rfl
                  have hne : ((y : Int) == (s.size : Int)) = false := beq_eq_false_iff_ne.2 (by omega)
                  by_cases hm0 : m = 0
                  · subst hm0
                    by_cases r1 : 48 ≤ ((s[y].toNat : Nat) : Int)
                    · have r2 : ¬ ((s[y].toNat : Nat) : Int) ≤ 57 := fun r2 => hdig2 ⟨r1, r2⟩
                      have r2' : decide (((s[y].toNat : Nat) : Int) ≤ 57) = false := decide_eq_false r2
                      clear hdig2
                      go_wp2
                      go_ret
                      exact ⟨okr HE2.out, rfl⟩
                    · have r1' : decide (48 ≤ ((s[y].toNat : Nat) : Int)) = false := decide_eq_false r1
                      clear hdig2
                      go_wp2
                      go_ret
                      exact ⟨okr HE2.out, rfl⟩
                  · have hmz : ((m : Int) == 0) = false := beq_eq_false_iff_ne.2 (by omega)
                    by_cases r1 : 48 ≤ ((s[y].toNat : Nat) : Int)
                    · have r2 : ¬ ((s[y].toNat : Nat) : Int) ≤ 57 := fun r2 => hdig2 ⟨r1, r2⟩
                      have r2' : decide (((s[y].toNat : Nat) : Int) ≤ 57) = false := decide_eq_false r2
                      clear hdig2
                      go_wp2
                      go_ret
                      exact ⟨okr HE2.out, rfl⟩
                    · have r1' : decide (48 ≤ ((s[y].toNat : Nat) : Int)) = false := decide_eq_false r1
                      clear hdig2
                      go_wp2
                      go_ret
                      exact ⟨okr HE2.out, rfl⟩
              · have hend : (j + 1) + 1 + m = s.size := by omega
                have hCE : cut s ((j + 1) + 1) = pre s ((j + 1) + 1) m := cut_end s ((j + 1) + 1) m (by omega)
                have dl2 : decide (((j : Int) + 1) + 1 + (m : Int) < (s.size : Int)) = false := decide_eq_false (by omega)
                by_cases hm0 : m = 0
                · subst hm0
                  have HE2 : Hid (okT (cut s 1) = false) := by
                    unfold Hid; rw [HE.out, hCE]; rfl
                  clear hCE hend
                  go_wp2
                  go_ret
                  exact ⟨okr HE2.out, rfl⟩
                · have hmz : ((m : Int) == 0) = false := beq_eq_false_iff_ne.2 (by omega)
                  have HE2 : Hid (okT (cut s 1) = decide (j + m ≤ 40)) := by
                    unfold Hid
                    rw [HE.out, hCE, digs_all _ hae.out (pre_ne s ((j + 1) + 1) m hm (by omega)), hPL2.out]
                    rfl
                  have heq : (((j : Int) + 1) + 1 + (m : Int) == (s.size : Int)) = true := beq_iff_eq.2 (by omega)
                  clear hCE hend
                  go_wp2
                  go_ret
                  exact ⟨okr (HE2.out.trans (by simp; omega)), rfl⟩
    · have hend : (j + 1) = s.size := by omega
      have dlt : decide (((j : Int) + 1) < (s.size : Int)) = false := decide_eq_false (by omega)
      have hCE : cut s 1 = pre s 1 j := cut_end s 1 j (by omega)
      by_cases hj0 : j = 0
      · subst hj0
        have HE : Hid (okT (cut s 1) = false) := by unfold Hid; rw [hCE]; rfl
        clear hCE hend
        go_wp2
        go_ret
        exact ⟨okr HE.out, rfl⟩
      · have hjz : ((j : Int) == 0) = false := beq_eq_false_iff_ne.2 (by omega)
        have HE : Hid (okT (cut s 1) = decide (j ≤ 40)) := by
          unfold Hid
          rw [hCE, ok_all _ had.out (pre_ne s 1 j hj (by omega)), pre_len s 1 j hj]
        have heq : (((j : Int) + 1) == (s.size : Int)) = true := beq_iff_eq.2 (by omega)
        clear hCE hend
        go_wp2
        go_ret
        exact ⟨okr (HE.out.trans (by simp; omega)), rfl⟩

set_option maxHeartbeats 1000000 in
theorem plain_empty (s : ByteArray) (w : World) (h0 : s.size = 0) :
    Calls Tryf.prog 7 #[.string s] w fun e w' => e = .returned (.bool false) ∧ w' = w := by
  go_enter Tryf.func7, Tryf.ntmps7
  go_wp2
  refine wp_loop_rounds 1 ?_
  rw [rounds_succ]
  go_wp2
  go_ret
  exact ⟨rfl, rfl⟩
end Go.Proofs.Qxb6002384aFmt
