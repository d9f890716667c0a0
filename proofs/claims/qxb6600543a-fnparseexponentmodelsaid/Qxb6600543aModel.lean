/-
  zzExponentModel, walked: it returns what 'expoU' says of the digits behind the sign.
-/
import Derived.Test.Qxb6600543aParse
namespace Go.Proofs.Qxb6600543a
open Go.RowKit

theorem con_step (m : ByteArray) (c : UInt8) (k : Nat) (h : k < m.size) : (m.data.toList.take (k + 1)).contains c = ((m.data.toList.take k).contains c || (c == m[k])) := by
  rw [take_snoc m k h, List.contains_eq_any_beq, List.contains_eq_any_beq, List.any_append]
  simp
theorem con_yes (m : ByteArray) (c : UInt8) (k : Nat) (h : k < m.size) (he : (((m[k].toNat : Nat) : Int) == ((c.toNat : Nat) : Int)) = true) : (m.data.toList.take (k + 1)).contains c = true := by
  have e : m[k] = c := UInt8.toNat_inj.1 (by have := beq_iff_eq.1 he; omega)
  rw [con_step m c k h, e]
  simp
theorem con_no (m : ByteArray) (c : UInt8) (k : Nat) (h : k < m.size) (he : (((m[k].toNat : Nat) : Int) == ((c.toNat : Nat) : Int)) = false) : (m.data.toList.take (k + 1)).contains c = (m.data.toList.take k).contains c := by
  have e : (c == m[k]) = false := by
    rw [beq_eq_false_iff_ne]
    intro e
    rw [← e] at he
    simp at he
  rw [con_step m c k h, e, Bool.or_false]

set_option maxHeartbeats 1000000 in
theorem model_empty (s mark : ByteArray) (w : World) (hse : ((s.size : Int) == 0) = true) :
    Calls Try.prog 10 #[.string s, .string mark] w fun e w' => e = .returned (.tuple #[.int .i64 0, .bool true]) ∧ ∃ n, w' = w.drewN n := by
  go_enter Try.func10, Try.ntmps10
  go_wp2
  go_ret2
  exact ⟨rfl, 0, rfl⟩

theorem is48 (c : UInt8) (h : (((c.toNat : Nat) : Int) != 48) = false) : c = 48 := by
  have h1 : ((c.toNat : Nat) : Int) = 48 := by simpa using h
  exact UInt8.toNat_inj.1 (by show c.toNat = 48; omega)
theorem isnt48 (c : UInt8) (h : (((c.toNat : Nat) : Int) != 48) = true) : c ≠ 48 := by
  rintro rfl
  revert h
  decide
def cutAt (l : List UInt8) (a : Nat) : List UInt8 := l.drop a

set_option maxHeartbeats 1000000 in
theorem model_unmarked (s mark : ByteArray) (w : World) (hm : mark.size ≤ maxLen) (h0 : 0 < s.size) (hse : ((s.size : Int) == 0) = false) (HM : Hid (mark.data.toList.contains s[0] = false)) :
    Calls Try.prog 10 #[.string s, .string mark] w fun e w' => e = .returned (.tuple #[.int .i64 0, .bool false]) ∧ ∃ n, w' = w.drewN n := by
  unfold maxLen at hm
  go_enter Try.func10, Try.ntmps10
  go_wp2
  go_loopw [6, 7] (fun f i wx => ∃ (k n : Nat), k ≤ mark.size ∧ i = .int .i64 k ∧ f = .bool ((mark.data.toList.take k).contains s[0]) ∧ wx = w.drewN n) (fun _ i _ => mark.size - (intOf i).toNat)
  case atStart => exact ⟨0, 0, Nat.zero_le _, rfl, rfl, rfl⟩
  case round =>
    obtain ⟨k, n, hk, rfl, rfl, rfl⟩ := hrel
    by_cases hlt : k < mark.size
    · cases hc : (((mark[k].toNat : Nat) : Int) == ((s[0].toNat : Nat) : Int)) with
      | true =>
        have HY : Hid ((mark.data.toList.take (k + 1)).contains s[0] = true) := con_yes mark s[0] k hlt hc
        go_wp2
        go_region
        go_wp2
        go_roundw
        case rel => exact ⟨k + 1, n + 1, by omega, by go_num, by rw [HY.out], rfl⟩
        case measure => simp [intOf]; omega
      | false =>
        have HY : Hid ((mark.data.toList.take (k + 1)).contains s[0] = (mark.data.toList.take k).contains s[0]) := con_no mark s[0] k hlt hc
        go_wp2
        go_region
        go_wp2
        go_roundw
        case rel => exact ⟨k + 1, n + 1, by omega, by go_num, by rw [HY.out], rfl⟩
        case measure => simp [intOf]; omega
    · have HC : Hid ((mark.data.toList.take k).contains s[0] = mark.data.toList.contains s[0]) := by
        unfold Hid; rw [take_end mark k hlt]
      rw [HC.out, HM.out]
      go_wp2
      go_ret2
      exact ⟨rfl, n, rfl⟩

set_option maxHeartbeats 1000000 in
theorem model_short (s mark : ByteArray) (w : World) (hm : mark.size ≤ maxLen) (h0 : 0 < s.size) (hse : ((s.size : Int) == 0) = false) (HM : Hid (mark.data.toList.contains s[0] = true)) (h1 : s.size ≤ 1) :
    Calls Try.prog 10 #[.string s, .string mark] w fun e w' => e = .returned (.tuple #[.int .i64 0, .bool false]) ∧ ∃ n, w' = w.drewN n := by
  have h1' : decide ((1 : Int) < (s.size : Int)) = false := decide_eq_false (by omega)
  unfold maxLen at hm
  go_enter Try.func10, Try.ntmps10
  go_wp2
  go_loopw [6, 7] (fun f i wx => ∃ (k n : Nat), k ≤ mark.size ∧ i = .int .i64 k ∧ f = .bool ((mark.data.toList.take k).contains s[0]) ∧ wx = w.drewN n) (fun _ i _ => mark.size - (intOf i).toNat)
  case atStart => exact ⟨0, 0, Nat.zero_le _, rfl, rfl, rfl⟩
  case round =>
    obtain ⟨k, n, hk, rfl, rfl, rfl⟩ := hrel
    by_cases hlt : k < mark.size
    · cases hc : (((mark[k].toNat : Nat) : Int) == ((s[0].toNat : Nat) : Int)) with
      | true =>
        have HY : Hid ((mark.data.toList.take (k + 1)).contains s[0] = true) := con_yes mark s[0] k hlt hc
        go_wp2
        go_region
        go_wp2
        go_roundw
        case rel => exact ⟨k + 1, n + 1, by omega, by go_num, by rw [HY.out], rfl⟩
        case measure => simp [intOf]; omega
      | false =>
        have HY : Hid ((mark.data.toList.take (k + 1)).contains s[0] = (mark.data.toList.take k).contains s[0]) := con_no mark s[0] k hlt hc
        go_wp2
        go_region
        go_wp2
        go_roundw
        case rel => exact ⟨k + 1, n + 1, by omega, by go_num, by rw [HY.out], rfl⟩
        case measure => simp [intOf]; omega
    · have HC : Hid ((mark.data.toList.take k).contains s[0] = mark.data.toList.contains s[0]) := by
        unfold Hid; rw [take_end mark k hlt]
      rw [HC.out, HM.out]
      go_wp2
      go_ret2
      exact ⟨rfl, n, rfl⟩

theorem drop_bad (s : ByteArray) (a k : Nat) (ha : a ≤ k) (h : k < s.size) (hb : isD s[k] = false) : (s.data.toList.drop a).all isD = false := by
  rw [List.all_eq_false]
  refine ⟨s[k], ?_, by rw [hb]; simp⟩
  rw [List.mem_iff_getElem]
  refine ⟨k - a, by rw [List.length_drop, ← Lib.size_eq]; omega, ?_⟩
  rw [List.getElem_drop]
  simp only [show a + (k - a) = k from by omega]
  rfl
theorem drop_dig (s : ByteArray) (a k : Nat) (ha : a ≤ k) (h : k < s.size) (hb : (s.data.toList.drop a).all isD = true) : 48 ≤ ((s[k].toNat : Nat) : Int) ∧ ((s[k].toNat : Nat) : Int) ≤ 57 := by
  cases hd : isD s[k] with
  | false => rw [drop_bad s a k ha h hd] at hb; exact absurd hb (by simp)
  | true => have := (isD_iff _).1 hd; omega

set_option maxHeartbeats 2000000 in
theorem model_none (s mark : ByteArray) (w : World) (hm : mark.size ≤ maxLen) (h0 : 0 < s.size) (hse : ((s.size : Int) == 0) = false) (HM : Hid (mark.data.toList.contains s[0] = true)) (h1 : 1 < s.size) (hb : s.size ≤ 1048576) (g1 : (((s[1].toNat : Nat) : Int) == 43) = false) (g2 : (((s[1].toNat : Nat) : Int) == 45) = false) :
    Calls Try.prog 10 #[.string s, .string mark] w fun e w' => e = .returned (.tuple #[.int .i64 (expoU false (cutAt s.data.toList 1)).1, .bool (expoU false (cutAt s.data.toList 1)).2]) ∧ ∃ n, w' = w.drewN n := by
  unfold maxLen at hm
  go_enter Try.func10, Try.ntmps10
  go_wp2
  go_loopw [6, 7] (fun f i wx => ∃ (k n : Nat), k ≤ mark.size ∧ i = .int .i64 k ∧ f = .bool ((mark.data.toList.take k).contains s[0]) ∧ wx = w.drewN n) (fun _ i _ => mark.size - (intOf i).toNat)
  case atStart => exact ⟨0, 0, Nat.zero_le _, rfl, rfl, rfl⟩
  case round =>
    obtain ⟨k, n, hk, rfl, rfl, rfl⟩ := hrel
    by_cases hlt : k < mark.size
    · cases hc : (((mark[k].toNat : Nat) : Int) == ((s[0].toNat : Nat) : Int)) with
      | true =>
        have HY : Hid ((mark.data.toList.take (k + 1)).contains s[0] = true) := con_yes mark s[0] k hlt hc
        go_wp2
        go_region
        go_wp2
        go_roundw
        case rel => exact ⟨k + 1, n + 1, by omega, by go_num, by rw [HY.out], rfl⟩
        case measure => simp [intOf]; omega
      | false =>
        have HY : Hid ((mark.data.toList.take (k + 1)).contains s[0] = (mark.data.toList.take k).contains s[0]) := con_no mark s[0] k hlt hc
        go_wp2
        go_region
        go_wp2
        go_roundw
        case rel => exact ⟨k + 1, n + 1, by omega, by go_num, by rw [HY.out], rfl⟩
        case measure => simp [intOf]; omega
    · have HC : Hid ((mark.data.toList.take k).contains s[0] = mark.data.toList.contains s[0]) := by
        unfold Hid; rw [take_end mark k hlt]
      rw [HC.out, HM.out]
      go_wp2
      go_loop [10, 11] (fun f i => ∃ (k : Nat) (z : Int), 1 ≤ k ∧ k ≤ s.size ∧ i = .int .i64 k ∧ f = .int .i64 z ∧ -1 ≤ z ∧ z < k ∧ Hid (Sc s.data.toList 1 k z)) (fun _ i => s.size - (intOf i).toNat)
      case atStart => exact ⟨1, -1, Nat.le_refl _, by omega, rfl, rfl, by omega, by omega, Sc.start _ _⟩
      case round =>
        obtain ⟨k, z, hak, hk, rfl, rfl, hz1, hz2, hsc⟩ := hrel
        by_cases hlt : k < s.size
        · have hll : k < s.data.toList.length := by rw [← Lib.size_eq]; exact hlt
          by_cases q1 : ((s[k].toNat : Nat) : Int) < 48
          · have HE : Hid (expoU false (cutAt s.data.toList 1) = (0, false)) := expoU_bad _ (drop_bad s 1 k hak hlt (notD_lo _ q1))
            go_wp2
            go_ret2
            exact ⟨ret_expo (by rw [HE.out]) (by rw [HE.out]), n, rfl⟩
          · have q3 : decide (((s[k].toNat : Nat) : Int) < 48) = false := decide_eq_false q1
            by_cases q2 : 57 < ((s[k].toNat : Nat) : Int)
            · have HE : Hid (expoU false (cutAt s.data.toList 1) = (0, false)) := expoU_bad _ (drop_bad s 1 k hak hlt (notD_hi _ q2))
              go_wp2
              go_ret2
              exact ⟨ret_expo (by rw [HE.out]) (by rw [HE.out]), n, rfl⟩
            · have HD : Hid (isD s[k] = true) := isD_mid _ q1 q2
              have q4 : decide (57 < ((s[k].toNat : Nat) : Int)) = false := decide_eq_false q2
              by_cases hz : z < 0
              · cases hq : (((s[k].toNat : Nat) : Int) != 48) with
                | true =>
                  have HS : Hid (Sc s.data.toList 1 (k + 1) k) := hsc.out.first hz hak hll HD.out (isnt48 _ hq)
                  go_wp2
                  go_round
                  case rel => exact ⟨k + 1, k, by omega, by omega, by go_num, rfl, by omega, by omega, HS⟩
                  case measure => simp [intOf]; omega
                | false =>
                  have HS : Hid (Sc s.data.toList 1 (k + 1) z) := hsc.out.zero hz hak hll (is48 _ hq)
                  go_wp2
                  go_round
                  case rel => exact ⟨k + 1, z, by omega, by omega, by go_num, rfl, by omega, by omega, HS⟩
                  case measure => simp [intOf]; omega
              · have hz' : decide (z < 0) = false := decide_eq_false hz
                have HS : Hid (Sc s.data.toList 1 (k + 1) z) := hsc.out.keep hz hak hll HD.out
                go_wp2
                go_round
                case rel => exact ⟨k + 1, z, by omega, by omega, by go_num, rfl, by omega, by omega, HS⟩
                case measure => simp [intOf]; omega
        · have hke : k = s.data.toList.length := by rw [← Lib.size_eq]; omega
          have hsc2 : Hid (Sc s.data.toList 1 s.data.toList.length z) := by unfold Hid; rw [← hke]; exact hsc.out
          clear hke hsc
          by_cases hz : z < 0
          · have HE : Hid (expoU false (cutAt s.data.toList 1) = (0, true)) := hsc2.out.none hz _
            go_wp2
            go_ret2
            exact ⟨ret_expo (by rw [HE.out]) (by rw [HE.out]), n, rfl⟩
          · obtain ⟨j, rfl⟩ : ∃ j : Nat, z = j := ⟨z.toNat, by omega⟩
            have hz' : decide ((j : Int) < 0) = false := decide_eq_false hz
            have hjs : j < s.size := by rw [Lib.size_eq]; exact hsc2.out.split.2.1
            by_cases hten : (s.size : Int) - j ≤ 10
            · have HE : Hid (expoU false (cutAt s.data.toList 1) = (signed false (min (val (s.data.toList.drop j)) 1000000000), true)) := hsc2.out.small _
              have HA : Hid ((s.data.toList.drop j).all isD = true) := hsc2.out.split.2.2.2.1
              clear hsc2
              go_wp2
              go_loop [13, 14] (fun v i => ∃ k : Nat, j ≤ k ∧ k ≤ s.size ∧ i = .int .i64 k ∧ v = .int .u64 (val (seg s.data.toList j k))) (fun _ i => s.size - (intOf i).toNat)
              case atStart => exact ⟨j, Nat.le_refl _, by omega, rfl, by rw [seg_nil]; rfl⟩
              case round =>
                obtain ⟨k, hjk, hks, rfl, rfl⟩ := hrel
                by_cases hlk : k < s.size
                · have hv := val_seg HA.out k (by omega)
                  have hll : k < s.data.toList.length := by rw [← Lib.size_eq]; exact hlk
                  have hd : 48 ≤ ((s[k].toNat : Nat) : Int) ∧ ((s[k].toNat : Nat) : Int) ≤ 57 := drop_dig s j k hjk hlk HA.out
                  obtain ⟨hd1, hd2⟩ := hd
                  have HV : Hid (val (seg s.data.toList j (k + 1)) = val (seg s.data.toList j k) * 10 + (((s[k].toNat : Nat) : Int) - 48)) := val_seg_snoc _ j k hjk hll
                  go_wp2
                  go_round
                  case rel => exact ⟨k + 1, by omega, by omega, by go_num, by rw [HV.out]⟩
                  case measure => simp [intOf]; omega
                · have HK : Hid (seg s.data.toList j k = s.data.toList.drop j) := by
                    have : k = s.data.toList.length := by rw [← Lib.size_eq]; omega
                    unfold Hid; rw [this, seg_end]
                  rw [HK.out]
                  have hv0 := (val_bd _ HA.out).1
                  by_cases hlv : val (s.data.toList.drop j) < 1000000000
                  · have HM2 : Hid (min (val (s.data.toList.drop j)) 1000000000 = val (s.data.toList.drop j)) := by unfold Hid; omega
                    go_wp2
                    go_ret2
                    exact ⟨ret_expo (by rw [HE.out, HM2.out]; rfl) (by rw [HE.out]), n, rfl⟩
                  · have HM2 : Hid (min (val (s.data.toList.drop j)) 1000000000 = 1000000000) := by unfold Hid; omega
                    go_wp2
                    go_ret2
                    exact ⟨ret_expo (by rw [HE.out, HM2.out]; rfl) (by rw [HE.out]), n, rfl⟩
            · have HE : Hid (expoU false (cutAt s.data.toList 1) = (signed false 1000000000, true)) := hsc2.out.big (by rw [← Lib.size_eq]; exact hten) _
              clear hsc2
              go_wp2
              go_ret2
              exact ⟨ret_expo (by rw [HE.out]; rfl) (by rw [HE.out]), n, rfl⟩

set_option maxHeartbeats 2000000 in
theorem model_minus (s mark : ByteArray) (w : World) (hm : mark.size ≤ maxLen) (h0 : 0 < s.size) (hse : ((s.size : Int) == 0) = false) (HM : Hid (mark.data.toList.contains s[0] = true)) (h1 : 1 < s.size) (hb : s.size ≤ 1048576) (h2 : 2 < s.size) (g1 : (((s[1].toNat : Nat) : Int) == 43) = false) (g2 : (((s[1].toNat : Nat) : Int) == 45) = true) :
    Calls Try.prog 10 #[.string s, .string mark] w fun e w' => e = .returned (.tuple #[.int .i64 (expoU true (cutAt s.data.toList 2)).1, .bool (expoU true (cutAt s.data.toList 2)).2]) ∧ ∃ n, w' = w.drewN n := by
  unfold maxLen at hm
  go_enter Try.func10, Try.ntmps10
  go_wp2
  go_loopw [6, 7] (fun f i wx => ∃ (k n : Nat), k ≤ mark.size ∧ i = .int .i64 k ∧ f = .bool ((mark.data.toList.take k).contains s[0]) ∧ wx = w.drewN n) (fun _ i _ => mark.size - (intOf i).toNat)
  case atStart => exact ⟨0, 0, Nat.zero_le _, rfl, rfl, rfl⟩
  case round =>
    obtain ⟨k, n, hk, rfl, rfl, rfl⟩ := hrel
    by_cases hlt : k < mark.size
    · cases hc : (((mark[k].toNat : Nat) : Int) == ((s[0].toNat : Nat) : Int)) with
      | true =>
        have HY : Hid ((mark.data.toList.take (k + 1)).contains s[0] = true) := con_yes mark s[0] k hlt hc
        go_wp2
        go_region
        go_wp2
        go_roundw
        case rel => exact ⟨k + 1, n + 1, by omega, by go_num, by rw [HY.out], rfl⟩
        case measure => simp [intOf]; omega
      | false =>
        have HY : Hid ((mark.data.toList.take (k + 1)).contains s[0] = (mark.data.toList.take k).contains s[0]) := con_no mark s[0] k hlt hc
        go_wp2
        go_region
        go_wp2
        go_roundw
        case rel => exact ⟨k + 1, n + 1, by omega, by go_num, by rw [HY.out], rfl⟩
        case measure => simp [intOf]; omega
    · have HC : Hid ((mark.data.toList.take k).contains s[0] = mark.data.toList.contains s[0]) := by
        unfold Hid; rw [take_end mark k hlt]
      rw [HC.out, HM.out]
      go_wp2
      go_loop [10, 11] (fun f i => ∃ (k : Nat) (z : Int), 2 ≤ k ∧ k ≤ s.size ∧ i = .int .i64 k ∧ f = .int .i64 z ∧ -1 ≤ z ∧ z < k ∧ Hid (Sc s.data.toList 2 k z)) (fun _ i => s.size - (intOf i).toNat)
      case atStart => exact ⟨2, -1, Nat.le_refl _, by omega, rfl, rfl, by omega, by omega, Sc.start _ _⟩
      case round =>
        obtain ⟨k, z, hak, hk, rfl, rfl, hz1, hz2, hsc⟩ := hrel
        by_cases hlt : k < s.size
        · have hll : k < s.data.toList.length := by rw [← Lib.size_eq]; exact hlt
          by_cases q1 : ((s[k].toNat : Nat) : Int) < 48
          · have HE : Hid (expoU true (cutAt s.data.toList 2) = (0, false)) := expoU_bad _ (drop_bad s 2 k hak hlt (notD_lo _ q1))
            go_wp2
            go_ret2
            exact ⟨ret_expo (by rw [HE.out]) (by rw [HE.out]), n, rfl⟩
          · have q3 : decide (((s[k].toNat : Nat) : Int) < 48) = false := decide_eq_false q1
            by_cases q2 : 57 < ((s[k].toNat : Nat) : Int)
            · have HE : Hid (expoU true (cutAt s.data.toList 2) = (0, false)) := expoU_bad _ (drop_bad s 2 k hak hlt (notD_hi _ q2))
              go_wp2
              go_ret2
              exact ⟨ret_expo (by rw [HE.out]) (by rw [HE.out]), n, rfl⟩
            · have HD : Hid (isD s[k] = true) := isD_mid _ q1 q2
              have q4 : decide (57 < ((s[k].toNat : Nat) : Int)) = false := decide_eq_false q2
              by_cases hz : z < 0
              · cases hq : (((s[k].toNat : Nat) : Int) != 48) with
                | true =>
                  have HS : Hid (Sc s.data.toList 2 (k + 1) k) := hsc.out.first hz hak hll HD.out (isnt48 _ hq)
                  go_wp2
                  go_round
                  case rel => exact ⟨k + 1, k, by omega, by omega, by go_num, rfl, by omega, by omega, HS⟩
                  case measure => simp [intOf]; omega
                | false =>
                  have HS : Hid (Sc s.data.toList 2 (k + 1) z) := hsc.out.zero hz hak hll (is48 _ hq)
                  go_wp2
                  go_round
                  case rel => exact ⟨k + 1, z, by omega, by omega, by go_num, rfl, by omega, by omega, HS⟩
                  case measure => simp [intOf]; omega
              · have hz' : decide (z < 0) = false := decide_eq_false hz
                have HS : Hid (Sc s.data.toList 2 (k + 1) z) := hsc.out.keep hz hak hll HD.out
                go_wp2
                go_round
                case rel => exact ⟨k + 1, z, by omega, by omega, by go_num, rfl, by omega, by omega, HS⟩
                case measure => simp [intOf]; omega
        · have hke : k = s.data.toList.length := by rw [← Lib.size_eq]; omega
          have hsc2 : Hid (Sc s.data.toList 2 s.data.toList.length z) := by unfold Hid; rw [← hke]; exact hsc.out
          clear hke hsc
          by_cases hz : z < 0
          · have HE : Hid (expoU true (cutAt s.data.toList 2) = (0, true)) := hsc2.out.none hz _
            go_wp2
            go_ret2
            exact ⟨ret_expo (by rw [HE.out]) (by rw [HE.out]), n, rfl⟩
          · obtain ⟨j, rfl⟩ : ∃ j : Nat, z = j := ⟨z.toNat, by omega⟩
            have hz' : decide ((j : Int) < 0) = false := decide_eq_false hz
            have hjs : j < s.size := by rw [Lib.size_eq]; exact hsc2.out.split.2.1
            by_cases hten : (s.size : Int) - j ≤ 10
            · have HE : Hid (expoU true (cutAt s.data.toList 2) = (signed true (min (val (s.data.toList.drop j)) 1000000000), true)) := hsc2.out.small _
              have HA : Hid ((s.data.toList.drop j).all isD = true) := hsc2.out.split.2.2.2.1
              clear hsc2
              go_wp2
              go_loop [13, 14] (fun v i => ∃ k : Nat, j ≤ k ∧ k ≤ s.size ∧ i = .int .i64 k ∧ v = .int .u64 (val (seg s.data.toList j k))) (fun _ i => s.size - (intOf i).toNat)
              case atStart => exact ⟨j, Nat.le_refl _, by omega, rfl, by rw [seg_nil]; rfl⟩
              case round =>
                obtain ⟨k, hjk, hks, rfl, rfl⟩ := hrel
                by_cases hlk : k < s.size
                · have hv := val_seg HA.out k (by omega)
                  have hll : k < s.data.toList.length := by rw [← Lib.size_eq]; exact hlk
                  have hd : 48 ≤ ((s[k].toNat : Nat) : Int) ∧ ((s[k].toNat : Nat) : Int) ≤ 57 := drop_dig s j k hjk hlk HA.out
                  obtain ⟨hd1, hd2⟩ := hd
                  have HV : Hid (val (seg s.data.toList j (k + 1)) = val (seg s.data.toList j k) * 10 + (((s[k].toNat : Nat) : Int) - 48)) := val_seg_snoc _ j k hjk hll
                  go_wp2
                  go_round
                  case rel => exact ⟨k + 1, by omega, by omega, by go_num, by rw [HV.out]⟩
                  case measure => simp [intOf]; omega
                · have HK : Hid (seg s.data.toList j k = s.data.toList.drop j) := by
                    have : k = s.data.toList.length := by rw [← Lib.size_eq]; omega
                    unfold Hid; rw [this, seg_end]
                  rw [HK.out]
                  have hv0 := (val_bd _ HA.out).1
                  by_cases hlv : val (s.data.toList.drop j) < 1000000000
                  · have HM2 : Hid (min (val (s.data.toList.drop j)) 1000000000 = val (s.data.toList.drop j)) := by unfold Hid; omega
                    go_wp2
                    go_ret2
                    exact ⟨ret_expo (by rw [HE.out, HM2.out]; rfl) (by rw [HE.out]), n, rfl⟩
                  · have HM2 : Hid (min (val (s.data.toList.drop j)) 1000000000 = 1000000000) := by unfold Hid; omega
                    go_wp2
                    go_ret2
                    exact ⟨ret_expo (by rw [HE.out, HM2.out]; rfl) (by rw [HE.out]), n, rfl⟩
            · have HE : Hid (expoU true (cutAt s.data.toList 2) = (signed true 1000000000, true)) := hsc2.out.big (by rw [← Lib.size_eq]; exact hten) _
              clear hsc2
              go_wp2
              go_ret2
              exact ⟨ret_expo (by rw [HE.out]; rfl) (by rw [HE.out]), n, rfl⟩

set_option maxHeartbeats 1000000 in
theorem model_minus_bare (s mark : ByteArray) (w : World) (hm : mark.size ≤ maxLen) (h0 : 0 < s.size) (hse : ((s.size : Int) == 0) = false) (HM : Hid (mark.data.toList.contains s[0] = true)) (h1 : 1 < s.size) (h2 : s.size ≤ 2) (g1 : (((s[1].toNat : Nat) : Int) == 43) = false) (g2 : (((s[1].toNat : Nat) : Int) == 45) = true) :
    Calls Try.prog 10 #[.string s, .string mark] w fun e w' => e = .returned (.tuple #[.int .i64 0, .bool false]) ∧ ∃ n, w' = w.drewN n := by
  unfold maxLen at hm
  go_enter Try.func10, Try.ntmps10
  go_wp2
  go_loopw [6, 7] (fun f i wx => ∃ (k n : Nat), k ≤ mark.size ∧ i = .int .i64 k ∧ f = .bool ((mark.data.toList.take k).contains s[0]) ∧ wx = w.drewN n) (fun _ i _ => mark.size - (intOf i).toNat)
  case atStart => exact ⟨0, 0, Nat.zero_le _, rfl, rfl, rfl⟩
  case round =>
    obtain ⟨k, n, hk, rfl, rfl, rfl⟩ := hrel
    by_cases hlt : k < mark.size
    · cases hc : (((mark[k].toNat : Nat) : Int) == ((s[0].toNat : Nat) : Int)) with
      | true =>
        have HY : Hid ((mark.data.toList.take (k + 1)).contains s[0] = true) := con_yes mark s[0] k hlt hc
        go_wp2
        go_region
        go_wp2
        go_roundw
        case rel => exact ⟨k + 1, n + 1, by omega, by go_num, by rw [HY.out], rfl⟩
        case measure => simp [intOf]; omega
      | false =>
        have HY : Hid ((mark.data.toList.take (k + 1)).contains s[0] = (mark.data.toList.take k).contains s[0]) := con_no mark s[0] k hlt hc
        go_wp2
        go_region
        go_wp2
        go_roundw
        case rel => exact ⟨k + 1, n + 1, by omega, by go_num, by rw [HY.out], rfl⟩
        case measure => simp [intOf]; omega
    · have HC : Hid ((mark.data.toList.take k).contains s[0] = mark.data.toList.contains s[0]) := by
        unfold Hid; rw [take_end mark k hlt]
      rw [HC.out, HM.out]
      go_wp2
      go_ret2
      exact ⟨rfl, n, rfl⟩

set_option maxHeartbeats 2000000 in
theorem model_plus (s mark : ByteArray) (w : World) (hm : mark.size ≤ maxLen) (h0 : 0 < s.size) (hse : ((s.size : Int) == 0) = false) (HM : Hid (mark.data.toList.contains s[0] = true)) (h1 : 1 < s.size) (hb : s.size ≤ 1048576) (h2 : 2 < s.size) (g1 : (((s[1].toNat : Nat) : Int) == 43) = true) (g2 : (((s[1].toNat : Nat) : Int) == 45) = false) :
    Calls Try.prog 10 #[.string s, .string mark] w fun e w' => e = .returned (.tuple #[.int .i64 (expoU false (cutAt s.data.toList 2)).1, .bool (expoU false (cutAt s.data.toList 2)).2]) ∧ ∃ n, w' = w.drewN n := by
  unfold maxLen at hm
  go_enter Try.func10, Try.ntmps10
  go_wp2
  go_loopw [6, 7] (fun f i wx => ∃ (k n : Nat), k ≤ mark.size ∧ i = .int .i64 k ∧ f = .bool ((mark.data.toList.take k).contains s[0]) ∧ wx = w.drewN n) (fun _ i _ => mark.size - (intOf i).toNat)
  case atStart => exact ⟨0, 0, Nat.zero_le _, rfl, rfl, rfl⟩
  case round =>
    obtain ⟨k, n, hk, rfl, rfl, rfl⟩ := hrel
    by_cases hlt : k < mark.size
    · cases hc : (((mark[k].toNat : Nat) : Int) == ((s[0].toNat : Nat) : Int)) with
      | true =>
        have HY : Hid ((mark.data.toList.take (k + 1)).contains s[0] = true) := con_yes mark s[0] k hlt hc
        go_wp2
        go_region
        go_wp2
        go_roundw
        case rel => exact ⟨k + 1, n + 1, by omega, by go_num, by rw [HY.out], rfl⟩
        case measure => simp [intOf]; omega
      | false =>
        have HY : Hid ((mark.data.toList.take (k + 1)).contains s[0] = (mark.data.toList.take k).contains s[0]) := con_no mark s[0] k hlt hc
        go_wp2
        go_region
        go_wp2
        go_roundw
        case rel => exact ⟨k + 1, n + 1, by omega, by go_num, by rw [HY.out], rfl⟩
        case measure => simp [intOf]; omega
    · have HC : Hid ((mark.data.toList.take k).contains s[0] = mark.data.toList.contains s[0]) := by
        unfold Hid; rw [take_end mark k hlt]
      rw [HC.out, HM.out]
      go_wp2
      go_loop [10, 11] (fun f i => ∃ (k : Nat) (z : Int), 2 ≤ k ∧ k ≤ s.size ∧ i = .int .i64 k ∧ f = .int .i64 z ∧ -1 ≤ z ∧ z < k ∧ Hid (Sc s.data.toList 2 k z)) (fun _ i => s.size - (intOf i).toNat)
      case atStart => exact ⟨2, -1, Nat.le_refl _, by omega, rfl, rfl, by omega, by omega, Sc.start _ _⟩
      case round =>
        obtain ⟨k, z, hak, hk, rfl, rfl, hz1, hz2, hsc⟩ := hrel
        by_cases hlt : k < s.size
        · have hll : k < s.data.toList.length := by rw [← Lib.size_eq]; exact hlt
          by_cases q1 : ((s[k].toNat : Nat) : Int) < 48
          · have HE : Hid (expoU false (cutAt s.data.toList 2) = (0, false)) := expoU_bad _ (drop_bad s 2 k hak hlt (notD_lo _ q1))
            go_wp2
            go_ret2
            exact ⟨ret_expo (by rw [HE.out]) (by rw [HE.out]), n, rfl⟩
          · have q3 : decide (((s[k].toNat : Nat) : Int) < 48) = false := decide_eq_false q1
            by_cases q2 : 57 < ((s[k].toNat : Nat) : Int)
            · have HE : Hid (expoU false (cutAt s.data.toList 2) = (0, false)) := expoU_bad _ (drop_bad s 2 k hak hlt (notD_hi _ q2))
              go_wp2
              go_ret2
              exact ⟨ret_expo (by rw [HE.out]) (by rw [HE.out]), n, rfl⟩
            · have HD : Hid (isD s[k] = true) := isD_mid _ q1 q2
              have q4 : decide (57 < ((s[k].toNat : Nat) : Int)) = false := decide_eq_false q2
              by_cases hz : z < 0
              · cases hq : (((s[k].toNat : Nat) : Int) != 48) with
                | true =>
                  have HS : Hid (Sc s.data.toList 2 (k + 1) k) := hsc.out.first hz hak hll HD.out (isnt48 _ hq)
                  go_wp2
                  go_round
                  case rel => exact ⟨k + 1, k, by omega, by omega, by go_num, rfl, by omega, by omega, HS⟩
                  case measure => simp [intOf]; omega
                | false =>
                  have HS : Hid (Sc s.data.toList 2 (k + 1) z) := hsc.out.zero hz hak hll (is48 _ hq)
                  go_wp2
                  go_round
                  case rel => exact ⟨k + 1, z, by omega, by omega, by go_num, rfl, by omega, by omega, HS⟩
                  case measure => simp [intOf]; omega
              · have hz' : decide (z < 0) = false := decide_eq_false hz
                have HS : Hid (Sc s.data.toList 2 (k + 1) z) := hsc.out.keep hz hak hll HD.out
                go_wp2
                go_round
                case rel => exact ⟨k + 1, z, by omega, by omega, by go_num, rfl, by omega, by omega, HS⟩
                case measure => simp [intOf]; omega
        · have hke : k = s.data.toList.length := by rw [← Lib.size_eq]; omega
          have hsc2 : Hid (Sc s.data.toList 2 s.data.toList.length z) := by unfold Hid; rw [← hke]; exact hsc.out
          clear hke hsc
          by_cases hz : z < 0
          · have HE : Hid (expoU false (cutAt s.data.toList 2) = (0, true)) := hsc2.out.none hz _
            go_wp2
            go_ret2
            exact ⟨ret_expo (by rw [HE.out]) (by rw [HE.out]), n, rfl⟩
          · obtain ⟨j, rfl⟩ : ∃ j : Nat, z = j := ⟨z.toNat, by omega⟩
            have hz' : decide ((j : Int) < 0) = false := decide_eq_false hz
            have hjs : j < s.size := by rw [Lib.size_eq]; exact hsc2.out.split.2.1
            by_cases hten : (s.size : Int) - j ≤ 10
            · have HE : Hid (expoU false (cutAt s.data.toList 2) = (signed false (min (val (s.data.toList.drop j)) 1000000000), true)) := hsc2.out.small _
              have HA : Hid ((s.data.toList.drop j).all isD = true) := hsc2.out.split.2.2.2.1
              clear hsc2
              go_wp2
              go_loop [13, 14] (fun v i => ∃ k : Nat, j ≤ k ∧ k ≤ s.size ∧ i = .int .i64 k ∧ v = .int .u64 (val (seg s.data.toList j k))) (fun _ i => s.size - (intOf i).toNat)
              case atStart => exact ⟨j, Nat.le_refl _, by omega, rfl, by rw [seg_nil]; rfl⟩
              case round =>
                obtain ⟨k, hjk, hks, rfl, rfl⟩ := hrel
                by_cases hlk : k < s.size
                · have hv := val_seg HA.out k (by omega)
                  have hll : k < s.data.toList.length := by rw [← Lib.size_eq]; exact hlk
                  have hd : 48 ≤ ((s[k].toNat : Nat) : Int) ∧ ((s[k].toNat : Nat) : Int) ≤ 57 := drop_dig s j k hjk hlk HA.out
                  obtain ⟨hd1, hd2⟩ := hd
                  have HV : Hid (val (seg s.data.toList j (k + 1)) = val (seg s.data.toList j k) * 10 + (((s[k].toNat : Nat) : Int) - 48)) := val_seg_snoc _ j k hjk hll
                  go_wp2
                  go_round
                  case rel => exact ⟨k + 1, by omega, by omega, by go_num, by rw [HV.out]⟩
                  case measure => simp [intOf]; omega
                · have HK : Hid (seg s.data.toList j k = s.data.toList.drop j) := by
                    have : k = s.data.toList.length := by rw [← Lib.size_eq]; omega
                    unfold Hid; rw [this, seg_end]
                  rw [HK.out]
                  have hv0 := (val_bd _ HA.out).1
                  by_cases hlv : val (s.data.toList.drop j) < 1000000000
                  · have HM2 : Hid (min (val (s.data.toList.drop j)) 1000000000 = val (s.data.toList.drop j)) := by unfold Hid; omega
                    go_wp2
                    go_ret2
                    exact ⟨ret_expo (by rw [HE.out, HM2.out]; rfl) (by rw [HE.out]), n, rfl⟩
                  · have HM2 : Hid (min (val (s.data.toList.drop j)) 1000000000 = 1000000000) := by unfold Hid; omega
                    go_wp2
                    go_ret2
                    exact ⟨ret_expo (by rw [HE.out, HM2.out]; rfl) (by rw [HE.out]), n, rfl⟩
            · have HE : Hid (expoU false (cutAt s.data.toList 2) = (signed false 1000000000, true)) := hsc2.out.big (by rw [← Lib.size_eq]; exact hten) _
              clear hsc2
              go_wp2
              go_ret2
              exact ⟨ret_expo (by rw [HE.out]; rfl) (by rw [HE.out]), n, rfl⟩

set_option maxHeartbeats 1000000 in
theorem model_plus_bare (s mark : ByteArray) (w : World) (hm : mark.size ≤ maxLen) (h0 : 0 < s.size) (hse : ((s.size : Int) == 0) = false) (HM : Hid (mark.data.toList.contains s[0] = true)) (h1 : 1 < s.size) (h2 : s.size ≤ 2) (g1 : (((s[1].toNat : Nat) : Int) == 43) = true) (g2 : (((s[1].toNat : Nat) : Int) == 45) = false) :
    Calls Try.prog 10 #[.string s, .string mark] w fun e w' => e = .returned (.tuple #[.int .i64 0, .bool false]) ∧ ∃ n, w' = w.drewN n := by
  unfold maxLen at hm
  go_enter Try.func10, Try.ntmps10
  go_wp2
  go_loopw [6, 7] (fun f i wx => ∃ (k n : Nat), k ≤ mark.size ∧ i = .int .i64 k ∧ f = .bool ((mark.data.toList.take k).contains s[0]) ∧ wx = w.drewN n) (fun _ i _ => mark.size - (intOf i).toNat)
  case atStart => exact ⟨0, 0, Nat.zero_le _, rfl, rfl, rfl⟩
  case round =>
    obtain ⟨k, n, hk, rfl, rfl, rfl⟩ := hrel
    by_cases hlt : k < mark.size
    · cases hc : (((mark[k].toNat : Nat) : Int) == ((s[0].toNat : Nat) : Int)) with
      | true =>
        have HY : Hid ((mark.data.toList.take (k + 1)).contains s[0] = true) := con_yes mark s[0] k hlt hc
        go_wp2
        go_region
        go_wp2
        go_roundw
        case rel => exact ⟨k + 1, n + 1, by omega, by go_num, by rw [HY.out], rfl⟩
        case measure => simp [intOf]; omega
      | false =>
        have HY : Hid ((mark.data.toList.take (k + 1)).contains s[0] = (mark.data.toList.take k).contains s[0]) := con_no mark s[0] k hlt hc
        go_wp2
        go_region
        go_wp2
        go_roundw
        case rel => exact ⟨k + 1, n + 1, by omega, by go_num, by rw [HY.out], rfl⟩
        case measure => simp [intOf]; omega
    · have HC : Hid ((mark.data.toList.take k).contains s[0] = mark.data.toList.contains s[0]) := by
        unfold Hid; rw [take_end mark k hlt]
      rw [HC.out, HM.out]
      go_wp2
      go_ret2
      exact ⟨rfl, n, rfl⟩

end Go.Proofs.Qxb6600543a
