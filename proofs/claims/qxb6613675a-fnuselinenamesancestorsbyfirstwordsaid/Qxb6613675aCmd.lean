/-
  The commands: a Command in memory, its name, its path, its synopsis; the first word.
-/
import Derived.Test.Qxb6613675aCut
namespace Go.Proofs.Qxb6613675a
open Go.RowKit

/-- Nothing that was there has turned; new blocks at most. -/
def G (w w' : World) : Prop := Grown w w' ∧ Below w.heap.size w w'

theorem G.refl (w : World) : G w w := ⟨Grown.refl _, Below.refl _ _⟩
theorem G.trans {a b c : World} (h : G a b) (k : G b c) : G a c :=
  ⟨⟨World.keptBut_trans h.1.1 k.1.1, fun x => (k.1.2.1 x).trans (h.1.2.1 x), Nat.le_trans h.1.2.2 k.1.2.2⟩, h.2.trans (k.2.mono h.2.size)⟩
theorem G.alloc (w : World) (c : Array Value) (t : TypeId) : G w (w.alloc (.cells c t)) :=
  ⟨(Grown.refl w).alloc c t, (Below.refl _ _).alloc (Nat.le_refl _) _⟩
theorem G.drew {a w : World} (h : G a w) : G a w.drew := ⟨h.1.drew, h.2.drew⟩
theorem G.drewN {a w : World} (h : G a w) : ∀ n, G a (w.drewN n)
  | 0 => h
  | n + 1 => (h.drewN n).drew
theorem G.cell {w w' : World} (h : G w w') {b o : Nat} (hb : b < w.heap.size) : w'.cell? ⟨b, o, none⟩ = w.cell? ⟨b, o, none⟩ := h.2.cell (p := ⟨b, o, none⟩) hb
theorem G.size {w w' : World} (h : G w w') : w.heap.size ≤ w'.heap.size := h.2.size

/-- Block b holds a Command whose Use is s and whose parent is p. -/
def IsCmd (w : World) (b : Nat) (s : ByteArray) (p : Option Addr) : Prop :=
  b < w.heap.size ∧ w.cell? ⟨b, 0, none⟩ = some (.string s) ∧ w.cell? ⟨b, 6, none⟩ = some (.pointer p)

theorem IsCmd.kept {w w' : World} {b : Nat} {s : ByteArray} {p : Option Addr} (h : IsCmd w b s p) (g : G w w') : IsCmd w' b s p :=
  ⟨Nat.lt_of_lt_of_le h.1 g.size, (g.cell h.1).trans h.2.1, (g.cell h.1).trans h.2.2⟩

set_option maxHeartbeats 400000 in
theorem new_any (s : ByteArray) (p : Option Addr) (w : World) :
    Calls Try.prog 5 #[.string s, .pointer p] w fun e w' => ∃ b, e = .returned (.pointer (some ⟨b, 0, none⟩)) ∧ IsCmd w' b s p ∧ G w w' := by
  go_enter Try.func5, Try.ntmps5
  go_wp2
  go_ret
  refine ⟨w.heap.size, rfl, ⟨?_, ?_, ?_⟩, G.alloc _ _ _⟩
  · simp
  · simp
  · simp

theorem byte_is (x c : UInt8) (h : ((x.toNat : Int) == (c.toNat : Int)) = true) : x = c := by
  have := beq_iff_eq.1 h
  exact UInt8.toNat_inj.1 (by omega)
theorem byte_isnt (x c : UInt8) (h : ((x.toNat : Int) == (c.toNat : Int)) = false) : x ≠ c := by
  rintro rfl
  simp at h

theorem take_snoc (s : ByteArray) (k : Nat) (h : k < s.size) : s.data.toList.take (k + 1) = s.data.toList.take k ++ [s[k]] := by
  rw [List.take_succ_eq_append_getElem (by simpa using h)]; rfl
theorem none_step (s : ByteArray) (c : UInt8) (k : Nat) (h : k < s.size) (hn : (s.data.toList.take k).contains c = false) (hc : s[k] ≠ c) : (s.data.toList.take (k + 1)).contains c = false := by
  rw [take_snoc s k h]
  simp only [List.contains_eq_mem, decide_eq_false_iff_not] at hn ⊢
  simp only [List.mem_append, List.mem_singleton, not_or]
  exact ⟨hn, fun e => hc e.symm⟩

theorem takeWhile_at (a b : List UInt8) (c : UInt8) (h : a.contains c = false) : (a ++ c :: b).takeWhile (· != c) = a := by
  induction a with
  | nil => simp
  | cons x a ih =>
    simp only [List.contains_cons, Bool.or_eq_false_iff, beq_eq_false_iff_ne] at h
    have hb' : (x != c) = true := by simp; exact fun e => h.1 e.symm
    rw [List.cons_append, List.takeWhile_cons, hb']
    simp [ih h.2]

theorem befB_at (s : ByteArray) (c : UInt8) (k : Nat) (h : k < s.size) (hn : (s.data.toList.take k).contains c = false) (hc : s[k] = c) : befB s c = s.extract 0 k := by
  have e : s.data.toList = s.data.toList.take k ++ c :: s.data.toList.drop (k + 1) := by
    have h1 : s.data.toList.drop k = s[k] :: s.data.toList.drop (k + 1) := by
      rw [List.drop_eq_getElem_cons (by simpa using h)]; rfl
    rw [← hc, ← h1, List.take_append_drop]
  unfold befB
  rw [Lib.extract_eq]
  simp only [List.drop_zero, Nat.sub_zero]
  congr 2
  exact (congrArg (fun l => List.takeWhile (· != c) l) e).trans (takeWhile_at _ _ _ hn)

theorem befB_none (s : ByteArray) (c : UInt8) (h : s.data.toList.contains c = false) : befB s c = s := by
  unfold befB
  rw [(indexByte_miss _ _ h).2.1, Lib.mk_data]

theorem ret_str {a b : ByteArray} (h : a = b) : Ending.returned (.string a) = .returned (.string b) := by rw [h]

set_option maxHeartbeats 400000 in
theorem firstWord_any (s : ByteArray) (w : World) (hs : s.size ≤ maxLen) :
    Calls Try.prog 7 #[.string s] w fun e w' => e = .returned (.string (befB s 32)) ∧ w' = w := by
  unfold maxLen at hs
  go_enter Try.func7, Try.ntmps7
  go_wp2
  go_loop [3] (fun i => ∃ k : Nat, k ≤ s.size ∧ i = .int .i64 k ∧ Hid ((s.data.toList.take k).contains 32 = false)) (fun i => s.size - (intOf i).toNat)
  case atStart => exact ⟨0, Nat.zero_le _, rfl, by simp [Hid]⟩
  case round =>
    obtain ⟨k, hk, rfl, hn⟩ := hrel
    by_cases hlt : k < s.size
    · go_wp2
      · have hc : ((s[k].toNat : Int) == 32) = true := by assumption
        go_ret
        exact ⟨ret_str (befB_at s 32 k hlt hn.out (byte_is _ _ hc)).symm, rfl⟩
      · have hc : ((s[k].toNat : Int) == 32) = false := by assumption
        go_round
        case rel => exact ⟨k + 1, by omega, by go_num, none_step s 32 k hlt hn.out (byte_isnt _ _ hc)⟩
        case measure => simp [intOf]; omega
    · have hk2 : k = s.size := by omega
      have hn2 : s.data.toList.contains 32 = false := by
        have := hn.out
        rw [List.take_of_length_le (by rw [← Lib.size_eq]; omega)] at this
        exact this
      go_wp2
      go_ret
      exact ⟨ret_str (befB_none s 32 hn2).symm, rfl⟩

set_option maxHeartbeats 400000 in
theorem name_any (s : ByteArray) (p : Option Addr) (b : Nat) (w : World) (hs : s.size ≤ maxLen) (h : IsCmd w b s p) :
    Calls Try.prog 10 #[.pointer (some ⟨b, 0, none⟩)] w fun e w' => e = .returned (.string (befB s 32)) ∧ ∃ n, w' = w.drewN n := by
  obtain ⟨hb, h0, h6⟩ := h
  go_enter Try.func10, Try.ntmps10
  go_wp2_with (go_at_call 11; refine (cut_one _ _ _ hs).mono ?_; rintro e w' ⟨rfl, n, rfl⟩)
  go_ret
  exact ⟨rfl, n, rfl⟩

theorem IsCmd.drewN {w : World} {b : Nat} {s : ByteArray} {p : Option Addr} (h : IsCmd w b s p) (n : Nat) : IsCmd (w.drewN n) b s p := h.kept ((G.refl w).drewN n)

set_option maxHeartbeats 400000 in
theorem path_root (s : ByteArray) (b : Nat) (w : World) (hs : s.size ≤ maxLen) (h : IsCmd w b s none) :
    Calls Try.prog 9 #[.pointer (some ⟨b, 0, none⟩)] w fun e w' => e = .returned (.string (befB s 32)) ∧ ∃ n, w' = w.drewN n := by
  obtain ⟨hb, h0, h6⟩ := id h
  go_enter Try.func9, Try.ntmps9
  go_wp2_with (go_at_call 10; refine (name_any s none b _ hs h).mono ?_; rintro e w' ⟨rfl, n, rfl⟩)
  go_ret
  exact ⟨rfl, n, rfl⟩

theorem befB_size (s : ByteArray) (c : UInt8) : (befB s c).size ≤ s.size := by
  rw [Lib.size_eq, Lib.size_eq]
  unfold befB
  exact (List.takeWhile_prefix _).length_le

set_option maxHeartbeats 400000 in
theorem path_sub (s t : ByteArray) (b r : Nat) (w : World) (hs : s.size ≤ 65536) (ht : t.size ≤ 65536) (h : IsCmd w b s (some ⟨r, 0, none⟩)) (hr : IsCmd w r t none) :
    Calls Try.prog 9 #[.pointer (some ⟨b, 0, none⟩)] w fun e w' => e = .returned (.string (befB t 32 ++ ⟨#[32]⟩ ++ befB s 32)) ∧ ∃ n, w' = w.drewN n := by
  have b1 := befB_size s 32
  have b2 := befB_size t 32
  obtain ⟨hb, h0, h6⟩ := id h
  go_enter Try.func9, Try.ntmps9
  go_wp2_with fail
  refine (path_root t r _ (by unfold maxLen; omega) hr).mono ?_
  rintro e w' ⟨rfl, n, rfl⟩
  go_wp2_with fail
  refine (name_any s _ b _ (by unfold maxLen; omega) (h.drewN n)).mono ?_
  rintro e w' ⟨rfl, m, rfl⟩
  go_wp2
  go_ret
  exact ⟨rfl, n + m, rfl⟩

/-- The synopsis of a command u below s below t. -/
def lineOf (t s u : ByteArray) : ByteArray := befB t 32 ++ ⟨#[32]⟩ ++ befB s 32 ++ ⟨#[32]⟩ ++ u ++ ⟨#[32, 91, 102, 108, 97, 103, 115, 93]⟩

set_option maxHeartbeats 400000 in
theorem useLine_sub (u s t : ByteArray) (c b r : Nat) (w : World) (hu : u.size ≤ 65536) (hs : s.size ≤ 65536) (ht : t.size ≤ 65536) (hc : IsCmd w c u (some ⟨b, 0, none⟩)) (h : IsCmd w b s (some ⟨r, 0, none⟩)) (hr : IsCmd w r t none) :
    Calls Try.prog 8 #[.pointer (some ⟨c, 0, none⟩)] w fun e w' => e = .returned (.string (lineOf t s u)) ∧ ∃ n, w' = w.drewN n := by
  have b1 := befB_size s 32
  have b2 := befB_size t 32
  obtain ⟨hb, h0, h6⟩ := id hc
  go_enter Try.func8, Try.ntmps8
  go_wp2_with fail
  refine (path_sub s t b r _ hs ht h hr).mono ?_
  rintro e w' ⟨rfl, n, rfl⟩
  go_wp2
  go_ret
  exact ⟨rfl, n, rfl⟩

set_option maxHeartbeats 400000 in
theorem zzUseLine_sub (u s t : ByteArray) (c b r : Nat) (w : World) (hu : u.size ≤ 65536) (hs : s.size ≤ 65536) (ht : t.size ≤ 65536) (hc : IsCmd w c u (some ⟨b, 0, none⟩)) (h : IsCmd w b s (some ⟨r, 0, none⟩)) (hr : IsCmd w r t none) :
    Calls Try.prog 6 #[.pointer (some ⟨c, 0, none⟩)] w fun e w' => e = .returned (.string (lineOf t s u)) ∧ ∃ n, w' = w.drewN n := by
  go_enter Try.func6, Try.ntmps6
  go_wp2_with (go_at_call 8; refine (useLine_sub u s t c b r _ hu hs ht hc h hr).mono ?_; rintro e w' ⟨rfl, n, rfl⟩)
  go_ret
  exact ⟨rfl, n, rfl⟩

/-- The bound on total length. -/
def within (g p q u : ByteArray) : Bool := decide (g.size + p.size + q.size + u.size ≤ 1048576)

set_option maxHeartbeats 400000 in
theorem zzBytes_any (g p q u : ByteArray) (w : World) (h1 : g.size ≤ maxLen) (h2 : p.size ≤ maxLen) (h3 : q.size ≤ maxLen) (h4 : u.size ≤ maxLen) :
    Calls Try.prog 4 #[.string g, .string p, .string q, .string u] w fun e w' => e = .returned (.bool (within g p q u)) ∧ w' = w := by
  unfold maxLen at h1 h2 h3 h4
  go_enter Try.func4, Try.ntmps4
  go_wp2
  all_goals
    go_ret
    refine ⟨?_, rfl⟩
    show Ending.returned (.bool _) = _
    unfold within
    congr 2
    simp
    omega

end Go.Proofs.Qxb6613675a
