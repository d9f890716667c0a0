/-
  IndexRune of a rune beyond ASCII in the two bytes '.', ':': -1, whatever the rune.
-/
import Derived.Test.Qxb6003646aSplit
import Derived.Test.Qxb6003646aShelf
import Derived.Laws.RangeAny
import Derived.Lib.OthersKept
import Derived.Deep.LoopGhost
import Derived.Deep.QuietTactic
import Derived.BigQuiet
namespace Go.Proofs.Qxb6003646a
open Go.RowKit

/-! ### Nothing that was there has turned -/
def G (w w' : World) : Prop := Grown w w' ∧ Below w.heap.size w w'
theorem G.refl (w : World) : G w w := ⟨Grown.refl _, Below.refl _ _⟩
theorem G.trans {a b c : World} (h : G a b) (k : G b c) : G a c :=
  ⟨⟨World.keptBut_trans h.1.1 k.1.1, fun x => (k.1.2.1 x).trans (h.1.2.1 x), Nat.le_trans h.1.2.2 k.1.2.2⟩, h.2.trans (k.2.mono h.2.size)⟩
theorem G.alloc (w : World) (c : Array Value) (t : TypeId) : G w (w.alloc (.cells c t)) :=
  ⟨(Grown.refl w).alloc c t, (Below.refl _ _).alloc (Nat.le_refl _) _⟩
theorem G.drew {a w : World} (h : G a w) : G a w.drew := ⟨h.1.drew, h.2.drew⟩
theorem G.drewN {a w : World} (h : G a w) : ∀ n, G a (w.drewN n)
  | 0 => h
  | n + 1 => (h.drewN n).drew
theorem frozen_iter (w : World) (s : ByteArray) (p : Nat) (a : Addr) : (w.alloc (.stringIter s p)).frozen? a = w.frozen? a := by
  by_cases h : a.block = w.heap.size
  · have e1 : (w.alloc (.stringIter s p)).heap[a.block]? = some (.stringIter s p) := by rw [h]; exact World.iter_heap w s p
    have e2 : w.heap[a.block]? = none := by rw [h]; simp
    simp [World.frozen?, e1, e2]
  · exact World.frozen?_alloc_old _ _ _ h
theorem G.iter (w : World) (s : ByteArray) (p : Nat) : G w (w.iter s p) :=
  ⟨⟨World.keptBut_alloc _ _ _, frozen_iter w s p, by show w.heap.size ≤ (w.heap.push _).size; simp⟩, (Below.refl _ _).alloc (Nat.le_refl _) _⟩
theorem G.iterAt {a w : World} (h : G a w) {k : Nat} {s : ByteArray} {p : Nat} (hk : a.heap.size ≤ k) (hi : w.heap[k]? = some (.stringIter s p)) (q : Nat) : G a (w.iterAt k s q) := by
  obtain ⟨⟨⟨h1, h2, h3⟩, h4, h5⟩, h6⟩ := h
  refine ⟨⟨⟨h1, h2, fun i hi2 => ?_⟩, fun x => ?_, ?_⟩, Lib.below_iterAt h6 hk s q⟩
  · rw [Lib.iterAt_other w k i s q (by omega)]
    exact h3 i hi2
  · rw [← h4 x]
    by_cases hx : x.block = k
    · have e1 : (w.iterAt k s q).heap[x.block]? = some (.stringIter s q) := by rw [hx]; exact Lib.iterAt_heap w k s p q hi
      have e2 : w.heap[x.block]? = some (.stringIter s p) := by rw [hx]; exact hi
      simp [World.frozen?, e1, e2]
    · have e1 : (w.iterAt k s q).heap[x.block]? = w.heap[x.block]? := Lib.iterAt_other w k _ s q hx
      simp [World.frozen?, e1]
  · rw [Lib.iterAt_size]; exact h5

/-! ### UTF-8 -/
theorem valid_of (r : Int) (hv : Lib.validRune r = true) : Utf8.valid r = true := by
  unfold Lib.validRune at hv
  unfold Utf8.valid
  simp only [Bool.or_eq_true, Bool.and_eq_true, decide_eq_true_eq] at hv ⊢
  omega
theorem enc_eq (r : Int) (h1 : 128 ≤ r) (hv : Lib.validRune r = true) : (∃ a b : UInt8, 128 ≤ b.toNat ∧ Utf8.encode r = ⟨#[a, b]⟩) ∨ (∃ a b c : UInt8, Utf8.encode r = ⟨#[a, b, c]⟩) ∨ (∃ a b c d : UInt8, Utf8.encode r = ⟨#[a, b, c, d]⟩) := by
  have hn : ¬ r.toNat < 128 := by omega
  unfold Utf8.encode
  simp only [valid_of r hv, if_true]
  rw [if_neg hn]
  split
  · refine Or.inl ⟨_, _, ?_, rfl⟩
    rw [UInt8.toNat_ofNat']
    omega
  · split
    · exact Or.inr (Or.inl ⟨_, _, _, rfl⟩)
    · exact Or.inr (Or.inr ⟨_, _, _, _, rfl⟩)
theorem get_bang (s : ByteArray) (k : Nat) (h : k < s.size) : s.get! k = s[k]'h := by
  simp [ByteArray.get!, getElem!_pos, h]
  rfl
theorem decode_cont (s : ByteArray) (pos : Nat) (j : Nat) (h1 : 1 ≤ j) (h2 : j < (Utf8.decode s pos).2) : ∃ h : pos + j < s.size, 128 ≤ (s[pos + j]'h).toNat := by
  have key : ∀ k, (decide (pos + k < s.size) && (s.get! (pos + k)).toNat / 64 == 2) = true → ∃ h : pos + k < s.size, 128 ≤ (s[pos + k]'h).toNat := by
    intro k hk
    simp only [Bool.and_eq_true, decide_eq_true_eq, beq_iff_eq] at hk
    refine ⟨hk.1, ?_⟩
    rw [← get_bang s (pos + k) hk.1]
    omega
  unfold Utf8.decode at h2
  simp only at h2
  split at h2
  · omega
  · split at h2
    · rename_i hc
      rw [Bool.and_eq_true] at hc
      have hj : j = 1 := by
        split at h2 <;> simp only at h2 <;> omega
      subst hj
      exact key 1 hc.2
    · split at h2
      · rename_i hc
        simp only [Bool.and_eq_true] at hc
        have hj : j = 1 ∨ j = 2 := by
          split at h2 <;> simp only at h2 <;> omega
        rcases hj with rfl | rfl
        · exact key 1 (by simpa using hc.1.2)
        · exact key 2 (by simpa using hc.2)
      · split at h2
        · rename_i hc
          simp only [Bool.and_eq_true] at hc
          have hj : j = 1 ∨ j = 2 ∨ j = 3 := by
            split at h2 <;> simp only at h2 <;> omega
          rcases hj with rfl | rfl | rfl
          · exact key 1 (by simpa using hc.1.1.2)
          · exact key 2 (by simpa using hc.1.2)
          · exact key 3 (by simpa using hc.2)
        · simp only at h2
          omega

set_option maxHeartbeats 1000000 in
set_option maxRecDepth 1000000 in
theorem rune_err (w : World) :
    Calls Try.prog 35 #[.string ⟨#[46, 58]⟩, .int .i32 65533] w fun e w' => e = .returned (.int .i64 (-1)) ∧ ∃ pos, w' = w.iter ⟨#[46, 58]⟩ pos := by
  have n0 := fun ty => run_next_ascii (P := Try.prog) w ⟨#[46, 58]⟩ 0 ty (by decide) (by decide)
  have n1 := fun ty => run_next_ascii (P := Try.prog) w ⟨#[46, 58]⟩ 1 ty (by decide) (by decide)
  have n2 := fun ty => run_next_end (P := Try.prog) w ⟨#[46, 58]⟩ 2 ty (by decide)
  go_enter Try.func35, Try.ntmps35
  go_wp2
  go_loopg [5, 6] 2 (fun g _ _ wx => ∃ i : Nat, i + g = 2 ∧ wx = w.iter ⟨#[46, 58]⟩ i)
  case atStart => exact ⟨0, by omega, rfl⟩
  case round =>
    obtain ⟨i, hig, rfl⟩ := hrel
    cases gk with
    | zero =>
      obtain rfl : i = 2 := by omega
      go_wp2
      go_ret
      exact ⟨rfl, _, rfl⟩
    | succ g =>
      rcases (show i = 0 ∨ i = 1 by omega) with rfl | rfl
      · go_wp2
        go_roundg g
        case measure => omega
        case rel => exact ⟨1, by omega, rfl⟩
      · go_wp2
        go_roundg g
        case measure => omega
        case rel => exact ⟨2, by omega, rfl⟩

set_option maxHeartbeats 1000000 in
set_option maxRecDepth 1000000 in
theorem rune_bad (r : Int) (w : World) (h1 : 128 ≤ r) (h2 : (r == 65533) = false) (hv : Hid (Lib.validRune r = false)) :
    Calls Try.prog 35 #[.string ⟨#[46, 58]⟩, .int .i32 r] w fun e w' => e = .returned (.int .i64 (-1)) ∧ w' = w := by
  go_enter Try.func35, Try.ntmps35
  go_wp2_with (go_at_call 44; refine (Try.utf8_ValidRune _ _).mono ?_; rintro e w' ⟨rfl, rfl⟩; rw [hv.out])
  go_ret
  exact ⟨rfl, rfl⟩

set_option maxHeartbeats 1000000 in
set_option maxRecDepth 1000000 in
theorem rune_high3 (r : Int) (w : World) (h1 : 128 ≤ r) (h2 : (r == 65533) = false) (hv : Hid (Lib.validRune r = true)) (rs : ByteArray) (hrs : Utf8.encode r = rs) (h3 : 3 ≤ rs.size) (h4 : rs.size ≤ 4) :
    Calls Try.prog 35 #[.string ⟨#[46, 58]⟩, .int .i32 r] w fun e w' => e = .returned (.int .i64 (-1)) ∧ w' = w := by
  go_enter Try.func35, Try.ntmps35
  go_wp2_with (go_at_call 44; refine (Try.utf8_ValidRune _ _).mono ?_; rintro e w' ⟨rfl, rfl⟩; rw [hv.out])
  go_step3
  go_wp2
  refine wp_loop_rounds 1 ?_
  rw [rounds_succ]
  go_wp2
  rw [Exit.noGoto_ret]
  go_ret
  exact ⟨rfl, rfl⟩

set_option maxHeartbeats 1000000 in
set_option maxRecDepth 1000000 in
theorem rune_high2 (r : Int) (w : World) (h1 : 128 ≤ r) (h2 : (r == 65533) = false) (hv : Hid (Lib.validRune r = true)) (rs : ByteArray) (hrs : Utf8.encode r = rs) (h3 : rs.size = 2) (h5 : 1 < rs.size) (h4 : ∀ h, ((((⟨#[46, 58]⟩ : ByteArray)[1]'h).toNat : Int) != (rs[1].toNat : Int)) = true) :
    Calls Try.prog 35 #[.string ⟨#[46, 58]⟩, .int .i32 r] w fun e w' => e = .returned (.int .i64 (-1)) ∧ ∃ n, w' = w.drewN n := by
  go_enter Try.func35, Try.ntmps35
  go_wp2_with (go_at_call 44; refine (Try.utf8_ValidRune _ _).mono ?_; rintro e w' ⟨rfl, rfl⟩; rw [hv.out])
  go_step3
  go_wp2
  refine wp_loop_rounds 1 ?_
  rw [rounds_succ]
  go_wp2
  go_step3
  go_wp2
  go_region
  go_wp2
  go_region_with (go_at_call 43; refine (Try.strings_IndexByte _ _ _).mono ?_; rintro e wq ⟨rfl, rfl⟩)
  all_goals
    go_wp2
    rw [Exit.noGoto_ret]
    go_wp2
    rw [Exit.noGoto_ret]
    go_ret
    exact ⟨rfl, 2, rfl⟩
theorem rune_far (r : Int) (w : World) (h1 : 128 ≤ r) :
    Calls Try.prog 35 #[.string ⟨#[46, 58]⟩, .int .i32 r] w fun e w' => e = .returned (.int .i64 (-1)) ∧ G w w' := by
  by_cases h2 : r = 65533
  · subst h2
    refine (rune_err w).mono ?_
    rintro e w' ⟨he, pos, rfl⟩
    exact ⟨he, G.iter _ _ _⟩
  · have h2' : (r == 65533) = false := beq_eq_false_iff_ne.2 h2
    cases hv : Lib.validRune r with
    | false =>
      refine (rune_bad r w h1 h2' hv).mono ?_
      rintro e w' ⟨he, rfl⟩
      exact ⟨he, G.refl _⟩
    | true =>
      rcases enc_eq r h1 hv with ⟨a, b, hb, e⟩ | ⟨a, b, c, e⟩ | ⟨a, b, c, d, e⟩
      · refine (rune_high2 r w h1 h2' hv ⟨#[a, b]⟩ e rfl (by show 1 < 2; omega) ?_).mono ?_
        · intro _
          rw [bne_iff_ne]
          show (58 : Int) ≠ (b.toNat : Int)
          omega
        · rintro e w' ⟨he, n, rfl⟩
          exact ⟨he, (G.refl _).drewN n⟩
      · refine (rune_high3 r w h1 h2' hv ⟨#[a, b, c]⟩ e (by show 3 ≤ 3; omega) (by show 3 ≤ 4; omega)).mono ?_
        rintro e w' ⟨he, rfl⟩
        exact ⟨he, G.refl _⟩
      · refine (rune_high3 r w h1 h2' hv ⟨#[a, b, c, d]⟩ e (by show 3 ≤ 4; omega) (by show 4 ≤ 4; omega)).mono ?_
        rintro e w' ⟨he, rfl⟩
        exact ⟨he, G.refl _⟩

set_option maxHeartbeats 1000000 in
set_option maxRecDepth 1000000 in
theorem rune_near (x : UInt8) (w : World) (h : x.toNat < 128) :
    Calls Try.prog 35 #[.string ⟨#[46, 58]⟩, .int .i32 x.toNat] w fun e w' => e = .returned (.int .i64 (Lib.indexByte [46, 58] x)) ∧ w' = w := by
  have hb : ((x.toNat : Int)).toNat.toUInt8 = x := by simp
  have hx : (x.toNat : Int) < 128 := by omega
  go_enter Try.func35, Try.ntmps35
  go_wp2_with (go_at_call 43; refine (Try.strings_IndexByte _ _ _).mono ?_; rintro e w' ⟨rfl, rfl⟩; rw [hb])
  go_ret
  exact ⟨rfl, rfl⟩
end Go.Proofs.Qxb6003646a
