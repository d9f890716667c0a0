/-
  registryOf, walked: ContainsAny at the two bytes '.', ':' over every string, valid UTF-8 or not.
-/
import Derived.Test.Qxb6003646aRunes
namespace Go.Proofs.Qxb6003646a
open Go.RowKit

/-! ### No '.' and no ':' among the first i bytes -/
def NoDC (s : ByteArray) (i : Nat) : Prop := ∀ j (h : j < s.size), j < i → s[j] ≠ 46 ∧ s[j] ≠ 58
theorem NoDC.end_ {s : ByteArray} {i : Nat} (h : NoDC s i) (hi : ¬ i < s.size) : (hasB s 46 || hasB s 58) = false := by
  have key : ∀ c : UInt8, (∀ j (h : j < s.size), s[j] ≠ c) → hasB s c = false := by
    intro c hc
    unfold hasB
    simp only [List.contains_eq_mem, decide_eq_false_iff_not]
    intro hm
    obtain ⟨j, hj, e⟩ := List.mem_iff_getElem.1 hm
    exact hc j (by rw [Lib.size_eq]; exact hj) e
  rw [key 46 (fun j hj => (h j hj (by omega)).1), key 58 (fun j hj => (h j hj (by omega)).2)]
  rfl
theorem NoDC.near {s : ByteArray} {i : Nat} (h : NoDC s i) (hi : i < s.size) (h1 : s[i] ≠ 46) (h2 : s[i] ≠ 58) : NoDC s (i + 1) := by
  intro j hj hij
  by_cases e : j = i
  · subst e; exact ⟨h1, h2⟩
  · exact h j hj (by omega)
theorem high_ne (x : UInt8) (h : 128 ≤ x.toNat) : x ≠ 46 ∧ x ≠ 58 := by
  constructor <;> (rintro rfl; revert h; decide)
theorem NoDC.far {s : ByteArray} {i : Nat} (h : NoDC s i) (hi : i < s.size) (h1 : 128 ≤ s[i].toNat) : NoDC s (i + (Utf8.decode s i).2) := by
  intro j hj hij
  by_cases e : j < i
  · exact h j hj e
  · by_cases e2 : j = i
    · subst e2; exact high_ne _ h1
    · obtain ⟨hk, hb⟩ := decode_cont s i (j - i) (by omega) (by omega)
      have : i + (j - i) = j := by omega
      simp only [this] at hb
      exact high_ne _ hb
theorem idx_dc (x : UInt8) : decide (0 ≤ Lib.indexByte [46, 58] x) = ((x == 46) || (x == 58)) := by
  by_cases h1 : x = 46
  · subst h1; rfl
  · by_cases h2 : x = 58
    · subst h2; rfl
    · have e1 : ((46 : UInt8) == x) = false := beq_eq_false_iff_ne.2 (Ne.symm h1)
      have e2 : ((58 : UInt8) == x) = false := beq_eq_false_iff_ne.2 (Ne.symm h2)
      unfold Lib.indexByte Lib.indexByte Lib.indexByte
      simp [e1, e2, h1, h2]

theorem iter_kept {wn w' : World} {k : Nat} {o : Obj} (h : wn.heap[k]? = some o) (g : G wn w') : Hid (w'.heap[k]? = some o) := by
  have hlt : k < wn.heap.size := (Array.getElem?_eq_some_iff.1 h).1
  exact (g.2.block k hlt).trans h

set_option maxHeartbeats 400000 in
theorem useSet_no (n : Int) (w : World) (h : decide ((8 : Int) < n) = false) :
    Calls Try.prog 36 #[.int .i64 n] w fun e w' => e = .returned (.bool false) ∧ w' = w := by
  go_enter Try.func36, Try.ntmps36
  go_wp2
  go_ret
  exact ⟨rfl, rfl⟩

set_option maxHeartbeats 2000000 in
set_option maxRecDepth 1000000 in
theorem indexAny_short (s : ByteArray) (w : World) (h8 : s.size ≤ 8) :
    Calls Try.prog 32 #[.string s, .string ⟨#[46, 58]⟩] w fun e w' => ∃ r : Int, e = .returned (.int .i64 r) ∧ Hid (decide (0 ≤ r) = (hasB s 46 || hasB s 58)) ∧ G w w' := by
  have h8z : decide ((8 : Int) < (s.size : Int)) = false := decide_eq_false (by omega)
  go_enter Try.func32, Try.ntmps32
  go_wp2_with (go_at_call 36; refine (useSet_no _ _ h8z).mono ?_; rintro e w' ⟨rfl, hq⟩; have hq := hq.symm; subst hq)
  go_loopg [9, 10] s.size (fun g _ _ wx => ∃ i : Nat, g = s.size - i ∧ Hid (wx.heap[w.heap.size]? = some (.stringIter s i)) ∧ Hid (G w wx) ∧ Hid (NoDC s i))
  case atStart => exact ⟨0, by omega, World.iter_heap _ _ _, G.iter _ _ _, fun j hj h => absurd h (by omega)⟩
  case round =>
    obtain ⟨i, hig, hk, hg, hno⟩ := hrel
    by_cases hi : i < s.size
    · by_cases hx : s[i].toNat < 128
      · have hnx := fun ty => Lib.run_next_ascii_at (P := Try.prog) wr w.heap.size s i ty hk.out hi hx
        have hk2 : Hid ((wr.iterAt w.heap.size s (i + 1)).heap[w.heap.size]? = some (.stringIter s (i + 1))) := Lib.iterAt_heap _ _ _ _ _ hk.out
        have hg2 : Hid (G w (wr.iterAt w.heap.size s (i + 1))) := hg.out.iterAt (Nat.le_refl _) hk.out _
        obtain ⟨x, hxe⟩ : ∃ x : UInt8, s[i] = x := ⟨_, rfl⟩
        rw [hxe] at hnx hx
        have HX : Hid (s[i] = x) := hxe
        clear hxe hk hg
        generalize wr.iterAt w.heap.size s (i + 1) = wn at hnx hk2 hg2
        cases hd : decide (0 ≤ Lib.indexByte [46, 58] x) with
        | true =>
          have hge : 0 ≤ Lib.indexByte [46, 58] x := of_decide_eq_true hd
          have HR : Hid (decide (0 ≤ (i : Int)) = (hasB s 46 || hasB s 58)) := by
            have hc := hd
            rw [idx_dc] at hc
            unfold Hid
            rw [decide_eq_true (by omega : (0 : Int) ≤ (i : Int))]
            simp only [Bool.or_eq_true, beq_iff_eq] at hc
            rcases hc with hc | hc
            · rw [has_at s 46 i hi (by rw [HX.out]; exact hc)]; rfl
            · rw [has_at s 58 i hi (by rw [HX.out]; exact hc), Bool.or_true]
          clear hd
          go_wp2_with (go_at_call 35; refine (rune_near x _ hx).mono ?_; rintro e w' ⟨rfl, hq⟩; have hq := hq.symm; subst hq)
          go_ret
          exact ⟨_, rfl, HR, hg2⟩
        | false =>
          have hlt : ¬ 0 ≤ Lib.indexByte [46, 58] x := of_decide_eq_false hd
          have HN : Hid (NoDC s (i + 1)) := by
            rw [idx_dc] at hd
            simp only [Bool.or_eq_false_iff, beq_eq_false_iff_ne] at hd
            exact hno.out.near hi (by rw [HX.out]; exact hd.1) (by rw [HX.out]; exact hd.2)
          clear hd
          go_wp2_with (go_at_call 35; refine (rune_near x _ hx).mono ?_; rintro e w' ⟨rfl, hq⟩; have hq := hq.symm; subst hq)
          go_roundg (s.size - (i + 1))
          case measure => omega
          case rel => exact ⟨i + 1, rfl, hk2, hg2, HN⟩
      · have hhi := decode_high s i hi (by omega)
        have hnx := fun ty => Lib.run_next_any_at (P := Try.prog) wr w.heap.size s i ty hk.out hi
        have hk2 : Hid ((wr.iterAt w.heap.size s (i + (Utf8.decode s i).2)).heap[w.heap.size]? = some (.stringIter s (i + (Utf8.decode s i).2))) := Lib.iterAt_heap _ _ _ _ _ hk.out
        have hg2 : Hid (G w (wr.iterAt w.heap.size s (i + (Utf8.decode s i).2))) := hg.out.iterAt (Nat.le_refl _) hk.out _
        have HN : Hid (NoDC s (i + (Utf8.decode s i).2)) := hno.out.far hi (by omega)
        clear hk hg hno
        generalize (Utf8.decode s i).1 = rn at hhi hnx
        generalize (Utf8.decode s i).2 = d at hhi hnx hk2 hg2 HN
        obtain ⟨hr1, hd1⟩ := hhi
        generalize wr.iterAt w.heap.size s (i + d) = wn at hnx hk2 hg2
        have hrz : (128 : Int) ≤ (rn : Int) := by omega
        go_wp2_with (go_at_call 35; refine (rune_far _ _ hrz).mono ?_; rintro e w' ⟨rfl, hg3⟩)
        go_roundg (s.size - (i + d))
        case measure => omega
        case rel => exact ⟨i + d, rfl, iter_kept hk2.out hg3, hg2.out.trans hg3, HN⟩
    · have hnx := fun ty => Lib.run_next_end_at (P := Try.prog) wr w.heap.size s i ty hk.out hi
      have HR : Hid (decide (0 ≤ (-1 : Int)) = (hasB s 46 || hasB s 58)) := by unfold Hid; rw [hno.out.end_ hi]; rfl
      clear hk hno
      go_wp2
      go_ret
      exact ⟨_, rfl, HR, hg⟩
theorem indexAny_has (l : List UInt8) : decide (0 ≤ Lib.indexAny l [46, 58]) = (l.contains 46 || l.contains 58) := by
  induction l with
  | nil => rfl
  | cons b l ih =>
    have hge := Lib.indexAny_ge [46, 58] l
    unfold Lib.indexAny
    by_cases h1 : b = 46
    · subst h1; simp
    · by_cases h2 : b = 58
      · subst h2; simp
      · have e1 : ((46 : UInt8) == b) = false := beq_eq_false_iff_ne.2 (Ne.symm h1)
        have e2 : ((58 : UInt8) == b) = false := beq_eq_false_iff_ne.2 (Ne.symm h2)
        have e3 : ([46, 58] : List UInt8).contains b = false := by simp [h1, h2]
        rw [e3, List.contains_cons, List.contains_cons, e1, e2, Bool.false_or, Bool.false_or, ← ih]
        simp only [Bool.false_eq_true, if_false]
        rw [Bool.eq_iff_iff]
        simp only [decide_eq_true_eq]
        by_cases h3 : Lib.indexAny l [46, 58] = -1
        · rw [h3]; simp
        · have h4 : (Lib.indexAny l [46, 58] == -1) = false := beq_eq_false_iff_ne.2 h3
          rw [h4]
          simp only [Bool.false_eq_true, if_false]
          omega

theorem indexAny_any (s : ByteArray) (w : World) (hs : s.size ≤ 4194304) :
    Calls Try.prog 32 #[.string s, .string ⟨#[46, 58]⟩] w fun e w' => ∃ r : Int, e = .returned (.int .i64 r) ∧ Hid (decide (0 ≤ r) = (hasB s 46 || hasB s 58)) ∧ G w w' := by
  by_cases h8 : s.size ≤ 8
  · exact indexAny_short s w h8
  · refine (Try.strings_IndexAny_long (fun w => by kernel_rfl) s ⟨#[46, 58]⟩ w (by show 2 ≤ 2; omega) (by omega) (by omega) (by show 2 < 4294967281; omega) ?_).mono ?_
    · intro j b hb
      have hm : b ∈ ([46, 58] : List UInt8) := List.mem_of_getElem? hb
      simp only [List.mem_cons, List.not_mem_nil, or_false] at hm
      rcases hm with rfl | rfl <;> decide
    · rintro e w' ⟨rfl, rfl⟩
      exact ⟨_, rfl, indexAny_has _, (G.alloc _ _ _).trans (G.alloc _ _ _)⟩

set_option maxHeartbeats 400000 in
theorem containsAny_any (s : ByteArray) (w : World) (hs : s.size ≤ 4194304) :
    Calls Try.prog 28 #[.string s, .string ⟨#[46, 58]⟩] w fun e w' => e = .returned (.bool (hasB s 46 || hasB s 58)) ∧ G w w' := by
  go_enter Try.func28, Try.ntmps28
  go_wp2_with (go_at_call 32; refine (indexAny_any _ _ hs).mono ?_; rintro e w' ⟨r, rfl, hr, hg⟩)
  go_ret
  exact ⟨ret_bool hr.out, hg⟩

/-! ### registryOf at a reference with a slash -/
def likeB (h : ByteArray) : Bool := !(h.toList == dockerL) && (hasB h 46 || hasB h 58 || h.toList == localL)
def regB (h : ByteArray) : ByteArray := if likeB h then h else B hubL

theorem repo_len (l : List UInt8) : (repoL l).length ≤ l.length := by
  have h := bef_len l 64
  unfold repoL stemL
  split
  · rw [List.length_take]; omega
  · exact h

set_option maxHeartbeats 1000000 in
theorem registry_named (s h : ByteArray) (w : World) (hs : s.size ≤ 4194304) (hn : (repoL s.data.toList).contains 47 = true) (hh : befL (repoL s.data.toList) 47 = h.data.toList) (hz : h.size ≤ 4194304) :
    Calls Try.prog 24 #[.string s] w fun e w' => e = .returned (.string (regB h)) ∧ G w w' := by
  have hl := repo_len s.data.toList
  rw [← Lib.size_eq] at hl
  have hr : (B (repoL s.data.toList)).size ≤ maxLen := by rw [B_size]; unfold maxLen; omega
  have Hn : Hid (hasB (B (repoL s.data.toList)) 47 = true) := hn
  have Hh : Hid (befB (B (repoL s.data.toList)) 47 = h) := by
    show B (befL (repoL s.data.toList) 47) = h
    rw [hh]; exact B_data h
  clear hn hl hh
  cases hd : (h.toList == [100, 111, 99, 107, 101, 114, 46, 105, 111]) with
  | true =>
    have HR : Hid (regB h = B hubL) := by
      unfold Hid regB likeB dockerL; rw [hd]; rfl
    go_enter Try.func24, Try.ntmps24
    go_wp2_with fail
    refine (split_any s _ hs).mono ?_
    rintro e w' ⟨rfl, n, rfl⟩
    generalize B (repoL s.data.toList) = r at Hn Hh hr ⊢
    go_wp2_with fail
    refine (cut_one r 47 _ hr).mono ?_
    rintro e w' ⟨rfl, m, rfl⟩
    rw [Hn.out, Hh.out]
    go_wp2
    go_ret
    exact ⟨by rw [HR.out]; rfl, (G.refl _).drewN _⟩
  | false =>
    cases hdc : (hasB h 46 || hasB h 58) with
    | true =>
      have HD : Hid ((hasB h 46 || hasB h 58) = true) := hdc
      have HR : Hid (regB h = h) := by
        unfold Hid regB likeB dockerL; rw [hd, hdc]; rfl
      clear hdc
      go_enter Try.func24, Try.ntmps24
      go_wp2_with fail
      refine (split_any s _ hs).mono ?_
      rintro e w' ⟨rfl, n, rfl⟩
      generalize B (repoL s.data.toList) = r at Hn Hh hr ⊢
      go_wp2_with fail
      refine (cut_one r 47 _ hr).mono ?_
      rintro e w' ⟨rfl, m, rfl⟩
      rw [Hn.out, Hh.out]
      go_wp2_with fail
      refine (containsAny_any h _ hz).mono ?_
      rintro e w' ⟨rfl, hg⟩
      rw [HD.out]
      go_wp2
      go_ret
      exact ⟨by rw [HR.out]; rfl, ((G.refl _).drewN _).trans hg⟩
    | false =>
      have HD : Hid ((hasB h 46 || hasB h 58) = false) := hdc
      cases hlo : (h.toList == [108, 111, 99, 97, 108, 104, 111, 115, 116]) with
      | true =>
        have HR : Hid (regB h = h) := by
          unfold Hid regB likeB dockerL localL; rw [hd, hdc, hlo]; rfl
        clear hdc
        have hlo' : (h.toList != [108, 111, 99, 97, 108, 104, 111, 115, 116]) = false := by simp only [bne, hlo]; rfl
        go_enter Try.func24, Try.ntmps24
        go_wp2_with fail
        refine (split_any s _ hs).mono ?_
        rintro e w' ⟨rfl, n, rfl⟩
        generalize B (repoL s.data.toList) = r at Hn Hh hr ⊢
        go_wp2_with fail
        refine (cut_one r 47 _ hr).mono ?_
        rintro e w' ⟨rfl, m, rfl⟩
        rw [Hn.out, Hh.out]
        go_wp2_with fail
        refine (containsAny_any h _ hz).mono ?_
        rintro e w' ⟨rfl, hg⟩
        rw [HD.out]
        go_wp2
        go_ret
        exact ⟨by rw [HR.out]; rfl, ((G.refl _).drewN _).trans hg⟩
      | false =>
        have HR : Hid (regB h = B hubL) := by
          unfold Hid regB likeB dockerL localL; rw [hd, hdc, hlo]; rfl
        clear hdc
        have hlo' : (h.toList != [108, 111, 99, 97, 108, 104, 111, 115, 116]) = true := by simp only [bne, hlo]; rfl
        go_enter Try.func24, Try.ntmps24
        go_wp2_with fail
        refine (split_any s _ hs).mono ?_
        rintro e w' ⟨rfl, n, rfl⟩
        generalize B (repoL s.data.toList) = r at Hn Hh hr ⊢
        go_wp2_with fail
        refine (cut_one r 47 _ hr).mono ?_
        rintro e w' ⟨rfl, m, rfl⟩
        rw [Hn.out, Hh.out]
        go_wp2_with fail
        refine (containsAny_any h _ hz).mono ?_
        rintro e w' ⟨rfl, hg⟩
        rw [HD.out]
        go_wp2
        go_ret
        exact ⟨by rw [HR.out]; rfl, ((G.refl _).drewN _).trans hg⟩

set_option maxHeartbeats 400000 in
theorem zzRegistry_named (s h : ByteArray) (w : World) (hs : s.size ≤ 4194304) (hn : (repoL s.data.toList).contains 47 = true) (hh : befL (repoL s.data.toList) 47 = h.data.toList) (hz : h.size ≤ 4194304) :
    Calls Try.prog 15 #[.string s] w fun e w' => e = .returned (.string (regB h)) ∧ G w w' := by
  have HN : Hid ((repoL s.data.toList).contains 47 = true) := hn
  have HH : Hid (befL (repoL s.data.toList) 47 = h.data.toList) := hh
  clear hn hh
  go_enter Try.func15, Try.ntmps15
  go_wp2_with (go_at_call 24; refine (registry_named s h _ hs HN.out HH.out hz).mono ?_; rintro e w' ⟨rfl, hg⟩)
  go_ret
  exact ⟨rfl, hg⟩

set_option maxHeartbeats 1000000 in
theorem hostLike_any (h : ByteArray) (w : World) (hz : h.size ≤ maxLen) :
    Calls Try.prog 14 #[.string h] w fun e w' => e = .returned (.bool (likeB h)) ∧ w' = w := by
  cases hd : (h.toList == [100, 111, 99, 107, 101, 114, 46, 105, 111]) with
  | true =>
    have HR : Hid (likeB h = false) := by unfold Hid likeB dockerL; rw [hd]; rfl
    go_enter Try.func14, Try.ntmps14
    go_wp2
    go_ret
    exact ⟨ret_bool HR.out.symm, rfl⟩
  | false =>
    cases p0 : hasB h 46 with
    | true =>
      have P0 : Hid (hasB h 46 = true) := p0
      have HR : Hid (likeB h = true) := by unfold Hid likeB dockerL; rw [hd, p0]; rfl
      clear p0
      go_enter Try.func14, Try.ntmps14
      go_wp2_with fail
      refine (hasByte_any h 46 46 rfl _ hz).mono ?_
      rintro e w' ⟨rfl, rfl⟩
      rw [P0.out]
      go_wp2
      go_ret
      exact ⟨ret_bool HR.out.symm, rfl⟩
    | false =>
      have P0 : Hid (hasB h 46 = false) := p0
      cases p1 : hasB h 58 with
      | true =>
        have P1 : Hid (hasB h 58 = true) := p1
        have HR : Hid (likeB h = true) := by unfold Hid likeB dockerL; rw [hd, p0, p1]; rfl
        clear p0 p1
        go_enter Try.func14, Try.ntmps14
        go_wp2_with fail
        refine (hasByte_any h 46 46 rfl _ hz).mono ?_
        rintro e w' ⟨rfl, rfl⟩
        rw [P0.out]
        go_wp2_with fail
        refine (hasByte_any h 58 58 rfl _ hz).mono ?_
        rintro e w' ⟨rfl, rfl⟩
        rw [P1.out]
        go_wp2
        go_ret
        exact ⟨ret_bool HR.out.symm, rfl⟩
      | false =>
        have P1 : Hid (hasB h 58 = false) := p1
        cases hlo : (h.toList == [108, 111, 99, 97, 108, 104, 111, 115, 116]) with
        | true =>
          have HR : Hid (likeB h = true) := by unfold Hid likeB dockerL localL; rw [hd, p0, p1, hlo]; rfl
          clear p0 p1
          go_enter Try.func14, Try.ntmps14
          go_wp2_with fail
          refine (hasByte_any h 46 46 rfl _ hz).mono ?_
          rintro e w' ⟨rfl, rfl⟩
          rw [P0.out]
          go_wp2_with fail
          refine (hasByte_any h 58 58 rfl _ hz).mono ?_
          rintro e w' ⟨rfl, rfl⟩
          rw [P1.out]
          go_wp2
          go_ret
          exact ⟨ret_bool HR.out.symm, rfl⟩
        | false =>
          have HR : Hid (likeB h = false) := by unfold Hid likeB dockerL localL; rw [hd, p0, p1, hlo]; rfl
          clear p0 p1
          go_enter Try.func14, Try.ntmps14
          go_wp2_with fail
          refine (hasByte_any h 46 46 rfl _ hz).mono ?_
          rintro e w' ⟨rfl, rfl⟩
          rw [P0.out]
          go_wp2_with fail
          refine (hasByte_any h 58 58 rfl _ hz).mono ?_
          rintro e w' ⟨rfl, rfl⟩
          rw [P1.out]
          go_wp2
          go_ret
          exact ⟨ret_bool HR.out.symm, rfl⟩
end Go.Proofs.Qxb6003646a
