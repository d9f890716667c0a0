/-
  THE STATEMENT 'Rows.FnParseExponentModelSaid'. The frame is the kit's shell; the walk is ours.
-/
import Derived.Test.Qxb6600543aModel
import Derived.ProofKit
import Derived.OpenShut
import Derived.ShutString
namespace Go.Proofs.Qxb6600543a.fnParseExponentModel
open Go.ChangeShapes Go.WideShapes Go.ChangeAt Go.RowKit
open Go.ChangeMaps (open_string shut_string)
set_option linter.unusedVariables false      -- a walk need not use every 'w<i>' (that an integer argument fits its kind)

theorem own : ownKnob Try.prog.godebug = none := by kernel_rfl

/-! ### parseExponent and the model give the same -/
def Same (s mark : ByteArray) (r : Int) (b : Bool) : Prop :=
  (b = false → r = 0) ∧ (∀ w, Calls Try.prog 18 #[.string s, .string mark] w fun e w' => e = .returned (.tuple #[.int .i64 r, .bool b]) ∧ w' = w) ∧
  (∀ w, Calls Try.prog 10 #[.string s, .string mark] w fun e w' => e = .returned (.tuple #[.int .i64 r, .bool b]) ∧ ∃ n, w' = w.drewN n)

theorem expoU_zero (n : Bool) (u : List UInt8) (h : (expoU n u).2 = false) : (expoU n u).1 = 0 := by
  unfold expoU at h ⊢
  split
  · rename_i hu; rw [if_pos hu] at h; exact absurd h (by simp)
  · rfl
theorem empty_of (s : ByteArray) (h : ¬ 0 < s.size) : s.toList.isEmpty = true := by
  rw [Lib.toList_data, List.isEmpty_iff]
  apply List.eq_nil_of_length_eq_zero
  rw [← Lib.size_eq]
  omega
theorem nonempty_of (s : ByteArray) (h : 0 < s.size) : s.toList.isEmpty = false := by
  rw [Lib.toList_data]
  cases hl : s.data.toList with
  | nil => rw [Lib.size_eq, hl] at h; simp at h
  | cons _ _ => rfl
theorem tail_size (s : ByteArray) : (s.extract 1 s.size).size = s.size - 1 := by
  rw [Lib.size_eq, Lib.extract_to_end, List.length_drop, ← Lib.size_eq]
theorem tail_head (s t : ByteArray) (ht : s.extract 1 s.size = t) (h1 : 1 < s.size) (h : 0 < t.size) : t[0] = s[1] := by
  have e : t.data.toList = s.data.toList.drop 1 := by rw [← ht]; exact Lib.extract_to_end s 1
  have h2 : t.data.toList[0]? = some t[0] := Lib.data_getElem? t 0 h
  rw [e, List.getElem?_drop, Lib.data_getElem? s 1 h1] at h2
  exact (Option.some.inj h2).symm

theorem same (s mark : ByteArray) (hs : s.size ≤ 1048576) (hm : mark.size ≤ 1048576) : ∃ r b, Same s mark r b := by
  have hmm : mark.size ≤ maxLen := by unfold maxLen; omega
  by_cases h0 : 0 < s.size
  · have hse := nonempty_of s h0
    have hse2 : ((s.size : Int) == 0) = false := beq_eq_false_iff_ne.2 (by omega)
    have hix := indexByte_neg mark.data.toList s[0]
    cases hc : mark.data.toList.contains s[0] with
    | false =>
      rw [hc] at hix
      exact ⟨0, false, fun _ => rfl, fun w => parse_unmarked s mark w h0 (by simpa using hix) hse, fun w => model_unmarked s mark w hmm h0 hse2 hc⟩
    | true =>
      rw [hc] at hix
      have hi : ¬ Lib.indexByte mark.data.toList s[0] < 0 := by simpa using hix
      obtain ⟨t, ht⟩ : ∃ t, s.extract 1 s.size = t := ⟨_, rfl⟩
      have hts : t.size = s.size - 1 := by rw [← ht]; exact tail_size s
      by_cases h1 : 1 < s.size
      · have ht0 : 0 < t.size := by omega
        have hte := nonempty_of t ht0
        have e1 := tail_head s t ht h1 ht0
        have hl : t.data.toList = cutAt s.data.toList 1 := by rw [← ht]; exact Lib.extract_to_end s 1
        obtain ⟨u, hu⟩ : ∃ u, t.extract 1 t.size = u := ⟨_, rfl⟩
        have hus : u.size = t.size - 1 := by rw [← hu]; exact tail_size t
        have hl2 : u.data.toList = cutAt s.data.toList 2 := by
          have : u.data.toList = t.data.toList.drop 1 := by rw [← hu]; exact Lib.extract_to_end t 1
          rw [this, hl]; unfold cutAt; rw [List.drop_drop]
        cases g45 : (((s[1].toNat : Nat) : Int) == 45) with
        | true =>
          have g43 : (((s[1].toNat : Nat) : Int) == 43) = false := by
            rw [beq_eq_false_iff_ne]; have := beq_iff_eq.1 g45; omega
          have t45 : (((t[0].toNat : Nat) : Int) == 45) = true := by rw [e1]; exact g45
          by_cases h2 : 2 < s.size
          · refine ⟨(expoU true (cutAt s.data.toList 2)).1, (expoU true (cutAt s.data.toList 2)).2, expoU_zero _ _, fun w => ?_, fun w => model_minus s mark w hmm h0 hse2 hc h1 hs h2 g43 g45⟩
            rw [← hl2]
            exact parse_minus s mark t u w h0 ht ht0 hu (by omega) hi hte hse t45 (nonempty_of u (by omega))
          · exact ⟨0, false, fun _ => rfl, fun w => parse_minus_bare s mark t u w h0 ht ht0 hu hi hte hse t45 (empty_of u (by omega)), fun w => model_minus_bare s mark w hmm h0 hse2 hc h1 (by omega) g43 g45⟩
        | false =>
          have t45 : (((t[0].toNat : Nat) : Int) == 45) = false := by rw [e1]; exact g45
          cases g43 : (((s[1].toNat : Nat) : Int) == 43) with
          | true =>
            have t43 : (((t[0].toNat : Nat) : Int) == 43) = true := by rw [e1]; exact g43
            by_cases h2 : 2 < s.size
            · refine ⟨(expoU false (cutAt s.data.toList 2)).1, (expoU false (cutAt s.data.toList 2)).2, expoU_zero _ _, fun w => ?_, fun w => model_plus s mark w hmm h0 hse2 hc h1 hs h2 g43 g45⟩
              rw [← hl2]
              exact parse_plus s mark t u w h0 ht ht0 hu (by omega) hi hte hse t45 t43 (nonempty_of u (by omega))
            · exact ⟨0, false, fun _ => rfl, fun w => parse_plus_bare s mark t u w h0 ht ht0 hu hi hte hse t45 t43 (empty_of u (by omega)), fun w => model_plus_bare s mark w hmm h0 hse2 hc h1 (by omega) g43 g45⟩
          | false =>
            have t43 : (((t[0].toNat : Nat) : Int) == 43) = false := by rw [e1]; exact g43
            refine ⟨(expoU false (cutAt s.data.toList 1)).1, (expoU false (cutAt s.data.toList 1)).2, expoU_zero _ _, fun w => ?_, fun w => model_none s mark w hmm h0 hse2 hc h1 hs g43 g45⟩
            rw [← hl]
            exact parse_none s mark t w h0 ht ht0 (by omega) hi hte hse t45 t43
      · exact ⟨0, false, fun _ => rfl, fun w => parse_short s mark t w h0 ht hi (empty_of t (by omega)) hse, fun w => model_short s mark w hmm h0 hse2 hc (by omega)⟩
  · exact ⟨0, true, fun h => absurd h (by simp), fun w => parse_empty s mark w (empty_of s h0), fun w => model_empty s mark w (beq_iff_eq.2 (by omega))⟩

set_option maxHeartbeats 400000 in
theorem zzParse_of {s mark : ByteArray} {r : Int} {b : Bool} (h : Same s mark r b) (w : World) :
    Calls Try.prog 9 #[.string s, .string mark] w fun e w' => e = .returned (.tuple #[.int .i64 r, .bool b]) ∧ w' = w := by
  go_enter Try.func9, Try.ntmps9
  go_wp2_with (go_at_call 18; refine (h.2.1 _).mono ?_; rintro e w' ⟨rfl, rfl⟩)
  go_ret2
  exact ⟨rfl, rfl⟩

/-! ### The walk -/
def within (a b : ByteArray) : Bool := decide (a.size + b.size ≤ 1048576)

set_option maxHeartbeats 400000 in
theorem zzBytes_any (a b : ByteArray) (w : World) (h1 : a.size ≤ maxLen) (h2 : b.size ≤ maxLen) :
    Calls Try.prog 8 #[.string a, .string b] w fun e w' => e = .returned (.bool (within a b)) ∧ w' = w := by
  unfold maxLen at h1 h2
  go_enter Try.func8, Try.ntmps8
  go_wp2
  all_goals
    go_ret
    refine ⟨?_, rfl⟩
    show Ending.returned (.bool _) = _
    unfold within
    congr 2
    simp
    omega

theorem grown_drewN {a w : World} (h : Grown a w) : ∀ n, Grown a (w.drewN n)
  | 0 => h
  | n + 1 => (grown_drewN h n).drew

set_option maxHeartbeats 1000000 in
theorem walk (a0 : ByteArray) (a1 : ByteArray) (w0 : a0.size ≤ maxLen) (w1 : a1.size ≤ maxLen) (w : World) :
    Calls Try.prog 3 #[.string a0, .string a1] w fun e w' => e = .returned (.bool true) ∧ Grown w w' := by
  cases hw : within a0 a1 with
  | false =>
    have H : Hid (within a0 a1 = false) := hw
    clear hw
    go_enter Try.func3, Try.ntmps3
    go_wp2_with (go_at_call 8; refine (zzBytes_any _ _ _ w0 w1).mono ?_; rintro e w' ⟨rfl, rfl⟩; rw [H.out])
    go_ret
    exact ⟨rfl, Grown.refl _⟩
  | true =>
    have H : Hid (within a0 a1 = true) := hw
    have hb : a0.size + a1.size ≤ 1048576 := of_decide_eq_true hw
    clear hw
    have d0 : decide ((1048576 : Int) < (a0.size : Int)) = false := decide_eq_false (by omega)
    have d1 : decide ((1048576 : Int) < (a1.size : Int)) = false := decide_eq_false (by omega)
    have d2 : decide ((1048576 : Int) < (a0.size : Int) + (a1.size : Int)) = false := decide_eq_false (by omega)
    obtain ⟨r, b, hS⟩ := same a0 a1 (by omega) (by omega)
    cases b with
    | false =>
      have hr : r = 0 := hS.1 rfl
      subst hr
      go_enter Try.func3, Try.ntmps3
      go_wp2_with (go_at_call 8; refine (zzBytes_any _ _ _ w0 w1).mono ?_; rintro e w' ⟨rfl, hq⟩; have hq := hq.symm; subst hq; rw [H.out])
      refine (zzParse_of hS _).mono ?_
      rintro e w' ⟨rfl, hq⟩
      have hq := hq.symm
      subst hq
      go_wp2_with fail
      refine (hS.2.2 _).mono ?_
      rintro e w' ⟨rfl, n, rfl⟩
      go_wp2
      go_ret
      exact ⟨rfl, grown_drewN (Grown.refl _) _⟩
    | true =>
      go_enter Try.func3, Try.ntmps3
      go_wp2_with (go_at_call 8; refine (zzBytes_any _ _ _ w0 w1).mono ?_; rintro e w' ⟨rfl, hq⟩; have hq := hq.symm; subst hq; rw [H.out])
      refine (zzParse_of hS _).mono ?_
      rintro e w' ⟨rfl, hq⟩
      have hq := hq.symm
      subst hq
      go_wp2_with fail
      refine (hS.2.2 _).mono ?_
      rintro e w' ⟨rfl, n, rfl⟩
      go_wp2
      go_ret
      exact ⟨by simp, grown_drewN (Grown.refl _) _⟩

/-! ### THE ROW's STEP: WRITTEN OUT: LEAVE IT -/
set_option maxRecDepth 100000 in
theorem lifted (os : Os) (started : os.Started) (H : Type) (enc : TypeId × Value → H) :
    ReturnsInHanded {} Try.checked os 3 .any (Rows.fnParseExponentModelSpec.pre6 enc Try.prog Try.f3 Rows.fnParseExponentModelRow.domain false) (Rows.fnParseExponentModelSpec.post enc Try.prog Try.f3 false true false false) := by
  refine returnsInHanded_of_change (C := Try.checked) own started (by kernel_rfl) Try.func3
    (ChangeSpec.witness6 (enc := enc) (C := Try.checked) false ⟨#[], #[.string ByteArray.empty, .string ByteArray.empty], []⟩ 8 (by kernel_rfl) (by kernel_rfl) (by kernel_rfl) (by kernel_rfl)) ?_
  intro W base args ds gs before hval0 hW hcnd _
  have hval : ∀ (j : Nat) t v, Try.f3.params[j]? = some t → args[j]? = some v → Value.okWide Try.prog W .any base t v := hval0
  have hW' := hW
  obtain ⟨p, q, hA0, hV, rfl, hfz, hnd⟩ := hW
  have hA : DataW.TrodAll enc Try.prog W 0 (fun _ => true) true Try.f3.params.toList args.toList ds p := hA0
  rw [Try.params3] at hA hval
  obtain ⟨v0, vs0, d0, ds0, p0, q0, hargs, rfl, rfl, h0, r0⟩ := trodAll_cons hA
  obtain ⟨v1, vs1, d1, ds1, p1, q1, rfl, rfl, rfl, h1, r1⟩ := trodAll_cons r0
  obtain ⟨rfl, rfl, rfl⟩ := trodAll_nil r1
  obtain rfl : args = #[v0, v1] := by cases args; simp_all
  obtain ⟨rfl, rfl⟩ := trodVars_none hV
  obtain ⟨a0, rfl, rfl, rfl, w0⟩ := open_string Try.underlying9 (hval 0 9 v0 rfl rfl) h0
  obtain ⟨a1, rfl, rfl, rfl, w1⟩ := open_string Try.underlying9 (hval 1 9 v1 rfl rfl) h1
  clear hA0 hval0
  simp only [List.append_nil] at hW'
  refine (walk a0 a1 w0 w1 W).mono fun e W' ⟨he, hg⟩ => ?_
  subst he
  exact ⟨_, rfl, post_of_same (pa := []) (pv := []) hW' (fun _ _ _ => (trodAll_cons_mk (shut_bool Try.underlying4 _) trodAll_mk0)) (fun sp _ => (trodAll_cons_mk (shut_string Try.underlying9 w0) (trodAll_cons_mk (shut_string Try.underlying9 w1) trodAll_mk0))) (fun _ _ => rfl) rfl
    (hg.frame _) hg.2.1 (ok_one (by kernel_rfl) rfl (okWide_bool_mk Try.underlying4 _))⟩

theorem over : Rows.fnParseExponentModelRow.holds Try.pinned (OpenSpec.ofChange Rows.fnParseExponentModelSpec) :=
  OpenClaim.holds_of_wide 3 Try.f3 rfl rfl rfl rfl rfl rfl rfl ⟨rfl, rfl, rfl, rfl, rfl⟩ rfl rfl rfl rfl rfl (by kernel_rfl) Try.func3 (by kernel_rfl)
    (of_decide_eq_true (by kernel_rfl)) (by unfold Func.isWrapper; first | (rw [if_pos (by decide +kernel)]; kernel_rfl) | (rw [if_neg (by decide +kernel)]; exact ⟨rfl, rfl⟩))
    (fun os started H enc _ => lifted os started H enc)

/-- ████ THE STATEMENT ████ -/
theorem proved : Rows.FnParseExponentModelSaid :=
  over
#print axioms proved
end Go.Proofs.Qxb6600543a.fnParseExponentModel
