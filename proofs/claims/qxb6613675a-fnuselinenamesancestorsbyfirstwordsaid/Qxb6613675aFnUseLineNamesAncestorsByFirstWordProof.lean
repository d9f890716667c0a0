/-
  THE STATEMENT 'Rows.FnUseLineNamesAncestorsByFirstWordSaid'. The frame is the kit's shell; the walk is ours.
-/
import Derived.Test.Qxb6613675aCmd
import Derived.ProofKit
import Derived.OpenShut
import Derived.ShutString
namespace Go.Proofs.Qxb6613675a.fnUseLineNamesAncestorsByFirstWord
open Go.ChangeShapes Go.WideShapes Go.ChangeAt Go.RowKit
open Go.ChangeMaps (open_string shut_string)
set_option linter.unusedVariables false      -- a walk need not use every 'w<i>' (that an integer argument fits its kind)

theorem own : ownKnob Try.prog.godebug = none := by kernel_rfl

/-! ### The plain law -/
theorem line_same (g p q u : ByteArray) (h : befB p 32 = befB q 32) : lineOf g p u = lineOf g q u := by unfold lineOf; rw [h]
theorem data_append (a b : ByteArray) : (a ++ b).data.toList = a.data.toList ++ b.data.toList := by simp
theorem line_apart (g p q u : ByteArray) (h : befB p 32 ≠ befB q 32) : lineOf g p u ≠ lineOf g q u := by
  intro e
  apply h
  have e2 := congrArg (fun x : ByteArray => x.data.toList) e
  unfold lineOf at e2
  simp only [data_append, List.append_assoc] at e2
  have e3 := List.append_cancel_left (List.append_cancel_left e2)
  have e4 := List.append_cancel_right e3
  rw [← Lib.mk_data (befB p 32), e4, Lib.mk_data]

theorem eq_beq {a b : ByteArray} (h : a = b) : (a.toList == b.toList) = true := by rw [h]; simp
theorem ne_beq {a b : ByteArray} (h : a ≠ b) : (a.toList == b.toList) = false := by
  rw [beq_eq_false_iff_ne]
  intro e
  rw [Lib.toList_data, Lib.toList_data] at e
  exact h (by rw [← Lib.mk_data a, e, Lib.mk_data])

/-! ### The walk -/
set_option maxHeartbeats 400000 in
theorem walk_long (a0 a1 a2 a3 : ByteArray) (w0 : a0.size ≤ maxLen) (w1 : a1.size ≤ maxLen) (w2 : a2.size ≤ maxLen) (w3 : a3.size ≤ maxLen) (w : World) (h : within a0 a1 a2 a3 = false) :
    Calls Try.prog 3 #[.string a0, .string a1, .string a2, .string a3] w fun e w' => e = .returned (.bool true) ∧ Grown w w' := by
  have H : Hid (within a0 a1 a2 a3 = false) := h
  clear h
  go_enter Try.func3, Try.ntmps3
  go_wp2_with (go_at_call 4; refine (zzBytes_any _ _ _ _ _ w0 w1 w2 w3).mono ?_; rintro e w' ⟨rfl, rfl⟩; rw [H.out])
  go_ret
  exact ⟨rfl, Grown.refl _⟩

set_option maxHeartbeats 400000 in
theorem walk_wide (a0 a1 a2 a3 : ByteArray) (w0 : a0.size ≤ maxLen) (w1 : a1.size ≤ maxLen) (w2 : a2.size ≤ maxLen) (w3 : a3.size ≤ maxLen) (w : World) (h : within a0 a1 a2 a3 = true)
    (hw : 65536 < a0.size ∨ 65536 < a1.size ∨ 65536 < a2.size ∨ 65536 < a3.size) :
    Calls Try.prog 3 #[.string a0, .string a1, .string a2, .string a3] w fun e w' => e = .returned (.bool true) ∧ Grown w w' := by
  have H : Hid (within a0 a1 a2 a3 = true) := h
  clear h
  by_cases k0 : 65536 < a0.size
  · go_enter Try.func3, Try.ntmps3
    go_wp2_with (go_at_call 4; refine (zzBytes_any _ _ _ _ _ w0 w1 w2 w3).mono ?_; rintro e w' ⟨rfl, rfl⟩; rw [H.out])
    go_ret
    exact ⟨rfl, Grown.refl _⟩
  by_cases k1 : 65536 < a1.size
  · go_enter Try.func3, Try.ntmps3
    go_wp2_with (go_at_call 4; refine (zzBytes_any _ _ _ _ _ w0 w1 w2 w3).mono ?_; rintro e w' ⟨rfl, rfl⟩; rw [H.out])
    go_ret
    exact ⟨rfl, Grown.refl _⟩
  by_cases k2 : 65536 < a2.size
  · go_enter Try.func3, Try.ntmps3
    go_wp2_with (go_at_call 4; refine (zzBytes_any _ _ _ _ _ w0 w1 w2 w3).mono ?_; rintro e w' ⟨rfl, rfl⟩; rw [H.out])
    go_ret
    exact ⟨rfl, Grown.refl _⟩
  have k3 : 65536 < a3.size := by omega
  clear hw
  go_enter Try.func3, Try.ntmps3
  go_wp2_with (go_at_call 4; refine (zzBytes_any _ _ _ _ _ w0 w1 w2 w3).mono ?_; rintro e w' ⟨rfl, rfl⟩; rw [H.out])
  go_ret
  exact ⟨rfl, Grown.refl _⟩

set_option maxHeartbeats 1000000 in
theorem walk_main (a0 a1 a2 a3 : ByteArray) (w : World) (h : within a0 a1 a2 a3 = true)
    (k0 : a0.size ≤ 65536) (k1 : a1.size ≤ 65536) (k2 : a2.size ≤ 65536) (k3 : a3.size ≤ 65536) :
    Calls Try.prog 3 #[.string a0, .string a1, .string a2, .string a3] w fun e w' => e = .returned (.bool true) ∧ Grown w w' := by
  have H : Hid (within a0 a1 a2 a3 = true) := h
  clear h
  have b0 := befB_size a0 32
  have b1 := befB_size a1 32
  have b2 := befB_size a2 32
  have m0 : a0.size ≤ maxLen := by unfold maxLen; omega
  have m1 : a1.size ≤ maxLen := by unfold maxLen; omega
  have m2 : a2.size ≤ maxLen := by unfold maxLen; omega
  have m3 : a3.size ≤ maxLen := by unfold maxLen; omega
  go_enter Try.func3, Try.ntmps3
  go_wp2_with (go_at_call 4; refine (zzBytes_any _ _ _ _ _ m0 m1 m2 m3).mono ?_; rintro e w' ⟨rfl, hq⟩; have hq := hq.symm; subst hq; rw [H.out])
  refine (new_any a0 _ _).mono ?_
  rintro e w1 ⟨r, rfl, c1, g1⟩
  go_wp2_with fail
  refine (new_any a1 _ _).mono ?_
  rintro e w2 ⟨b, rfl, c2, g2⟩
  go_wp2_with fail
  refine (new_any a3 _ _).mono ?_
  rintro e w3 ⟨c, rfl, c3, g3⟩
  go_wp2_with fail
  refine (new_any a2 _ _).mono ?_
  rintro e w4 ⟨b', rfl, c4, g4⟩
  go_wp2_with fail
  refine (new_any a3 _ _).mono ?_
  rintro e w5 ⟨c', rfl, c5, g5⟩
  go_wp2_with fail
  refine (zzUseLine_sub a3 a1 a0 c b r _ k3 k1 k0 ((c3.kept g4).kept g5) (((c2.kept g3).kept g4).kept g5) ((((c1.kept g2).kept g3).kept g4).kept g5)).mono ?_
  rintro e w6 ⟨rfl, n, rfl⟩
  go_wp2_with fail
  refine (zzUseLine_sub a3 a2 a0 c' b' r _ k3 k2 k0 (c5.drewN n) ((c4.kept g5).drewN n) (((((c1.kept g2).kept g3).kept g4).kept g5).drewN n)).mono ?_
  rintro e w7 ⟨rfl, m, rfl⟩
  have gg : G w ((w5.drewN n).drewN m) := (((((g1.trans g2).trans g3).trans g4).trans g5).drewN n).drewN m
  clear c1 c2 c3 c4 c5 g1 g2 g3 g4 g5
  generalize ((w5.drewN n).drewN m) = wz at gg ⊢
  have E1 : ((lineOf a0 a1 a3).toList == (befB a0 32 ++ ⟨#[32]⟩ ++ befB a1 32 ++ ⟨#[32]⟩ ++ a3 ++ ⟨#[32, 91, 102, 108, 97, 103, 115, 93]⟩).toList) = true := eq_beq rfl
  by_cases hp : befB a1 32 = befB a2 32
  · have E2 : ((lineOf a0 a1 a3).toList == (lineOf a0 a2 a3).toList) = true := eq_beq (line_same _ _ _ _ hp)
    have E3 : ((befB a1 32).toList == (befB a2 32).toList) = true := eq_beq hp
    clear hp
    go_wp2_with fail
    refine (firstWord_any a0 _ m0).mono ?_
    rintro e wy ⟨rfl, rfl⟩
    go_wp2_with fail
    refine (firstWord_any a1 _ m1).mono ?_
    rintro e wx ⟨rfl, rfl⟩
    go_wp2_with fail
    refine (firstWord_any a1 _ m1).mono ?_
    rintro e wv ⟨rfl, rfl⟩
    go_wp2_with fail
    refine (firstWord_any a2 _ m2).mono ?_
    rintro e wu ⟨rfl, rfl⟩
    go_wp2
    go_ret
    exact ⟨rfl, gg.1⟩
  · have E2 : ((lineOf a0 a1 a3).toList == (lineOf a0 a2 a3).toList) = false := ne_beq (line_apart _ _ _ _ hp)
    have E3 : ((befB a1 32).toList == (befB a2 32).toList) = false := ne_beq hp
    clear hp
    go_wp2_with fail
    refine (firstWord_any a0 _ m0).mono ?_
    rintro e wy ⟨rfl, rfl⟩
    go_wp2_with fail
    refine (firstWord_any a1 _ m1).mono ?_
    rintro e wx ⟨rfl, rfl⟩
    go_wp2_with fail
    refine (firstWord_any a1 _ m1).mono ?_
    rintro e wv ⟨rfl, rfl⟩
    go_wp2_with fail
    refine (firstWord_any a2 _ m2).mono ?_
    rintro e wu ⟨rfl, rfl⟩
    go_wp2
    go_ret
    exact ⟨rfl, gg.1⟩

theorem walk (a0 : ByteArray) (a1 : ByteArray) (a2 : ByteArray) (a3 : ByteArray) (w0 : a0.size ≤ maxLen) (w1 : a1.size ≤ maxLen) (w2 : a2.size ≤ maxLen) (w3 : a3.size ≤ maxLen) (w : World) :
    Calls Try.prog 3 #[.string a0, .string a1, .string a2, .string a3] w fun e w' => e = .returned (.bool true) ∧ Grown w w' := by
  cases h : within a0 a1 a2 a3 with
  | false => exact walk_long a0 a1 a2 a3 w0 w1 w2 w3 w h
  | true =>
    by_cases hw : 65536 < a0.size ∨ 65536 < a1.size ∨ 65536 < a2.size ∨ 65536 < a3.size
    · exact walk_wide a0 a1 a2 a3 w0 w1 w2 w3 w h hw
    · exact walk_main a0 a1 a2 a3 w h (by omega) (by omega) (by omega) (by omega)

/-! ### THE ROW's STEP: WRITTEN OUT: LEAVE IT -/
set_option maxRecDepth 100000 in
theorem lifted (os : Os) (started : os.Started) (H : Type) (enc : TypeId × Value → H) :
    ReturnsInHanded {} Try.checked os 3 .any (Rows.fnUseLineNamesAncestorsByFirstWordSpec.pre6 enc Try.prog Try.f3 Rows.fnUseLineNamesAncestorsByFirstWordRow.domain false) (Rows.fnUseLineNamesAncestorsByFirstWordSpec.post enc Try.prog Try.f3 false true false false) := by
  refine returnsInHanded_of_change (C := Try.checked) own started (by kernel_rfl) Try.func3
    (ChangeSpec.witness6 (enc := enc) (C := Try.checked) false ⟨#[], #[.string ByteArray.empty, .string ByteArray.empty, .string ByteArray.empty, .string ByteArray.empty], []⟩ 8 (by kernel_rfl) (by kernel_rfl) (by kernel_rfl) (by kernel_rfl)) ?_
  intro W base args ds gs before hval0 hW hcnd _
  have hval : ∀ (j : Nat) t v, Try.f3.params[j]? = some t → args[j]? = some v → Value.okWide Try.prog W .any base t v := hval0
  have hW' := hW
  obtain ⟨p, q, hA0, hV, rfl, hfz, hnd⟩ := hW
  have hA : DataW.TrodAll enc Try.prog W 0 (fun _ => true) true Try.f3.params.toList args.toList ds p := hA0
  rw [Try.params3] at hA hval
  obtain ⟨v0, vs0, d0, ds0, p0, q0, hargs, rfl, rfl, h0, r0⟩ := trodAll_cons hA
  obtain ⟨v1, vs1, d1, ds1, p1, q1, rfl, rfl, rfl, h1, r1⟩ := trodAll_cons r0
  obtain ⟨v2, vs2, d2, ds2, p2, q2, rfl, rfl, rfl, h2, r2⟩ := trodAll_cons r1
  obtain ⟨v3, vs3, d3, ds3, p3, q3, rfl, rfl, rfl, h3, r3⟩ := trodAll_cons r2
  obtain ⟨rfl, rfl, rfl⟩ := trodAll_nil r3
  obtain rfl : args = #[v0, v1, v2, v3] := by cases args; simp_all
  obtain ⟨rfl, rfl⟩ := trodVars_none hV
  obtain ⟨a0, rfl, rfl, rfl, w0⟩ := open_string Try.underlying9 (hval 0 9 v0 rfl rfl) h0
  obtain ⟨a1, rfl, rfl, rfl, w1⟩ := open_string Try.underlying9 (hval 1 9 v1 rfl rfl) h1
  obtain ⟨a2, rfl, rfl, rfl, w2⟩ := open_string Try.underlying9 (hval 2 9 v2 rfl rfl) h2
  obtain ⟨a3, rfl, rfl, rfl, w3⟩ := open_string Try.underlying9 (hval 3 9 v3 rfl rfl) h3
  clear hA0 hval0
  simp only [List.append_nil] at hW'
  refine (walk a0 a1 a2 a3 w0 w1 w2 w3 W).mono fun e W' ⟨he, hg⟩ => ?_
  subst he
  exact ⟨_, rfl, post_of_same (pa := []) (pv := []) hW' (fun _ _ _ => (trodAll_cons_mk (shut_bool Try.underlying4 _) trodAll_mk0)) (fun sp _ => (trodAll_cons_mk (shut_string Try.underlying9 w0) (trodAll_cons_mk (shut_string Try.underlying9 w1) (trodAll_cons_mk (shut_string Try.underlying9 w2) (trodAll_cons_mk (shut_string Try.underlying9 w3) trodAll_mk0))))) (fun _ _ => rfl) rfl
    (hg.frame _) hg.2.1 (ok_one (by kernel_rfl) rfl (okWide_bool_mk Try.underlying4 _))⟩

theorem over : Rows.fnUseLineNamesAncestorsByFirstWordRow.holds Try.pinned (OpenSpec.ofChange Rows.fnUseLineNamesAncestorsByFirstWordSpec) :=
  OpenClaim.holds_of_wide 3 Try.f3 rfl rfl rfl rfl rfl rfl rfl ⟨rfl, rfl, rfl, rfl, rfl⟩ rfl rfl rfl rfl rfl (by kernel_rfl) Try.func3 (by kernel_rfl)
    (of_decide_eq_true (by kernel_rfl)) (by unfold Func.isWrapper; first | (rw [if_pos (by decide +kernel)]; kernel_rfl) | (rw [if_neg (by decide +kernel)]; exact ⟨rfl, rfl⟩))
    (fun os started H enc _ => lifted os started H enc)

/-- ████ THE STATEMENT ████ -/
theorem proved : Rows.FnUseLineNamesAncestorsByFirstWordSaid :=
  over
#print axioms proved
end Go.Proofs.Qxb6613675a.fnUseLineNamesAncestorsByFirstWord
