/-
  THE STATEMENT 'Rows.FnRegistryOfNamesHostOrHubSaid'. The frame is the kit's shell; the walk is ours.
-/
import Derived.Test.Qxb6003646aRegistry
import Derived.ProofKit
import Derived.OpenShut
import Derived.ShutString
namespace Go.Proofs.Qxb6003646a.fnRegistryOfNamesHostOrHub
open Go.ChangeShapes Go.WideShapes Go.ChangeAt Go.RowKit
open Go.ChangeMaps (open_string shut_string)
set_option linter.unusedVariables false      -- a walk need not use every 'w<i>' (that an integer argument fits its kind)

theorem own : ownKnob Try.prog.godebug = none := by kernel_rfl

/-! ### The walk -/
def within (a b c : ByteArray) : Bool := decide (a.size + b.size + c.size ≤ 1048576)

set_option maxHeartbeats 400000 in
theorem zzBytes_any (a b c : ByteArray) (w : World) (h1 : a.size ≤ maxLen) (h2 : b.size ≤ maxLen) (h3 : c.size ≤ maxLen) :
    Calls Try.prog 13 #[.string a, .string b, .string c] w fun e w' => e = .returned (.bool (within a b c)) ∧ w' = w := by
  unfold maxLen at h1 h2 h3
  go_enter Try.func13, Try.ntmps13
  go_wp2
  all_goals
    go_ret
    refine ⟨?_, rfl⟩
    show Ending.returned (.bool _) = _
    unfold within
    congr 2
    simp
    omega

/-- The ways that return at once. -/
def early (a b c : ByteArray) : Bool := !within a b c || decide (262144 < a.size) || decide (262144 < b.size) || decide (262144 < c.size) || hasB a 47 || hasB a 64 || hasB b 64

set_option maxHeartbeats 2000000 in
theorem walk_early (a0 a1 a2 : ByteArray) (w0 : a0.size ≤ maxLen) (w1 : a1.size ≤ maxLen) (w2 : a2.size ≤ maxLen) (w : World) (he : early a0 a1 a2 = true) :
    Calls Try.prog 5 #[.string a0, .string a1, .string a2] w fun e w' => e = .returned (.bool true) ∧ Grown w w' := by
  cases hw : within a0 a1 a2 with
  | false =>
    have H : Hid (within a0 a1 a2 = false) := hw
    clear hw he
    go_enter Try.func5, Try.ntmps5
    go_wp2_with (go_at_call 13; refine (zzBytes_any _ _ _ _ w0 w1 w2).mono ?_; rintro e w' ⟨rfl, rfl⟩; rw [H.out])
    go_ret
    exact ⟨rfl, Grown.refl _⟩
  | true =>
  have H : Hid (within a0 a1 a2 = true) := hw
  unfold early at he
  rw [hw] at he
  clear hw
  by_cases k0 : 262144 < a0.size
  · clear he
    go_enter Try.func5, Try.ntmps5
    go_wp2_with (go_at_call 13; refine (zzBytes_any _ _ _ _ w0 w1 w2).mono ?_; rintro e w' ⟨rfl, rfl⟩; rw [H.out])
    go_ret
    exact ⟨rfl, Grown.refl _⟩
  have d0 : decide ((262144 : Int) < (a0.size : Int)) = false := decide_eq_false (by omega)
  by_cases k1 : 262144 < a1.size
  · clear he
    go_enter Try.func5, Try.ntmps5
    go_wp2_with (go_at_call 13; refine (zzBytes_any _ _ _ _ w0 w1 w2).mono ?_; rintro e w' ⟨rfl, rfl⟩; rw [H.out])
    go_ret
    exact ⟨rfl, Grown.refl _⟩
  have d1 : decide ((262144 : Int) < (a1.size : Int)) = false := decide_eq_false (by omega)
  by_cases k2 : 262144 < a2.size
  · clear he
    go_enter Try.func5, Try.ntmps5
    go_wp2_with (go_at_call 13; refine (zzBytes_any _ _ _ _ w0 w1 w2).mono ?_; rintro e w' ⟨rfl, rfl⟩; rw [H.out])
    go_ret
    exact ⟨rfl, Grown.refl _⟩
  have d2 : decide ((262144 : Int) < (a2.size : Int)) = false := decide_eq_false (by omega)
  rw [decide_eq_false k0, decide_eq_false k1, decide_eq_false k2] at he
  cases p0 : hasB a0 47 with
  | true =>
    have P0 : Hid (hasB a0 47 = true) := p0
    clear he
    clear p0
    go_enter Try.func5, Try.ntmps5
    go_wp2_with (go_at_call 13; refine (zzBytes_any _ _ _ _ w0 w1 w2).mono ?_; rintro e w' ⟨rfl, rfl⟩; rw [H.out])
    refine (hasByte_any a0 47 47 rfl _ w0).mono ?_
    rintro e w' ⟨rfl, rfl⟩
    rw [P0.out]
    go_wp2
    go_ret
    exact ⟨rfl, Grown.refl _⟩
  | false =>
  have P0 : Hid (hasB a0 47 = false) := p0
  cases p1 : hasB a0 64 with
  | true =>
    have P1 : Hid (hasB a0 64 = true) := p1
    clear he
    clear p0 p1
    go_enter Try.func5, Try.ntmps5
    go_wp2_with (go_at_call 13; refine (zzBytes_any _ _ _ _ w0 w1 w2).mono ?_; rintro e w' ⟨rfl, rfl⟩; rw [H.out])
    refine (hasByte_any a0 47 47 rfl _ w0).mono ?_
    rintro e w' ⟨rfl, rfl⟩
    rw [P0.out]
    go_wp2_with fail
    refine (hasByte_any a0 64 64 rfl _ w0).mono ?_
    rintro e w' ⟨rfl, rfl⟩
    rw [P1.out]
    go_wp2
    go_ret
    exact ⟨rfl, Grown.refl _⟩
  | false =>
  have P1 : Hid (hasB a0 64 = false) := p1
  cases p2 : hasB a1 64 with
  | false =>
    rw [p0, p1, p2] at he
    simp at he
  | true =>
    have P2 : Hid (hasB a1 64 = true) := p2
    clear he
    clear p0 p1 p2
    go_enter Try.func5, Try.ntmps5
    go_wp2_with (go_at_call 13; refine (zzBytes_any _ _ _ _ w0 w1 w2).mono ?_; rintro e w' ⟨rfl, rfl⟩; rw [H.out])
    refine (hasByte_any a0 47 47 rfl _ w0).mono ?_
    rintro e w' ⟨rfl, rfl⟩
    rw [P0.out]
    go_wp2_with fail
    refine (hasByte_any a0 64 64 rfl _ w0).mono ?_
    rintro e w' ⟨rfl, rfl⟩
    rw [P1.out]
    go_wp2_with fail
    refine (hasByte_any a1 64 64 rfl _ w1).mono ?_
    rintro e w' ⟨rfl, rfl⟩
    rw [P2.out]
    go_wp2
    go_ret
    exact ⟨rfl, Grown.refl _⟩

set_option maxHeartbeats 1000000 in
theorem walk_main (a0 a1 a2 : ByteArray) (w0 : a0.size ≤ maxLen) (w1 : a1.size ≤ maxLen) (w2 : a2.size ≤ maxLen) (w : World) (he : early a0 a1 a2 = false) :
    Calls Try.prog 5 #[.string a0, .string a1, .string a2] w fun e w' => e = .returned (.bool true) ∧ Grown w w' := by
  unfold early at he
  simp only [Bool.or_eq_false_iff, Bool.not_eq_false'] at he
  obtain ⟨⟨⟨⟨⟨⟨hw, k0⟩, k1⟩, k2⟩, p0⟩, p1⟩, p2⟩ := he
  have k0 := of_decide_eq_false k0
  have k1 := of_decide_eq_false k1
  have k2 := of_decide_eq_false k2
  have H : Hid (within a0 a1 a2 = true) := hw
  have P0 : Hid (hasB a0 47 = false) := p0
  have P1 : Hid (hasB a0 64 = false) := p1
  have P2 : Hid (hasB a1 64 = false) := p2
  have d0 : decide ((262144 : Int) < (a0.size : Int)) = false := decide_eq_false (by omega)
  have d1 : decide ((262144 : Int) < (a1.size : Int)) = false := decide_eq_false (by omega)
  have d2 : decide ((262144 : Int) < (a2.size : Int)) = false := decide_eq_false (by omega)
  have e1 : (a0 ++ ⟨#[47]⟩ ++ a1).data.toList = a0.data.toList ++ 47 :: a1.data.toList := by simp
  have e2 : (a0 ++ ⟨#[47]⟩ ++ a1 ++ ⟨#[64]⟩ ++ a2).data.toList = (a0.data.toList ++ 47 :: a1.data.toList) ++ 64 :: a2.data.toList := by simp
  obtain ⟨t1, t2⟩ := named_parts a0.data.toList a1.data.toList p0 p1 p2
  have T1 : Hid ((repoL (a0 ++ ⟨#[47]⟩ ++ a1).data.toList).contains 47 = true) := by unfold Hid; rw [e1]; exact t1
  have T2 : Hid (befL (repoL (a0 ++ ⟨#[47]⟩ ++ a1).data.toList) 47 = a0.data.toList) := by unfold Hid; rw [e1]; exact t2
  have T3 : Hid ((repoL (a0 ++ ⟨#[47]⟩ ++ a1 ++ ⟨#[64]⟩ ++ a2).data.toList).contains 47 = true) := by unfold Hid; rw [e2, digest_repo]; exact t1
  have T4 : Hid (befL (repoL (a0 ++ ⟨#[47]⟩ ++ a1 ++ ⟨#[64]⟩ ++ a2).data.toList) 47 = a0.data.toList) := by unfold Hid; rw [e2, digest_repo]; exact t2
  have HS1 : Hid ((a0 ++ ⟨#[47]⟩ ++ a1).size ≤ 4194304) := by unfold Hid; rw [Lib.size_eq, e1, List.length_append, List.length_cons, ← Lib.size_eq, ← Lib.size_eq]; omega
  have HS2 : Hid ((a0 ++ ⟨#[47]⟩ ++ a1 ++ ⟨#[64]⟩ ++ a2).size ≤ 4194304) := by unfold Hid; rw [Lib.size_eq, e2, List.length_append, List.length_cons, List.length_append, List.length_cons, ← Lib.size_eq, ← Lib.size_eq, ← Lib.size_eq]; omega
  have hz : a0.size ≤ 4194304 := by omega
  clear hw p0 p1 p2 e1 e2 t1 t2
  cases hl : likeB a0 with
  | true =>
    have HL : Hid (likeB a0 = true) := hl
    have HR : Hid (regB a0 = a0) := by unfold Hid regB; rw [hl]; rfl
    clear hl
    go_enter Try.func5, Try.ntmps5
    go_wp2_with (go_at_call 13; refine (zzBytes_any _ _ _ _ w0 w1 w2).mono ?_; rintro e w' ⟨rfl, hq⟩; have hq := hq.symm; subst hq; rw [H.out])
    refine (hasByte_any a0 47 47 rfl _ w0).mono ?_
    rintro e w' ⟨rfl, hq⟩
    have hq := hq.symm
    subst hq
    rw [P0.out]
    go_wp2_with fail
    refine (hasByte_any a0 64 64 rfl _ w0).mono ?_
    rintro e w' ⟨rfl, hq⟩
    have hq := hq.symm
    subst hq
    rw [P1.out]
    go_wp2_with fail
    refine (hasByte_any a1 64 64 rfl _ w1).mono ?_
    rintro e w' ⟨rfl, hq⟩
    have hq := hq.symm
    subst hq
    rw [P2.out]
    go_wp2_with fail
    refine (hostLike_any a0 _ w0).mono ?_
    rintro e w' ⟨rfl, hq⟩
    have hq := hq.symm
    subst hq
    rw [HL.out]
    go_wp2_with fail
    refine (zzRegistry_named _ a0 _ HS1.out T1.out T2.out hz).mono ?_
    rintro e w' ⟨rfl, g1⟩
    rw [HR.out]
    go_wp2_with fail
    refine (zzRegistry_named _ a0 _ HS2.out T3.out T4.out hz).mono ?_
    rintro e w'' ⟨rfl, g2⟩
    rw [HR.out]
    go_wp2
    go_ret
    exact ⟨by simp, (g1.trans g2).1⟩
  | false =>
    have HL : Hid (likeB a0 = false) := hl
    have HR : Hid (regB a0 = B hubL) := by unfold Hid regB; rw [hl]; rfl
    have HB : Hid (B hubL = ⟨#[105, 110, 100, 101, 120, 46, 100, 111, 99, 107, 101, 114, 46, 105, 111]⟩) := rfl
    clear hl
    go_enter Try.func5, Try.ntmps5
    go_wp2_with (go_at_call 13; refine (zzBytes_any _ _ _ _ w0 w1 w2).mono ?_; rintro e w' ⟨rfl, hq⟩; have hq := hq.symm; subst hq; rw [H.out])
    refine (hasByte_any a0 47 47 rfl _ w0).mono ?_
    rintro e w' ⟨rfl, hq⟩
    have hq := hq.symm
    subst hq
    rw [P0.out]
    go_wp2_with fail
    refine (hasByte_any a0 64 64 rfl _ w0).mono ?_
    rintro e w' ⟨rfl, hq⟩
    have hq := hq.symm
    subst hq
    rw [P1.out]
    go_wp2_with fail
    refine (hasByte_any a1 64 64 rfl _ w1).mono ?_
    rintro e w' ⟨rfl, hq⟩
    have hq := hq.symm
    subst hq
    rw [P2.out]
    go_wp2_with fail
    refine (hostLike_any a0 _ w0).mono ?_
    rintro e w' ⟨rfl, hq⟩
    have hq := hq.symm
    subst hq
    rw [HL.out]
    go_wp2_with fail
    refine (zzRegistry_named _ a0 _ HS1.out T1.out T2.out hz).mono ?_
    rintro e w' ⟨rfl, g1⟩
    rw [HR.out]
    rw [HB.out]
    go_wp2_with fail
    refine (zzRegistry_named _ a0 _ HS2.out T3.out T4.out hz).mono ?_
    rintro e w'' ⟨rfl, g2⟩
    rw [HR.out]
    rw [HB.out]
    go_wp2
    go_ret
    exact ⟨by simp, (g1.trans g2).1⟩

theorem walk (a0 : ByteArray) (a1 : ByteArray) (a2 : ByteArray) (w0 : a0.size ≤ maxLen) (w1 : a1.size ≤ maxLen) (w2 : a2.size ≤ maxLen) (w : World) :
    Calls Try.prog 5 #[.string a0, .string a1, .string a2] w fun e w' => e = .returned (.bool true) ∧ Grown w w' := by
  cases he : early a0 a1 a2 with
  | true => exact walk_early a0 a1 a2 w0 w1 w2 w he
  | false => exact walk_main a0 a1 a2 w0 w1 w2 w he

/-! ### THE ROW's STEP: WRITTEN OUT: LEAVE IT -/
set_option maxRecDepth 100000 in
theorem lifted (os : Os) (started : os.Started) (H : Type) (enc : TypeId × Value → H) :
    ReturnsInHanded {} Try.checked os 5 .any (Rows.fnRegistryOfNamesHostOrHubSpec.pre6 enc Try.prog Try.f5 Rows.fnRegistryOfNamesHostOrHubRow.domain false) (Rows.fnRegistryOfNamesHostOrHubSpec.post enc Try.prog Try.f5 false true false false) := by
  refine returnsInHanded_of_change (C := Try.checked) own started (by kernel_rfl) Try.func5
    (ChangeSpec.witness6 (enc := enc) (C := Try.checked) false ⟨#[], #[.string ByteArray.empty, .string ByteArray.empty, .string ByteArray.empty], []⟩ 8 (by kernel_rfl) (by kernel_rfl) (by kernel_rfl) (by kernel_rfl)) ?_
  intro W base args ds gs before hval0 hW hcnd _
  have hval : ∀ (j : Nat) t v, Try.f5.params[j]? = some t → args[j]? = some v → Value.okWide Try.prog W .any base t v := hval0
  have hW' := hW
  obtain ⟨p, q, hA0, hV, rfl, hfz, hnd⟩ := hW
  have hA : DataW.TrodAll enc Try.prog W 0 (fun _ => true) true Try.f5.params.toList args.toList ds p := hA0
  rw [Try.params5] at hA hval
  obtain ⟨v0, vs0, d0, ds0, p0, q0, hargs, rfl, rfl, h0, r0⟩ := trodAll_cons hA
  obtain ⟨v1, vs1, d1, ds1, p1, q1, rfl, rfl, rfl, h1, r1⟩ := trodAll_cons r0
  obtain ⟨v2, vs2, d2, ds2, p2, q2, rfl, rfl, rfl, h2, r2⟩ := trodAll_cons r1
  obtain ⟨rfl, rfl, rfl⟩ := trodAll_nil r2
  obtain rfl : args = #[v0, v1, v2] := by cases args; simp_all
  obtain ⟨rfl, rfl⟩ := trodVars_none hV
  obtain ⟨a0, rfl, rfl, rfl, w0⟩ := open_string Try.underlying9 (hval 0 9 v0 rfl rfl) h0
  obtain ⟨a1, rfl, rfl, rfl, w1⟩ := open_string Try.underlying9 (hval 1 9 v1 rfl rfl) h1
  obtain ⟨a2, rfl, rfl, rfl, w2⟩ := open_string Try.underlying9 (hval 2 9 v2 rfl rfl) h2
  clear hA0 hval0
  simp only [List.append_nil] at hW'
  refine (walk a0 a1 a2 w0 w1 w2 W).mono fun e W' ⟨he, hg⟩ => ?_
  subst he
  exact ⟨_, rfl, post_of_same (pa := []) (pv := []) hW' (fun _ _ _ => (trodAll_cons_mk (shut_bool Try.underlying4 _) trodAll_mk0)) (fun sp _ => (trodAll_cons_mk (shut_string Try.underlying9 w0) (trodAll_cons_mk (shut_string Try.underlying9 w1) (trodAll_cons_mk (shut_string Try.underlying9 w2) trodAll_mk0)))) (fun _ _ => rfl) rfl
    (hg.frame _) hg.2.1 (ok_one (by kernel_rfl) rfl (okWide_bool_mk Try.underlying4 _))⟩

theorem over : Rows.fnRegistryOfNamesHostOrHubRow.holds Try.pinned (OpenSpec.ofChange Rows.fnRegistryOfNamesHostOrHubSpec) :=
  OpenClaim.holds_of_wide 5 Try.f5 rfl rfl rfl rfl rfl rfl rfl ⟨rfl, rfl, rfl, rfl, rfl⟩ rfl rfl rfl rfl rfl (by kernel_rfl) Try.func5 (by kernel_rfl)
    (of_decide_eq_true (by kernel_rfl)) (by unfold Func.isWrapper; first | (rw [if_pos (by decide +kernel)]; kernel_rfl) | (rw [if_neg (by decide +kernel)]; exact ⟨rfl, rfl⟩))
    (fun os started H enc _ => lifted os started H enc)

/-- ████ THE STATEMENT ████ -/
theorem proved : Rows.FnRegistryOfNamesHostOrHubSaid :=
  over
#print axioms proved
end Go.Proofs.Qxb6003646a.fnRegistryOfNamesHostOrHub
