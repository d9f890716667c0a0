/-
  THE STATEMENT 'Rows.FnRegistryOfBareNameIsHubSaid'. The frame is the kit's shell; the walk is ours.
-/
import Derived.Test.Qxb6003646aSplit
import Derived.ProofKit
import Derived.OpenShut
import Derived.ShutString
namespace Go.Proofs.Qxb6003646a.fnRegistryOfBareNameIsHub
open Go.ChangeShapes Go.WideShapes Go.ChangeAt Go.RowKit
open Go.ChangeMaps (open_string shut_string)
set_option linter.unusedVariables false      -- a walk need not use every 'w<i>' (that an integer argument fits its kind)

theorem own : ownKnob Try.prog.godebug = none := by kernel_rfl

/-! ### registryOf at a reference without a slash -/
theorem repo_len (l : List UInt8) : (repoL l).length ≤ l.length := by
  have h := bef_len l 64
  unfold repoL stemL
  split
  · rw [List.length_take]; omega
  · exact h

set_option maxHeartbeats 400000 in
theorem registry_bare (s : ByteArray) (w : World) (hs : s.size ≤ 4194304) (hn : (repoL s.data.toList).contains 47 = false) :
    Calls Try.prog 24 #[.string s] w fun e w' => e = .returned (.string (B hubL)) ∧ ∃ n, w' = w.drewN n := by
  have hl := repo_len s.data.toList
  rw [← Lib.size_eq] at hl
  have hr : (B (repoL s.data.toList)).size ≤ maxLen := by rw [B_size]; unfold maxLen; omega
  have Hn : Hid (hasB (B (repoL s.data.toList)) 47 = false) := hn
  clear hn hl
  go_enter Try.func24, Try.ntmps24
  go_wp2_with fail
  refine (split_any s _ hs).mono ?_
  rintro e w' ⟨rfl, n, rfl⟩
  generalize B (repoL s.data.toList) = r at Hn hr ⊢
  go_wp2_with fail
  refine (cut_one r 47 _ hr).mono ?_
  rintro e w' ⟨rfl, m, rfl⟩
  rw [Hn.out]
  go_wp2
  go_ret
  exact ⟨rfl, n + m, rfl⟩

set_option maxHeartbeats 400000 in
theorem zzRegistry_bare (s : ByteArray) (w : World) (hs : s.size ≤ 4194304) (hn : (repoL s.data.toList).contains 47 = false) :
    Calls Try.prog 15 #[.string s] w fun e w' => e = .returned (.string (B hubL)) ∧ ∃ n, w' = w.drewN n := by
  go_enter Try.func15, Try.ntmps15
  go_wp2_with (go_at_call 24; refine (registry_bare s _ hs hn).mono ?_; rintro e w' ⟨rfl, n, rfl⟩)
  go_ret
  exact ⟨rfl, n, rfl⟩

/-! ### The walk -/
def within (a b : ByteArray) : Bool := decide (a.size + b.size ≤ 1048576)

set_option maxHeartbeats 400000 in
theorem zzBytes_any (a b : ByteArray) (w : World) (h1 : a.size ≤ maxLen) (h2 : b.size ≤ maxLen) :
    Calls Try.prog 16 #[.string a, .string b] w fun e w' => e = .returned (.bool (within a b)) ∧ w' = w := by
  unfold maxLen at h1 h2
  go_enter Try.func16, Try.ntmps16
  go_wp2
  all_goals
    go_ret
    refine ⟨?_, rfl⟩
    show Ending.returned (.bool _) = _
    unfold within
    congr 2
    simp
    omega

set_option maxHeartbeats 1000000 in
theorem walk (a0 : ByteArray) (a1 : ByteArray) (w0 : a0.size ≤ maxLen) (w1 : a1.size ≤ maxLen) (w : World) :
    Calls Try.prog 6 #[.string a0, .string a1] w fun e w' => e = .returned (.bool true) ∧ Grown w w' := by
  cases hw : within a0 a1 with
  | false =>
    have H : Hid (within a0 a1 = false) := hw
    clear hw
    go_enter Try.func6, Try.ntmps6
    go_wp2_with (go_at_call 16; refine (zzBytes_any _ _ _ w0 w1).mono ?_; rintro e w' ⟨rfl, rfl⟩; rw [H.out])
    go_ret
    exact ⟨rfl, Grown.refl _⟩
  | true =>
    have H : Hid (within a0 a1 = true) := hw
    have hb : a0.size + a1.size ≤ 1048576 := of_decide_eq_true hw
    clear hw
    by_cases k0 : 524288 < a0.size
    · go_enter Try.func6, Try.ntmps6
      go_wp2_with (go_at_call 16; refine (zzBytes_any _ _ _ w0 w1).mono ?_; rintro e w' ⟨rfl, rfl⟩; rw [H.out])
      go_ret
      exact ⟨rfl, Grown.refl _⟩
    have d0 : decide ((524288 : Int) < (a0.size : Int)) = false := decide_eq_false (by omega)
    by_cases k1 : 524288 < a1.size
    · go_enter Try.func6, Try.ntmps6
      go_wp2_with (go_at_call 16; refine (zzBytes_any _ _ _ w0 w1).mono ?_; rintro e w' ⟨rfl, rfl⟩; rw [H.out])
      go_ret
      exact ⟨rfl, Grown.refl _⟩
    have d1 : decide ((524288 : Int) < (a1.size : Int)) = false := decide_eq_false (by omega)
    cases hc : hasB a0 47 with
    | true =>
      have Hc : Hid (hasB a0 47 = true) := hc
      clear hc
      go_enter Try.func6, Try.ntmps6
      go_wp2_with (first | (go_at_call 16; refine (zzBytes_any _ _ _ w0 w1).mono ?_; rintro e w' ⟨rfl, rfl⟩; rw [H.out]) | (go_at_call 10; refine (hasByte_any a0 47 47 rfl _ w0).mono ?_; rintro e w' ⟨rfl, rfl⟩; rw [Hc.out]))
      go_ret
      exact ⟨rfl, Grown.refl _⟩
    | false =>
      have Hc : Hid (hasB a0 47 = false) := hc
      have e1 : (a0 ++ ⟨#[64]⟩ ++ a1).data.toList = a0.data.toList ++ 64 :: a1.data.toList := by simp
      have n1 : (repoL a0.data.toList).contains 47 = false := bare_no _ hc
      have n2 : (repoL (a0 ++ ⟨#[64]⟩ ++ a1).data.toList).contains 47 = false := by rw [e1, digest_repo]; exact n1
      have N1 : Hid ((repoL a0.data.toList).contains 47 = false) := n1
      have N2 : Hid ((repoL (a0 ++ ⟨#[64]⟩ ++ a1).data.toList).contains 47 = false) := n2
      have hsz : (a0 ++ ⟨#[64]⟩ ++ a1).size ≤ 4194304 := by rw [Lib.size_eq, e1, List.length_append, List.length_cons, ← Lib.size_eq, ← Lib.size_eq]; omega
      have HS : Hid ((a0 ++ ⟨#[64]⟩ ++ a1).size ≤ 4194304) := hsz
      have hhub : B hubL = ⟨#[105, 110, 100, 101, 120, 46, 100, 111, 99, 107, 101, 114, 46, 105, 111]⟩ := rfl
      have HB : Hid (B hubL = ⟨#[105, 110, 100, 101, 120, 46, 100, 111, 99, 107, 101, 114, 46, 105, 111]⟩) := hhub
      clear hc e1 hsz n1 n2 hhub
      go_enter Try.func6, Try.ntmps6
      go_wp2_with (first | (go_at_call 16; refine (zzBytes_any _ _ _ w0 w1).mono ?_; rintro e w' ⟨rfl, hq⟩; have hq := hq.symm; subst hq; rw [H.out]) | (go_at_call 10; refine (hasByte_any a0 47 47 rfl _ w0).mono ?_; rintro e w' ⟨rfl, hq⟩; have hq := hq.symm; subst hq; rw [Hc.out]))
      refine (zzRegistry_bare a0 _ (by omega) N1.out).mono ?_
      rintro e w' ⟨rfl, n, rfl⟩
      rw [HB.out]
      go_wp2_with fail
      refine (zzRegistry_bare _ _ HS.out N2.out).mono ?_
      rintro e w' ⟨rfl, m, rfl⟩
      rw [HB.out]
      go_wp2
      go_ret
      exact ⟨rfl, grown_drewN (Grown.refl _) _⟩

/-! ### THE ROW's STEP: WRITTEN OUT: LEAVE IT -/
set_option maxRecDepth 100000 in
theorem lifted (os : Os) (started : os.Started) (H : Type) (enc : TypeId × Value → H) :
    ReturnsInHanded {} Try.checked os 6 .any (Rows.fnRegistryOfBareNameIsHubSpec.pre6 enc Try.prog Try.f6 Rows.fnRegistryOfBareNameIsHubRow.domain false) (Rows.fnRegistryOfBareNameIsHubSpec.post enc Try.prog Try.f6 false true false false) := by
  refine returnsInHanded_of_change (C := Try.checked) own started (by kernel_rfl) Try.func6
    (ChangeSpec.witness6 (enc := enc) (C := Try.checked) false ⟨#[], #[.string ByteArray.empty, .string ByteArray.empty], []⟩ 8 (by kernel_rfl) (by kernel_rfl) (by kernel_rfl) (by kernel_rfl)) ?_
  intro W base args ds gs before hval0 hW hcnd _
  have hval : ∀ (j : Nat) t v, Try.f6.params[j]? = some t → args[j]? = some v → Value.okWide Try.prog W .any base t v := hval0
  have hW' := hW
  obtain ⟨p, q, hA0, hV, rfl, hfz, hnd⟩ := hW
  have hA : DataW.TrodAll enc Try.prog W 0 (fun _ => true) true Try.f6.params.toList args.toList ds p := hA0
  rw [Try.params6] at hA hval
  obtain ⟨v0, vs0, d0, ds0, p0, q0, hargs, rfl, rfl, h0, r0⟩ := trodAll_cons hA
  obtain ⟨v1, vs1, d1, ds1, p1, q1, rfl, rfl, rfl, h1, r1⟩ := trodAll_cons r0
  obtain ⟨rfl, rfl, rfl⟩ := trodAll_nil r1
  obtain rfl : args = #[v0, v1] := by cases args; simp_all
  obtain ⟨rfl, rfl⟩ := trodVars_none hV
  obtain ⟨a0, rfl, rfl, rfl, w0⟩ := open_string Try.underlying9 (hval 0 9 v0 rfl rfl) h0
  obtain ⟨a1, rfl, rfl, rfl, w1⟩ := open_string Try.underlying9 (hval 1 9 v1 rfl rfl) h1
  clear hA0 hval0
  simp only [List.append_nil] at hW'
  refine (walk a0 a1 w0 w1 W).mono fun e W' ⟨he, hg⟩ => ?_
  subst he
  exact ⟨_, rfl, post_of_same (pa := []) (pv := []) hW' (fun _ _ _ => (trodAll_cons_mk (shut_bool Try.underlying4 _) trodAll_mk0)) (fun sp _ => (trodAll_cons_mk (shut_string Try.underlying9 w0) (trodAll_cons_mk (shut_string Try.underlying9 w1) trodAll_mk0))) (fun _ _ => rfl) rfl
    (hg.frame _) hg.2.1 (ok_one (by kernel_rfl) rfl (okWide_bool_mk Try.underlying4 _))⟩

theorem over : Rows.fnRegistryOfBareNameIsHubRow.holds Try.pinned (OpenSpec.ofChange Rows.fnRegistryOfBareNameIsHubSpec) :=
  OpenClaim.holds_of_wide 6 Try.f6 rfl rfl rfl rfl rfl rfl rfl ⟨rfl, rfl, rfl, rfl, rfl⟩ rfl rfl rfl rfl rfl (by kernel_rfl) Try.func6 (by kernel_rfl)
    (of_decide_eq_true (by kernel_rfl)) (by unfold Func.isWrapper; first | (rw [if_pos (by decide +kernel)]; kernel_rfl) | (rw [if_neg (by decide +kernel)]; exact ⟨rfl, rfl⟩))
    (fun os started H enc _ => lifted os started H enc)

/-- ████ THE STATEMENT ████ -/
theorem proved : Rows.FnRegistryOfBareNameIsHubSaid :=
  over
#print axioms proved
end Go.Proofs.Qxb6003646a.fnRegistryOfBareNameIsHub
