/-
  The law's own walk: Parse returns no error just where plainDecimal says yes.
-/
import Derived.Test.Qxb6002384aFmtParse
import Derived.Deep.RegionWith
namespace Go.Proofs.Qxb6002384aFmt
open Go.RowKit Go.Extern.Stop Go.Stop Go.Extern

/-- The grammar at a string. -/
def okS (s : ByteArray) : Bool := okT (trimL s.data.toList)

theorem trim_cut0 (s : ByteArray) (h : 0 < s.size) (hc : (((s[0].toNat : Nat) : Int) == 45) = false) : okS s = okT (cut s 0) := by
  have hc' : s[0] ≠ 45 := by rintro e; rw [e] at hc; revert hc; decide
  unfold okS trimL cut
  rw [Lib.data_getElem? s 0 h, if_neg (fun e => hc' (Option.some.inj e)), List.drop_zero]
theorem trim_cut1 (s : ByteArray) (h : 0 < s.size) (hc : (((s[0].toNat : Nat) : Int) == 45) = true) : okS s = okT (cut s 1) := by
  have hc' : s[0] = 45 := by
    have := beq_iff_eq.1 hc
    exact UInt8.toNat_inj.1 (by show s[0].toNat = 45; omega)
  unfold okS trimL cut
  rw [Lib.data_getElem? s 0 h, hc', if_pos rfl]
theorem ok_empty (s : ByteArray) (h : s.size = 0) : okS s = false := by
  have : s.data.toList = [] := by
    apply List.eq_nil_of_length_eq_zero
    rw [← Lib.size_eq]; exact h
  unfold okS
  rw [this]
  rfl

theorem plain_all (s : ByteArray) (w : World) (hs : s.size ≤ 65536) :
    Calls Tryf.prog 7 #[.string s] w fun e w' => e = .returned (.bool (okS s)) ∧ w' = w := by
  by_cases h0 : 0 < s.size
  · cases hc : (((s[0].toNat : Nat) : Int) == 45) with
    | false => rw [trim_cut0 s h0 hc]; exact plain_0 s w hs h0 hc
    | true => rw [trim_cut1 s h0 hc]; exact plain_1 s w hs h0 hc
  · rw [ok_empty s (by omega)]
    exact plain_empty s w (by omega)

theorem trim_size (s : ByteArray) : (trimB s).size ≤ s.size := by
  rw [Lib.size_eq, Lib.size_eq]
  show (trimL s.data.toList).length ≤ _
  unfold trimL
  split
  · rw [List.length_drop]; omega
  · exact Nat.le_refl _
theorem bef_size (t : ByteArray) : (befB t 46).size ≤ t.size := by
  rw [Lib.size_eq, Lib.size_eq]
  exact (List.takeWhile_prefix _).length_le
theorem aft_size (t : ByteArray) : (aftB t 46).size ≤ t.size := by
  rw [Lib.size_eq, Lib.size_eq]
  show ((t.data.toList.dropWhile (· != 46)).tail).length ≤ _
  rw [List.length_tail]
  have := (List.dropWhile_suffix (l := t.data.toList) (· != 46)).length_le
  omega
theorem size_app (a b : ByteArray) : (a ++ b).size = a.size + b.size := by
  rw [Lib.size_eq, Lib.size_eq, Lib.size_eq]; simp
theorem digs_all_of {l : List UInt8} (h : digsL l = true) : l.all isD = true := by
  unfold digsL at h
  rw [Bool.and_eq_true] at h
  exact h.2
theorem digs_pos {a : ByteArray} (h : digsL a.data.toList = true) : 0 < a.size := by
  rw [Lib.size_eq]
  unfold digsL at h
  rw [Bool.and_eq_true] at h
  cases hl : a.data.toList with
  | nil => rw [hl] at h; exact absurd h.1 (by decide)
  | cons _ _ => simp
theorem dig_at (a b : ByteArray) (ha : a.data.toList.all isD = true) (hb : b.data.toList.all isD = true) : ∀ i (hi : i < (a ++ b).size), 48 ≤ (a ++ b)[i].toNat ∧ (a ++ b)[i].toNat ≤ 57 := by
  intro i hi
  have hm : (a ++ b)[i] ∈ (a ++ b).data.toList := by
    have h1 : (a ++ b)[i] = (a ++ b).data.toList[i]'(by rw [← Lib.size_eq]; exact hi) := rfl
    rw [h1]
    exact List.getElem_mem _
  have hall : (a ++ b).data.toList.all isD = true := by
    have : (a ++ b).data.toList = a.data.toList ++ b.data.toList := by simp
    rw [this, List.all_append, ha, hb]
    rfl
  exact (isD_iff _).1 (List.all_eq_true.1 hall _ hm)
theorem aft_none (t : List UInt8) (h : t.contains 46 = false) : (t.dropWhile (· != 46)).tail = [] := by
  have := (indexByte_miss t 46 h).2.2
  exact this

/-- What the walk needs of the package-level variables. -/
structure Vars (w : World) (aT aE : Addr) (tT : ByteArray) : Prop where
  g0 : w.cell? ⟨0, 0, none⟩ = some (.iface 62 (.pointer (some aT)))
  t0 : w.cell? aT = some (.string tT)
  g1 : w.cell? ⟨1, 0, none⟩ = some (.iface 62 (.pointer (some aE)))
  b0 : aT.block < w.heap.size
  n1 : 1 < w.heap.size

/-- Parse: no error, or one. -/
theorem parse_all (s : ByteArray) (aT aE : Addr) (tT : ByteArray) (w : World) (hs : s.size ≤ 65536) (hV : Vars w aT aE tT) :
    (okS s = true ∧ Calls Tryf.prog 6 #[.string s] w fun e w' => (∃ a y, e = .returned (.tuple #[.agg #[.pointer (some a), .int .i64 y], .nilIface])) ∧ Below w.heap.size w w') ∨
    (okS s = false ∧ Calls Tryf.prog 6 #[.string s] w fun e w' => (∃ u a, e = .returned (.tuple #[.agg #[.pointer none, .int .i64 0], .iface u (.pointer (some a))])) ∧ Below w.heap.size w w') := by
  obtain ⟨t, ht⟩ : ∃ t, trimB s = t := ⟨_, rfl⟩
  obtain ⟨wh, hwh⟩ : ∃ x, befB t 46 = x := ⟨_, rfl⟩
  obtain ⟨fr, hfr⟩ : ∃ x, aftB t 46 = x := ⟨_, rfl⟩
  have z1 : t.size ≤ 65536 := by have := trim_size s; rw [ht] at this; omega
  have z2 : wh.size ≤ 65536 := by have := bef_size t; rw [hwh] at this; omega
  have z3 : fr.size ≤ 65536 := by have := aft_size t; rw [hfr] at this; omega
  have m0 : s.size ≤ maxLen := by unfold maxLen; omega
  have m1 : t.size ≤ maxLen := by unfold maxLen; omega
  have m2 : wh.size ≤ maxLen := by unfold maxLen; omega
  have m3 : fr.size ≤ maxLen := by unfold maxLen; omega
  have hok : okS s = (digsL wh.data.toList && (!(hasB t 46) || digsL fr.data.toList) && decide (wh.size + fr.size ≤ 40)) := by
    rw [Lib.size_eq, Lib.size_eq, ← hwh, ← hfr, ← ht]
    rfl
  cases hdw : digsL wh.data.toList with
  | false =>
    right
    refine ⟨by rw [hok, hdw]; rfl, ?_⟩
    have := parse_whole s w m0 (by rw [ht]; exact m1) (by rw [ht, hwh]; exact m2) (by rw [ht, hwh]; exact hdw)
    exact this.mono fun e w' ⟨⟨a, he⟩, hb⟩ => ⟨⟨62, a, he⟩, hb⟩
  | true =>
    have hpos := digs_pos hdw
    have hs0 : 0 < s.size := by
      have e1 := trim_size s
      have e2 := bef_size t
      rw [ht] at e1
      rw [hwh] at e2
      omega
    have hsz := size_app wh fr
    cases hpt : hasB t 46 with
    | true =>
      cases hdf : digsL fr.data.toList with
      | false =>
        right
        refine ⟨by rw [hok, hdw, hpt, hdf]; rfl, ?_⟩
        exact (parse_frac s t wh fr w m0 ht hwh hfr hpt m1 m2 m3 hdw hdf).mono fun e w' ⟨⟨a, he⟩, hb⟩ => ⟨⟨62, a, he⟩, hb⟩
      | true =>
        by_cases hl : wh.size + fr.size ≤ 40
        · left
          refine ⟨by rw [hok, hdw, hpt, hdf, decide_eq_true hl]; rfl, ?_⟩
          have hds := dig_at wh fr (digs_all_of hdw) (digs_all_of hdf)
          cases hn : (((s[0].toNat : Nat) : Int) == 45) with
          | true => exact (parse_ok_pm s t wh fr w m0 ht hwh hfr hpt m1 m2 m3 hdw hdf hl hds (by omega) (by omega) hs0 hn aE hV.g1 hV.n1).mono fun e w' ⟨⟨a, he⟩, hb⟩ => ⟨⟨a, _, he⟩, hb⟩
          | false => exact (parse_ok_pu s t wh fr w m0 ht hwh hfr hpt m1 m2 m3 hdw hdf hl hds (by omega) (by omega) hs0 hn aE hV.g1 hV.n1).mono fun e w' ⟨⟨a, he⟩, hb⟩ => ⟨⟨a, _, he⟩, hb⟩
        · right
          refine ⟨by rw [hok, hdw, hpt, hdf, decide_eq_false hl]; rfl, ?_⟩
          exact (parse_long_p s t wh fr w m0 ht hwh hfr hpt m1 m2 m3 hdw hdf (by omega) (by omega) aT tT (by have := hV.n1; omega) hV.g0 hV.t0 hV.b0).mono fun e w' ⟨⟨a, he⟩, hb⟩ => ⟨⟨55, a, he⟩, hb⟩
    | false =>
      have hfe : fr.data.toList.all isD = true := by
        rw [← hfr]
        show ((t.data.toList.dropWhile (· != 46)).tail).all isD = true
        rw [aft_none _ hpt]
        rfl
      by_cases hl : wh.size + fr.size ≤ 40
      · left
        refine ⟨by rw [hok, hdw, hpt, decide_eq_true hl]; rfl, ?_⟩
        have hds := dig_at wh fr (digs_all_of hdw) hfe
        cases hn : (((s[0].toNat : Nat) : Int) == 45) with
        | true => exact (parse_ok_nm s t wh fr w m0 ht hwh hfr hpt m1 m2 hdw hl hds (by omega) (by omega) hs0 hn aE hV.g1 hV.n1).mono fun e w' ⟨⟨a, he⟩, hb⟩ => ⟨⟨a, _, he⟩, hb⟩
        | false => exact (parse_ok_nu s t wh fr w m0 ht hwh hfr hpt m1 m2 hdw hl hds (by omega) (by omega) hs0 hn aE hV.g1 hV.n1).mono fun e w' ⟨⟨a, he⟩, hb⟩ => ⟨⟨a, _, he⟩, hb⟩
      · right
        refine ⟨by rw [hok, hdw, hpt, decide_eq_false hl]; rfl, ?_⟩
        exact (parse_long_n s t wh fr w m0 ht hwh hfr hpt m1 m2 hdw (by omega) (by omega) aT tT (by have := hV.n1; omega) hV.g0 hV.t0 hV.b0).mono fun e w' ⟨⟨a, he⟩, hb⟩ => ⟨⟨55, a, he⟩, hb⟩

/-! ### The law -/
def within (a : ByteArray) : Bool := decide (a.size ≤ 1048576)
set_option maxHeartbeats 400000 in
theorem zzBytes_any (a : ByteArray) (w : World) (h1 : a.size ≤ maxLen) :
    Calls Tryf.prog 5 #[.string a] w fun e w' => e = .returned (.bool (within a)) ∧ w' = w := by
  unfold maxLen at h1
  go_enter Tryf.func5, Tryf.ntmps5
  go_wp2
  all_goals
    go_ret
    refine ⟨?_, rfl⟩
    show Ending.returned (.bool _) = _
    unfold within
    congr 2
    simp
    omega

set_option maxHeartbeats 1000000 in
set_option maxRecDepth 100000 in
theorem law_big (s : ByteArray) (w : World) (hs : s.size ≤ maxLen) (hb : 65536 < s.size) :
    Calls Tryf.prog 3 #[.string s] w fun e w' => e = .returned (.bool true) ∧ Below w.heap.size w w' := by
  cases hw : within s with
  | false =>
    have H : Hid (within s = false) := hw
    clear hw
    go_enter Tryf.func3, Tryf.ntmps3
    go_wp2_with (go_at_call 5; refine (zzBytes_any _ _ hs).mono ?_; rintro e w' ⟨rfl, rfl⟩; rw [H.out])
    go_ret
    exact ⟨rfl, Below.refl _ _⟩
  | true =>
    have H : Hid (within s = true) := hw
    clear hw
    go_enter Tryf.func3, Tryf.ntmps3
    go_wp2_with (go_at_call 5; refine (zzBytes_any _ _ hs).mono ?_; rintro e w' ⟨rfl, rfl⟩; rw [H.out])
    go_ret
    exact ⟨rfl, Below.refl _ _⟩

set_option maxHeartbeats 1000000 in
set_option maxRecDepth 100000 in
theorem law_main (s : ByteArray) (aT aE : Addr) (tT : ByteArray) (w : World) (hs : s.size ≤ 65536) (hV : Vars w aT aE tT) :
    Calls Tryf.prog 3 #[.string s] w fun e w' => e = .returned (.bool true) ∧ Below w.heap.size w w' := by
  have hm : s.size ≤ maxLen := by unfold maxLen; omega
  have H : Hid (within s = true) := decide_eq_true (by omega)
  rcases parse_all s aT aE tT w hs hV with ⟨hok, hP⟩ | ⟨hok, hP⟩
  · have HK : Hid (okS s = true) := hok
    have HP : Hid (Calls Tryf.prog 6 #[.string s] w fun e w' => (∃ a y, e = .returned (.tuple #[.agg #[.pointer (some a), .int .i64 y], .nilIface])) ∧ Below w.heap.size w w') := hP
    clear hok hP
    go_enter Tryf.func3, Tryf.ntmps3
    go_wp2_with (go_at_call 5; refine (zzBytes_any _ _ hm).mono ?_; rintro e w' ⟨rfl, hq⟩; have hq := hq.symm; subst hq; rw [H.out])
    refine HP.out.mono ?_
    rintro e w1 ⟨⟨a, y, rfl⟩, hb1⟩
    have HB1 : Hid (Below w.heap.size w w1) := hb1
    clear hb1
    go_wp2_with fail
    have HB2 : Hid (Below w.heap.size w (w1.alloc (.cells #[.pointer (some a), .int .i64 y] 25))) := HB1.out.alloc HB1.out.size _
    generalize w1.alloc (.cells #[.pointer (some a), .int .i64 y] 25) = w2 at HB2 ⊢
    have hpl : ∀ wx, Calls Tryf.prog 7 #[.string s] wx fun e w' => e = .returned (.bool true) ∧ w' = wx := fun wx => by
      have := plain_all s wx hs
      rw [HK.out] at this
      exact this
    have HPL : Hid (∀ wx, Calls Tryf.prog 7 #[.string s] wx fun e w' => e = .returned (.bool true) ∧ w' = wx) := hpl
    clear hpl
    go_quiet ((go_at_call 7; exact Calls.quiet_of_same (HPL.out _)))
    go_wp2
    go_ret
    exact ⟨rfl, below_drewN HB2.out _⟩
  · have HK : Hid (okS s = false) := hok
    have HP : Hid (Calls Tryf.prog 6 #[.string s] w fun e w' => (∃ u a, e = .returned (.tuple #[.agg #[.pointer none, .int .i64 0], .iface u (.pointer (some a))])) ∧ Below w.heap.size w w') := hP
    clear hok hP
    go_enter Tryf.func3, Tryf.ntmps3
    go_wp2_with (go_at_call 5; refine (zzBytes_any _ _ hm).mono ?_; rintro e w' ⟨rfl, hq⟩; have hq := hq.symm; subst hq; rw [H.out])
    refine HP.out.mono ?_
    rintro e w1 ⟨⟨u, a, rfl⟩, hb1⟩
    have HB1 : Hid (Below w.heap.size w w1) := hb1
    clear hb1
    go_wp2_with fail
    have HB2 : Hid (Below w.heap.size w (w1.alloc (.cells #[.pointer none, .int .i64 0] 25))) := HB1.out.alloc HB1.out.size _
    generalize w1.alloc (.cells #[.pointer none, .int .i64 0] 25) = w2 at HB2 ⊢
    have hpl : ∀ wx, Calls Tryf.prog 7 #[.string s] wx fun e w' => e = .returned (.bool false) ∧ w' = wx := fun wx => by
      have := plain_all s wx hs
      rw [HK.out] at this
      exact this
    have HPL : Hid (∀ wx, Calls Tryf.prog 7 #[.string s] wx fun e w' => e = .returned (.bool false) ∧ w' = wx) := hpl
    clear hpl
    go_quiet ((go_at_call 7; exact Calls.quiet_of_same (HPL.out _)))
    go_wp2
    go_ret
    exact ⟨rfl, below_drewN HB2.out _⟩

theorem law_any (s : ByteArray) (aT aE : Addr) (tT : ByteArray) (w : World) (hs : s.size ≤ maxLen) (hV : Vars w aT aE tT) :
    Calls Tryf.prog 3 #[.string s] w fun e w' => e = .returned (.bool true) ∧ Below w.heap.size w w' := by
  by_cases h : s.size ≤ 65536
  · exact law_main s aT aE tT w h hV
  · exact law_big s w hs (by omega)
end Go.Proofs.Qxb6002384aFmt
