/-
  math/big's nat, walked: make, setWord, norm, mulAddVWW, mulAddWW. THE VALUES ARE NOT TOLD: a nat is a slice of words in a block that the call itself made.
-/
import Derived.Test.Qxb6002384aFmtWords
import Derived.Laws.Twins
namespace Go.Proofs.Qxb6002384aFmt
open Go.RowKit

/-- Block g holds cap words. -/
def U64s (w : World) (g cap : Nat) : Prop :=
  ∃ xs : Array Value, w.heap[g]? = some (.cells xs 75) ∧ xs.size = cap ∧ ∀ i, i < cap → ∃ k : Int, xs[i]? = some (.int .u64 k)
/-- v is a nat of n words: nil, or a slice over a block of words at B or above. -/
def NatOk (B : Nat) (w : World) (v : Value) (n : Nat) : Prop :=
  (v = .slice none 0 0 ∧ n = 0) ∨ ∃ g cap, v = .slice (some ⟨g, 0, none⟩) n cap ∧ B ≤ g ∧ n ≤ cap ∧ cap ≤ 64 ∧ U64s w g cap

theorem U64s.lt {w : World} {g cap : Nat} (h : U64s w g cap) : g < w.heap.size := by
  obtain ⟨xs, hx, _⟩ := h
  exact (Array.getElem?_eq_some_iff.1 hx).1
theorem U64s.cell {w : World} {g cap : Nat} (h : U64s w g cap) {i : Nat} (hi : i < cap) : ∃ k : Int, w.cell? ⟨g, i, none⟩ = some (.int .u64 k) := by
  obtain ⟨xs, hx, hs, hk⟩ := h
  obtain ⟨k, hk⟩ := hk i hi
  exact ⟨k, by simp [World.cell?, hx, hk]⟩
theorem U64s.frozen {w : World} {g cap : Nat} (h : U64s w g cap) (o : Nat) : w.frozen? ⟨g, o, none⟩ = false := by
  obtain ⟨xs, hx, _⟩ := h
  simp [World.frozen?, hx]
theorem U64s.set {w : World} {g cap : Nat} (h : U64s w g cap) (o : Nat) (k : Int) : U64s (w.setCell ⟨g, o, none⟩ (.int .u64 k)) g cap := by
  obtain ⟨xs, hx, hs, hk⟩ := h
  refine ⟨xs.setIfInBounds o (.int .u64 k), ?_, ?_, ?_⟩
  · simp [World.setCell, Array.getElem?_modify, hx]
  · simpa using hs
  · intro i hi
    rw [Array.getElem?_setIfInBounds]
    split
    · rename_i e
      rw [if_pos (by omega)]
      exact ⟨k, rfl⟩
    · exact hk i hi
theorem U64s.kept {w w' : World} {g cap : Nat} (h : U64s w g cap) (hk : w'.heap[g]? = w.heap[g]?) : U64s w' g cap := by
  obtain ⟨xs, hx, hs, hc⟩ := h
  exact ⟨xs, hk.trans hx, hs, hc⟩
theorem U64s.set_other {w : World} {g cap : Nat} (h : U64s w g cap) (b o : Nat) (hb : b ≠ g) (v : Value) : U64s (w.setCell ⟨b, o, none⟩ v) g cap :=
  h.kept (Below.heap_setCell w _ v g (fun e => hb e.symm))
theorem U64s.setAny {w : World} {g cap : Nat} (h : U64s w g cap) (b o : Nat) (k : Int) : U64s (w.setCell ⟨b, o, none⟩ (.int .u64 k)) g cap := by
  by_cases e : b = g
  · subst e; exact h.set o k
  · exact h.set_other b o e _
theorem U64s.alloc {w : World} {g cap : Nat} (h : U64s w g cap) (o : Obj) : U64s (w.alloc o) g cap :=
  h.kept (Below.heap_alloc w o g h.lt)
theorem U64s.drewN {w : World} {g cap : Nat} (h : U64s w g cap) : ∀ n, U64s (w.drewN n) g cap
  | 0 => h
  | n + 1 => h.drewN n
theorem U64s.fresh (w : World) (n : Nat) : U64s (w.alloc (.cells (Array.replicate n (.int .u64 0)) 75)) w.heap.size n := by
  refine ⟨Array.replicate n (.int .u64 0), (MapKept.heap_alloc w _).1, by simp, fun i hi => ⟨0, by simp [hi]⟩⟩
theorem NatOk.kept {B : Nat} {w w' : World} {v : Value} {n : Nat} (h : NatOk B w v n) (hk : ∀ g, B ≤ g → g < w.heap.size → w'.heap[g]? = w.heap[g]?) : NatOk B w' v n := by
  rcases h with h | ⟨g, cap, h1, h2, h3, h4, h5⟩
  · exact Or.inl h
  · exact Or.inr ⟨g, cap, h1, h2, h3, h4, h5.kept (hk g h2 h5.lt)⟩
theorem NatOk.rk {B rb : Nat} {w w' : World} {v : Value} {n : Nat} (h : NatOk B w v n) (hr : RK rb w w') (hb : rb < B) : NatOk B w' v n :=
  h.kept (fun g hg _ => hr.others g (by omega))

theorem info75 : ∃ i, Tryf.prog.info? 75 = some i ∧ i.zero = some (.int .u64 0) ∧ i.size = 1 ∧ i.bytes = 8 := by
  have h : (Tryf.prog.info? 75).map (fun i => (i.zero, i.size, i.bytes)) = some (some (.int .u64 0), 1, 8) := by kernel_rfl
  obtain ⟨i, hi, he⟩ := Option.map_eq_some_iff.1 h
  simp only [Prod.mk.injEq] at he
  exact ⟨i, hi, he.1, he.2.1, he.2.2⟩
theorem made_words (c : Nat) : madeCells (Value.cells (.int .u64 0)) (c * 1) = Array.replicate c (.int .u64 0) := by
  unfold madeCells
  apply Array.ext'
  simp [Value.cells, Nat.mod_one, List.map_const']
theorem mk_word (n c : Nat) (w : World) (hc : c ≤ 64) (hn : n ≤ c) :
    (Instr.makeSlice 45 (.int .i64 n) (.int .i64 c)).run Tryf.prog w = .ok (.slice (some ⟨w.heap.size, 0, none⟩) n c) (w.alloc (.cells (Array.replicate c (.int .u64 0)) 75)) := by
  obtain ⟨i, hi, hz, hs, hb⟩ := info75
  have h := run_make (P := Tryf.prog) w 45 75 i (.int .u64 0) Tryf.underlying45 hi hz .i64 .i64 n c (by omega) (by omega) (by rw [hb]; omega) (by omega)
  rw [hs, Int.toNat_natCast, Int.toNat_natCast, made_words] at h
  exact h
theorem mk_new (n : Nat) (w : World) (hc : n ≤ 60) :
    (Instr.makeSlice 45 (.int .i64 n) (.int .i64 ((n : Int) + 4))).run Tryf.prog w = .ok (.slice (some ⟨w.heap.size, 0, none⟩) n (n + 4)) (w.alloc (.cells (Array.replicate (n + 4) (.int .u64 0)) 75)) :=
  mk_word n (n + 4) w (by omega) (by omega)
theorem mk_one (w : World) :
    (Instr.makeSlice 45 (.int .i64 1) (.int .i64 1)).run Tryf.prog w = .ok (.slice (some ⟨w.heap.size, 0, none⟩) 1 1) (w.alloc (.cells (Array.replicate 1 (.int .u64 0)) 75)) :=
  mk_word 1 1 w (by omega) (by omega)

/-! ### make -/
set_option maxHeartbeats 1000000 in
theorem make_any (B : Nat) (v : Value) (m n : Nat) (w : World) (h : NatOk B w v m) (hn0 : 1 ≤ n) (hn : n ≤ 60) (hB : B ≤ w.heap.size) :
    Calls Tryf.prog 44 #[v, .int .i64 n] w fun e w' => ∃ g cap, e = .returned (.slice (some ⟨g, 0, none⟩) n cap) ∧ B ≤ g ∧ n ≤ cap ∧ cap ≤ 64 ∧ U64s w' g cap ∧ (w' = w ∨ ∃ c, w' = w.alloc (.cells (Array.replicate c (.int .u64 0)) 75)) := by
  rcases h with ⟨rfl, rfl⟩ | ⟨g, cap, rfl, h2, h3, h4, h5⟩
  · by_cases h1 : n = 1
    · subst h1
      have hmk := mk_one
      go_enter Tryf.func44, Tryf.ntmps44
      go_wp2
      go_ret
      exact ⟨w.heap.size, 1, rfl, hB, by omega, by omega, U64s.fresh w 1, Or.inr ⟨1, rfl⟩⟩
    · have hmk := fun w => mk_new n w hn
      have h1' : ((n : Int) == 1) = false := beq_eq_false_iff_ne.2 (by omega)
      go_enter Tryf.func44, Tryf.ntmps44
      go_wp2
      go_ret
      exact ⟨w.heap.size, n + 4, rfl, hB, by omega, by omega, U64s.fresh w (n + 4), Or.inr ⟨n + 4, rfl⟩⟩
  · by_cases hle : n ≤ cap
    · go_enter Tryf.func44, Tryf.ntmps44
      go_wp2
      go_ret
      exact ⟨g, cap, rfl, h2, hle, h4, h5, Or.inl rfl⟩
    · by_cases h1 : n = 1
      · subst h1
        have hmk := mk_one
        go_enter Tryf.func44, Tryf.ntmps44
        go_wp2
        go_ret
        exact ⟨w.heap.size, 1, rfl, hB, by omega, by omega, U64s.fresh w 1, Or.inr ⟨1, rfl⟩⟩
      · have hmk := fun w => mk_new n w hn
        have h1' : ((n : Int) == 1) = false := beq_eq_false_iff_ne.2 (by omega)
        go_enter Tryf.func44, Tryf.ntmps44
        go_wp2
        go_ret
        exact ⟨w.heap.size, n + 4, rfl, hB, by omega, by omega, U64s.fresh w (n + 4), Or.inr ⟨n + 4, rfl⟩⟩

/-! ### norm -/
set_option maxHeartbeats 1000000 in
theorem norm_nil (w : World) :
    Calls Tryf.prog 52 #[.slice none 0 0] w fun e w' => e = .returned (.slice none 0 0) ∧ w' = w := by
  go_enter Tryf.func52, Tryf.ntmps52
  go_wp2
  refine wp_loop_rounds 1 ?_
  rw [rounds_succ]
  go_wp2
  go_ret
  exact ⟨rfl, rfl⟩
set_option maxHeartbeats 1000000 in
theorem norm_any (g m cap : Nat) (w : World) (h : U64s w g cap) (hm : m ≤ cap) (hc : cap ≤ 64) :
    Calls Tryf.prog 52 #[.slice (some ⟨g, 0, none⟩) m cap] w fun e w' => (∃ k, k ≤ m ∧ e = .returned (.slice (some ⟨g, 0, none⟩) k cap)) ∧ w' = w := by
  have H : Hid (U64s w g cap) := h
  clear h
  go_enter Tryf.func52, Tryf.ntmps52
  go_wp2
  go_loop [3] (fun i => ∃ k : Nat, k ≤ m ∧ i = .int .i64 k) (fun i => (intOf i).toNat)
  case atStart => exact ⟨m, Nat.le_refl _, rfl⟩
  case round =>
    obtain ⟨k, hk, rfl⟩ := hrel
    cases k with
    | zero =>
      go_wp2
      go_ret
      exact ⟨⟨0, by omega, rfl⟩, rfl⟩
    | succ j =>
      obtain ⟨x, hx⟩ := H.out.cell (i := j) (by omega)
      have e1 : (((j + 1 : Nat) : Int)) = (j : Int) + 1 := by omega
      rw [e1]
      clear e1
      go_wp2
      · go_round
        case rel => exact ⟨j, by omega, rfl⟩
        case measure => simp [intOf]
      · go_ret
        exact ⟨⟨j + 1, by omega, rfl⟩, rfl⟩

/-! ### mulAddVWW -/
set_option maxHeartbeats 2000000 in
theorem mulAddVWW_g_any (B gz gx m capz capx : Nat) (y r : Int) (w : World) (hz : U64s w gz capz) (hx : U64s w gx capx) (hm : m ≤ capz) (hm2 : m ≤ capx) (hc : capz ≤ 64) (_hc2 : capx ≤ 64) (hB : B ≤ gz) :
    Calls Tryf.prog 28 #[.slice (some ⟨gz, 0, none⟩) m capz, .slice (some ⟨gx, 0, none⟩) m capx, .int .u64 y, .int .u64 r] w fun e w' => (∃ c : Int, e = .returned (.int .u64 c)) ∧ U64s w' gz capz ∧ U64s w' gx capx ∧ Below B w w' := by
  have HZ : Hid (U64s w gz capz) := hz
  have HX : Hid (U64s w gx capx) := hx
  clear hz hx
  go_enter Tryf.func28, Tryf.ntmps28
  go_wp2
  go_loopw [8, 19] (fun vc vi wx => ∃ (k : Nat) (c : Int), k ≤ m ∧ vi = .int .i64 k ∧ vc = .int .u64 c ∧ Hid (U64s wx gz capz) ∧ Hid (U64s wx gx capx) ∧ Hid (Below B w wx)) (fun _ vi _ => m - (intOf vi).toNat)
  case atStart => exact ⟨0, r, by omega, rfl, rfl, HZ, HX, Below.refl _ _⟩
  case round =>
    obtain ⟨k, c, hk, rfl, rfl, hz, hx, hb⟩ := hrel
    by_cases hlt : k < m
    · obtain ⟨x, hxc⟩ := hx.out.cell (i := k) (by omega)
      have hfz := hz.out.frozen k
      obtain ⟨z, hzc⟩ := hz.out.cell (i := k) (by omega)
      go_wp2_with (go_at_call 56; refine (mulAddWWW_any _ _ _ _).mono ?_; rintro e w' ⟨⟨a, b, rfl⟩, hq⟩; have hq := hq.symm; subst hq)
      go_roundw
      case rel => exact ⟨k + 1, a, by omega, by go_num, rfl, hz.out.setAny _ _ _, hx.out.setAny _ _ _, hb.out.setCell hB _⟩
      case measure => simp [intOf]; omega
    · go_wp2
      go_ret
      exact ⟨⟨_, rfl⟩, hz, hx, hb⟩

theorem twin55 : ∀ args w, (callFunc 55 args).run Tryf.prog w = .ok (.enter 28 args) w := fun args w =>
  run_callFunc_twin Tryf.func55 (by kernel_rfl) (by kernel_rfl) (twin := Tryf.f28.name) (by kernel_rfl) (by kernel_rfl) Tryf.func28 (by kernel_rfl) (by kernel_rfl) (by kernel_rfl) args w

/-! ### setWord -/
set_option maxHeartbeats 2000000 in
theorem setWord_any (B : Nat) (v : Value) (m : Nat) (x : Int) (w : World) (h : NatOk B w v m) (hB : B ≤ w.heap.size) :
    Calls Tryf.prog 54 #[v, .int .u64 x] w fun e w' => ∃ v' n, e = .returned v' ∧ NatOk B w' v' n ∧ n ≤ 1 ∧ Below B w w' := by
  cases hx : (x == 0) with
  | true =>
    rcases h with ⟨rfl, rfl⟩ | ⟨g, cap, rfl, h2, h3, h4, h5⟩
    · go_enter Tryf.func54, Tryf.ntmps54
      go_wp2
      go_ret
      exact ⟨_, 0, rfl, Or.inl ⟨rfl, rfl⟩, by omega, Below.refl _ _⟩
    · go_enter Tryf.func54, Tryf.ntmps54
      go_wp2
      go_ret
      exact ⟨_, 0, rfl, Or.inr ⟨g, cap, rfl, h2, by omega, h4, h5⟩, by omega, Below.refl _ _⟩
  | false =>
    have H : Hid (NatOk B w v m) := h
    clear h
    go_enter Tryf.func54, Tryf.ntmps54
    go_wp2_with fail
    refine (make_any B v m 1 _ H.out (by omega) (by omega) hB).mono ?_
    rintro e w1 ⟨g, cap, rfl, h2, h3, h4, h5, h6⟩
    have hb : Hid (Below B w w1) := by
      rcases h6 with rfl | ⟨c, rfl⟩
      · exact Below.refl _ _
      · exact (Below.refl _ _).alloc hB _
    have H5 : Hid (U64s w1 g cap) := h5
    have hfz := h5.frozen 0
    obtain ⟨z, hzc⟩ := h5.cell (i := 0) (by omega)
    clear h5 h6
    go_wp2
    go_ret
    exact ⟨_, 1, rfl, Or.inr ⟨g, cap, rfl, h2, h3, h4, H5.out.setAny _ _ _⟩, by omega, hb.out.setCell h2 _⟩

/-! ### mulAddWW -/
set_option maxHeartbeats 2000000 in
theorem mulAddWW_any (B : Nat) (v : Value) (m : Nat) (y r : Int) (w : World) (h : NatOk B w v m) (hB : B ≤ w.heap.size) (hm : m ≤ 50) :
    Calls Tryf.prog 49 #[v, v, .int .u64 y, .int .u64 r] w fun e w' => ∃ v' n, e = .returned v' ∧ NatOk B w' v' n ∧ n ≤ m + 1 ∧ Below B w w' := by
  have H : Hid (NatOk B w v m) := h
  by_cases hm0 : m = 0
  · rcases h with ⟨rfl, rfl⟩ | ⟨g, cap, rfl, h2, h3, h4, h5⟩
    · go_enter Tryf.func49, Tryf.ntmps49
      go_wp2_with (go_at_call 54; refine (setWord_any B _ 0 _ _ H.out hB).mono ?_; rintro e w1 ⟨v', n, rfl, hn, hn1, hb⟩)
      go_ret
      exact ⟨_, n, rfl, hn, by omega, hb⟩
    · subst hm0
      clear h5
      go_enter Tryf.func49, Tryf.ntmps49
      go_wp2_with (go_at_call 54; refine (setWord_any B _ 0 _ _ H.out hB).mono ?_; rintro e w1 ⟨v', n, rfl, hn, hn1, hb⟩)
      go_ret
      exact ⟨_, n, rfl, hn, by omega, hb⟩
  · rcases h with ⟨rfl, rfl⟩ | ⟨g, cap, rfl, h2, h3, h4, h5⟩
    · omega
    · have hm1 : ((m : Int) == 0) = false := beq_eq_false_iff_ne.2 (by omega)
      cases hy : (y == 0) with
      | true =>
        clear h5
        go_enter Tryf.func49, Tryf.ntmps49
        go_wp2_with (go_at_call 54; refine (setWord_any B _ m _ _ H.out hB).mono ?_; rintro e w1 ⟨v', n, rfl, hn, hn1, hb⟩)
        go_ret
        exact ⟨_, n, rfl, hn, by omega, hb⟩
      | false =>
        have H5 : Hid (U64s w g cap) := h5
        clear h5
        have ht := twin55
        go_enter Tryf.func49, Tryf.ntmps49
        go_wp2_with fail
        refine (make_any B _ m (m + 1) _ H.out (by omega) (by omega) hB).mono ?_
        rintro e w1 ⟨g', cap', rfl, k2, k3, k4, k5, k6⟩
        have hb : Hid (Below B w w1) := by
          rcases k6 with rfl | ⟨c, rfl⟩
          · exact Below.refl _ _
          · exact (Below.refl _ _).alloc hB _
        have hgx : Hid (U64s w1 g cap) := by
          rcases k6 with rfl | ⟨c, rfl⟩
          · exact H5
          · exact H5.out.alloc _
        have hgz : Hid (U64s w1 g' cap') := k5
        clear k5 k6
        go_wp2_with fail
        refine (mulAddVWW_g_any B g' g m cap' cap y r _ hgz.out hgx.out (by omega) h3 k4 h4 k2).mono ?_
        rintro e w2 ⟨⟨c, rfl⟩, q1, q2, q3⟩
        have hb2 : Hid (Below B w w2) := hb.out.trans q3
        have hz2 : Hid (U64s w2 g' cap') := q1
        have hfz := q1.frozen m
        obtain ⟨z, hzc⟩ := q1.cell (i := m) (by omega)
        clear q1 q2 q3 hgz hgx hb
        go_wp2_with fail
        refine (norm_any g' (m + 1) cap' _ (hz2.out.setAny _ _ _) k3 k4).mono ?_
        rintro e w3 ⟨⟨k, hk, rfl⟩, rfl⟩
        go_wp2
        go_ret
        exact ⟨_, k, rfl, Or.inr ⟨g', cap', rfl, k2, by omega, k4, hz2.out.setAny _ _ _⟩, hk, hb2.out.setCell k2 _⟩
end Go.Proofs.Qxb6002384aFmt
