/-
  THE STATEMENT 'Rows.FnParseTakesExactlyThePlainDecimalsToldSaid': the told and tied card, out of the law's walk ('law_any'). After the guide's worked told rows.
-/
import Derived.Test.Qxb6002384aFmtTie
import Derived.Test.Qxb6002384aFmtCards
import Derived.Test.Qxb6002384aFmtLaw
import Derived.ProofKit
import Derived.Stop.JoinedAt
import Derived.Stop.JoinedTold
import Derived.Stop.Texts
import Derived.Stop.LaidErr
import Derived.WalkSmall
namespace Go.Proofs.Qxb6002384aFmt
open Go.ChangeShapes Go.WideShapes Go.ChangeAt Go.RowKit Go.Kit
open Go.ChangeMaps (open_string shut_string)
open Go.Extern.Stop Go.Stop Go.Extern

theorem own : ownKnob Tryf.prog.godebug = none := by kernel_rfl
theorem laidOut : laidOutB Tryf.pinned.checked.prog = true := by kernel_rfl
theorem stops : Tryf.pinned.checked.prog.stops = ["fmt.errorf", "fmt.Sprintf"] := by kernel_rfl
theorem stopKnobs : Tryf.pinned.checked.prog.stopKnobs = [] := by kernel_rfl
theorem quiet (os : Os) : Stop.quiet Tryf.pinned.checked.prog os := by
  intro k hk
  rw [stopKnobs] at hk
  cases hk

/-- The name of a listed error's type. -/
def nameOf : DataW Unit → String
  | .iface n _ => n
  | _ => ""
theorem row62 (u : TypeId) (h : Tryf.prog.typeName? 3 u = some (nameOf Rows.laid_io_EOF)) : u = 62 :=
  typeName_ptr_named (nm := "errors.errorString") (by kernel_rfl) (by kernel_rfl) (by decide) u (h.trans (congrArg some (by decide)))

/-! ### One start that fits: the four errors as their initialisers lay them -/
/-- Variable g holds a pointer to the error's struct in block b. -/
def putErr (h : Array Obj) (g b : Nat) : Array Obj := h.modify g fun
  | .cells _ t frozen => .cells #[.iface 62 (.pointer (some ⟨b, 0, none⟩))] t frozen
  | o => o
/-- The listed errors, laid into a world's heap; n: the first of their four blocks. -/
def laidIn (w0 : World) (n : Nat) : World := { w0 with heap := putErr (putErr (putErr (putErr w0.heap 1 n) 4 (n + 1)) 3 (n + 2)) 0 (n + 3) }
/-- The four structs. -/
def four : Array Obj := #[.cells #[.string ⟨#[69, 79, 70]⟩] 64, .cells #[.string ⟨#[110, 117, 109, 98, 101, 114, 32, 104, 97, 115, 32, 110, 111, 32, 100, 105, 103, 105, 116, 115]⟩] 64, .cells #[.string ⟨#[39, 95, 39, 32, 109, 117, 115, 116, 32, 115, 101, 112, 97, 114, 97, 116, 101, 32, 115, 117, 99, 99, 101, 115, 115, 105, 118, 101, 32, 100, 105, 103, 105, 116, 115]⟩] 64, .cells #[.string ⟨#[116, 111, 111, 32, 108, 111, 110, 103, 32, 102, 111, 114, 32, 97, 32, 112, 108, 97, 105, 110, 32, 100, 101, 99, 105, 109, 97, 108]⟩] 64]

set_option maxRecDepth 1000000 in
theorem laid_met (os : Os) (args : Array Value) : laidMet Tryf.prog Rows.fnParseTakesExactlyThePlainDecimalsRow.laid ((laidIn (World.holding Tryf.prog os ⟨four, #[], []⟩) (World.holding Tryf.prog default ⟨#[], #[], []⟩).heap.size).forCall (fun _ _ => 0) ⟨#[], args, []⟩).memory :=
  laidMet_of_run (ps := [.cell 1 0, .cell ((World.holding Tryf.prog default ⟨#[], #[], []⟩).heap.size) 0, .cell 4 0, .cell ((World.holding Tryf.prog default ⟨#[], #[], []⟩).heap.size + 1) 0, .cell 3 0, .cell ((World.holding Tryf.prog default ⟨#[], #[], []⟩).heap.size + 2) 0, .cell 0 0, .cell ((World.holding Tryf.prog default ⟨#[], #[], []⟩).heap.size + 3) 0]) 8 (by kernel_rfl) (by kernel_rfl) (by kernel_rfl)

set_option maxRecDepth 100000 in
set_option maxHeartbeats 4000000 in
theorem lifted (os : Os) (started : os.Started) (H : Type) (enc : TypeId × Value → H) :
    ReturnsInTold none {} Tryf.checked os 3 .any Input.okWide ((OpenSpec.ofChange Rows.fnParseTakesExactlyThePlainDecimalsSpec).preRow enc Tryf.prog Tryf.f3 Rows.fnParseTakesExactlyThePlainDecimalsRow.domain false Rows.fnParseTakesExactlyThePlainDecimalsRow.laid)
      (fun F => ((OpenSpec.ofChange Rows.fnParseTakesExactlyThePlainDecimalsSpec).at F).post enc Tryf.prog Tryf.f3 false true false false) (aloneAtReturn Tryf.prog) nothingAlways := by
  refine returnsInTold_of_row (C := Tryf.checked) (s := OpenSpec.ofChange Rows.fnParseTakesExactlyThePlainDecimalsSpec) (by kernel_rfl) own started (by kernel_rfl) Tryf.func3
    (OpenSpec.witness_stopped_at (enc := enc) (C := Tryf.checked) false (laidIn (World.holding Tryf.prog os ⟨four, #[], []⟩) (World.holding Tryf.prog default ⟨#[], #[], []⟩).heap.size) #[.string ⟨#[]⟩] rfl (by kernel_rfl) (by kernel_rfl) (by kernel_rfl)
      (OpenSpec.preRow_of_B rfl 8 (by kernel_rfl) (by kernel_rfl) (laid_met os _))) ?_
  intro F W base args ds gs before _ hF hval0 hW _ _ _ hL _
  have hval : ∀ (j : Nat) t v, Tryf.f3.params[j]? = some t → args[j]? = some v → Value.okWide Tryf.prog W .any base t v := hval0
  have hW' := hW
  obtain ⟨p, q, hA0, hV0, rfl, hfz, hnd⟩ := hW
  have hA : DataW.TrodAll enc Tryf.prog W 0 (fun _ => true) true Tryf.f3.params.toList args.toList ds p := hA0
  have hV : DataW.TrodVars enc Tryf.prog W (fun _ => true) Rows.fnParseTakesExactlyThePlainDecimalsSpec.vars gs q := hV0
  rw [Tryf.params3] at hA hval
  obtain ⟨v0, d0, rfl, rfl, h0⟩ := trodAll_one hA
  obtain ⟨s, rfl, rfl, rfl, ws⟩ := open_string Tryf.underlying9 (hval 0 9 v0 rfl rfl) h0
  have hL' : laidMet Tryf.prog Rows.fnParseTakesExactlyThePlainDecimalsRow.laid W := hL
  obtain ⟨aE, tE, hvE, hcE, _, _⟩ := laid_sentinel (g := 1) hL' (by kernel_rfl) (by kernel_rfl) Tryf.underlying27 row62 Tryf.underlying62 Tryf.underlying64 rfl rfl Tryf.underlying9 (by kernel_rfl) (by kernel_rfl)
  obtain ⟨aT, tT, hvT, hcT, _, _⟩ := laid_sentinel (g := 0) hL'.tail.tail.tail (by kernel_rfl) (by kernel_rfl) Tryf.underlying27 row62 Tryf.underlying62 Tryf.underlying64 rfl rfl Tryf.underlying9 (by kernel_rfl) (by kernel_rfl)
  obtain ⟨rfl, rfl⟩ := hV.unique (vars_read1 enc (g := 0) (by kernel_rfl) (by kernel_rfl) Tryf.underlying27 hvT trivial _)
  clear hA0 hV0 hval0 hL hL'
  have hg0 : W.cell? ⟨0, 0, none⟩ = some (.iface 62 (.pointer (some aT))) := by
    simpa using World.var?_cell (g := 0) (by kernel_rfl) hvT 0
  have hg1 : W.cell? ⟨1, 0, none⟩ = some (.iface 62 (.pointer (some aE))) := by
    simpa using World.var?_cell (g := 1) (by kernel_rfl) hvE 0
  have hb0 : aT.block < W.heap.size := World.block_lt_of_cell? _ _ hcT
  have hn1 : 1 < W.heap.size := World.block_lt_of_cell? _ _ hg1
  refine (law_any s aT aE tT W ws ⟨hg0, hcT, hg1, hb0, hn1⟩).mono ?_
  rintro e W' ⟨rfl, bel⟩
  have e1 : ((OpenSpec.ofChange Rows.fnParseTakesExactlyThePlainDecimalsSpec).at F.told).fn H ([.lit (.string s.data.toList)] ++ [tok enc (.iface 62 (.pointer (some aT)))]) = { results := [.lit (.bool true)], args := [.lit (.string s.data.toList)], vars := [tok enc (.iface 62 (.pointer (some aT)))] } := rfl
  refine ⟨_, rfl, _, _, _, [], [], [.cell 0 0], hW', ?_, ?_, ?_, bel.frame _, fun h => by cases h⟩
  · rw [e1]; exact trodAll_mk1 (shut_bool Tryf.underlying4 _)
  · rw [e1]; exact trodAll_mk1 (shut_string Tryf.underlying9 ws)
  · rw [e1]; exact vars_read1 enc (g := 0) (by kernel_rfl) (by kernel_rfl) Tryf.underlying27 (var?_below (g := 0) bel (by kernel_rfl) (by omega) hvT) trivial _

/-- The statement. -/
theorem card_holds : Rows.FnParseTakesExactlyThePlainDecimalsToldSaid :=
  Claim7.holds_of_told_tied_any_at .later 3 Tryf.f3 "fmt.errorf" ["fmt.Sprintf"] [] _ _ _ _ _ (by kernel_rfl) rfl rfl rfl laidOut (by kernel_rfl) rfl ⟨rfl, rfl, rfl, rfl, rfl, rfl, rfl⟩ rfl rfl (by kernel_rfl) (by kernel_rfl) Tryf.func3 (by kernel_rfl)
    (of_decide_eq_true (by kernel_rfl)) (by unfold Func.isWrapper; first | (rw [if_pos (by decide +kernel)]; kernel_rfl) | (rw [if_neg (by decide +kernel)]; exact ⟨rfl, rfl⟩)) stops.symm rfl stopKnobs.symm (by kernel_rfl)
    (by kernel_rfl) (by kernel_rfl) (by kernel_rfl) (by kernel_rfl) (by kernel_rfl) (by kernel_rfl) (by kernel_rfl) (by kernel_rfl) (by kernel_rfl) rfl (by kernel_rfl) rfl rfl
    rfl rfl
    rfl (by kernel_rfl) (by kernel_rfl) (by kernel_rfl) (by decide) (by kernel_rfl) fnParseTakesExactlyThePlainDecimals_row_tie
    (OpenClaim.moreEntering_of (by kernel_rfl) (by kernel_rfl) (by kernel_rfl) (by kernel_rfl) (by kernel_rfl) (by kernel_rfl) (by kernel_rfl) (by kernel_rfl) (by kernel_rfl) (by kernel_rfl))
    ⟨_, WideRow.started_initial, quiet _⟩
    (fun os started _ H enc _ => lifted os started H enc)

#print axioms card_holds
end Go.Proofs.Qxb6002384aFmt
