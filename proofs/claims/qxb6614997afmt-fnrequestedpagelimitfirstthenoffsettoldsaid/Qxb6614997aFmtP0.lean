import Derived.Test.Qxb6614997aFmtTie
import Derived.Test.Qxb6614997aFmtCards
import Derived.Test.Qxb6614997aFmtW5
import Derived.ProofKit
import Derived.OpenShut
import Derived.LaidMore
import Derived.Lay
import Derived.Shelf.Vars
import Derived.Lib.LaidTab
import Derived.Stop.LaidErr
import Derived.Stop.JoinedTold
/- What the told rows of this seat share: the wrap with the world's shape kept, and what the listed variables give. -/
namespace Go.Proofs.Qxb6614997aFmt
open Go Go.ChangeShapes Go.WideShapes Go.ChangeAt Go.RowKit

theorem own : ownKnob Tryf.prog.godebug = none := by kernel_rfl
theorem Tryf.laidOut : laidOutB Tryf.pinned.checked.prog = true := by kernel_rfl
theorem Tryf.stops : Tryf.pinned.checked.prog.stops = ["fmt.errorf"] := by kernel_rfl
theorem Tryf.stopKnobs : Tryf.pinned.checked.prog.stopKnobs = [] := by kernel_rfl
theorem Tryf.quiet (os : Os) : Stop.quiet Tryf.pinned.checked.prog os := by
  intro k hk
  rw [Tryf.stopKnobs] at hk
  cases hk

/-- From a contract at F.told, in a world whose shape is known, to 'ReturnsInTold'. -/
theorem told_of_calls {H : Type} {enc : TypeId × Value → H} {C : Checked} {os : Os} {f : FuncId} {fn : Func} {s : OpenSpec} {conds : List PathCond} {apart fresh handsOn again : Bool} {laid : List (String × DataW Unit)}
    (enter : C.prog.mayEnter = true) (hown : ownKnob C.prog.godebug = none) (started : os.Started) (noInit : C.prog.inits.idxOf? f = none) (hfn : C.prog.funcs[f]? = some fn)
    (witness : ∀ F : Stop.Interp, ∃ (w : World) (tape : Tape) (i : Input), w.os = os ∧ (w.forCall tape i).Shaped C.prog ∧ i.vars = [] ∧ Input.okWide C.prog (w.forCall tape i) .any w.heap.size f i ∧
      s.preRow enc C.prog fn conds apart laid (w.forCall tape i).memory i.args ∧ ({} : Assume).holds C.prog (lone (Frame.enter C.prog f i.args .normal) [] (w.forCall tape i)) ∧ F.answers tape)
    (contract : ∀ (F : Stop.Interp) (W : World) (base : Nat) (args : Array Value) (ds gs : List (DataW H)) (before : List MemPlace),
      F.answers W.tape → W.ShapedOpen C.prog → laidMetH C.prog laid W →
      (∀ (j : Nat) t v, fn.params[j]? = some t → args[j]? = some v → Value.okWide C.prog W .any base t v) →
      DataW.Whole enc C.prog fn.params.toList s.vars apart W args.toList ds gs before →
      Calls C.prog f args W fun e W' => ∃ v, e = .returned v ∧ (s.at F).post enc C.prog fn apart fresh handsOn again W args v W') :
    ReturnsInTold none {} C os f .any Input.okWide (s.preRow enc C.prog fn conds apart laid) (fun F => (s.at F).post enc C.prog fn apart fresh handsOn again) (aloneAtReturn C.prog) nothingAlways := by
  intro F
  refine returnsInOpen_of_calls_wide enter hown started noInit (witness F.told) ?_
  intro w tape i _ hsh _ hok hpre _ hF
  obtain ⟨_, _, _, fn', hfn', _, _, _, _, hval⟩ := hok
  have e : fn' = fn := Option.some.inj (hfn'.symm.trans hfn)
  subst e
  obtain ⟨⟨hp, hl⟩, _⟩ := hpre
  obtain ⟨ds, gs, before, hw, _, _⟩ := OpenSpec.pre_parts hp
  have hw' := DataW.Whole.of_heap (w' := w.forCall tape i) (by rfl) hw
  refine (contract F.told (w.forCall tape i) w.heap.size i.args ds gs before hF hsh (hl.of_heap (by rfl)) hval hw').mono fun e W' ⟨v, he, hp⟩ => ?_
  subst he
  exact ChangeSpec.post_blind hp

/-- The list of the two rows. -/
theorem table_data : (Rows.laid_net_url_table : DataW Unit) = Lib.tabData .u8 Pl.tab := by kernel_rfl

theorem env_of {W : World} (hsh : W.ShapedOpen Tryf.prog)
    (hL : laidMetH Tryf.prog Rows.fnRequestedPageLimitFirstThenOffsetRow.laid W) : Env W := by
  rw [MakeChecks.laidMetH_plain _ _ _ (by kernel_rfl)] at hL
  unfold Rows.fnRequestedPageLimitFirstThenOffsetRow at hL
  have h1 := hL.tail
  rw [table_data] at h1
  have hT := Lib.tabIs_of_head (g := 1) (t := 86) (e := 69) (n := 256) (by kernel_rfl) (by kernel_rfl) Tryf.underlying86 Tryf.underlying69 (by kernel_rfl) (by kernel_rfl) h1
  refine ⟨?_, fun c hc => ?_⟩
  · exact cell_of_shapedOpen_int (t := 3) (zero := #[.int .i64 0]) (k := .i64) hsh (by decide +kernel) (by kernel_rfl) rfl (by kernel_rfl) (by kernel_rfl) Tryf.underlying3
  · exact hT.cell (by kernel_rfl) c (by have : Pl.tab.length = 256 := by decide +kernel
                                        omega)

end Go.Proofs.Qxb6614997aFmt
