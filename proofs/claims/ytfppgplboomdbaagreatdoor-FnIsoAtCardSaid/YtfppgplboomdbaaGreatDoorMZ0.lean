/- Part of the proofs of laws.FnIsoTree and laws.FnIsoAt: lemmas and contracts of functions that the two laws reach, each under the hypotheses that its own statement names. -/
import Derived.Test.YtfppgplboomdbaaGreatDoorCards
import Derived.Test.YtfppgplboomdbaaGreatDoorTie
import Derived.Test.YtfppgplboomdbaaGreatDoorMPart25
import Derived.Test.YtfppgplboomdbaaGreatDoorMZ0a
import Derived.ChangeSame
import Derived.LaidLaws
import Derived.LaidMore
import Derived.MakeChecks
import Derived.ProofKit
import Derived.OpenShut
import Derived.Carry
import Derived.Deep.DeepHandedRow
import Derived.Deep.DeepWitnessRowRef
import Derived.Deep.Slices
import Derived.Deep.Fields
import Derived.Lib.LaidU8T
namespace Go.Proofs.YtfppgplboomdbaaGreatDoor
open Go.ChangeShapes Go.WideShapes Go.ChangeAt Go.RowKit Go.Deep

theorem Tryz.own : ownKnob Tryz.prog.godebug = none := by kernel_rfl
theorem Tryz.laidOut : laidOutB Tryz.prog = true := by kernel_rfl
theorem Tryz.gEof : Tryz.prog.globalNamed "io.EOF" = some 0 := by kernel_rfl
theorem Tryz.gAcc : Tryz.prog.globalNamed "unicode/utf8.acceptRanges" = some 5 := by kernel_rfl
theorem Tryz.gFirst : Tryz.prog.globalNamed "unicode/utf8.first" = some 4 := by kernel_rfl
theorem Tryz.gEofT : (Tryz.prog.globals[0]?).map (·.type) = some 99 := by kernel_rfl
theorem Tryz.name190 : Tryz.prog.typeName? 3 190 = some "*errors.errorString" := by kernel_rfl
theorem Tryz.cells192 : Tryz.prog.cellsOf 192 = 1 := by kernel_rfl
theorem Tryz.cells9 : Tryz.prog.cellsOf 9 = 1 := by kernel_rfl
theorem first_same : Rows.laid_unicode_utf8_first = Lib.firstData := by kernel_rfl
theorem acc_same : (Rows.laid_unicode_utf8_acceptRanges : DataW Unit) = Lib.acceptData := by kernel_rfl
def Lst : List (String × DataW Unit) := [("unicode/utf8.acceptRanges", Rows.laid_unicode_utf8_acceptRanges), ("io.EOF", Rows.laid_io_EOF), ("unicode/utf8.first", Rows.laid_unicode_utf8_first)]
set_option maxRecDepth 100000 in
theorem eof_of_laid {W : World} (h : laidMetH Tryz.prog Lst W) : ∃ ea, EofAt W ea := by
  rw [MakeChecks.laidMetH_plain _ _ _ (by kernel_rfl)] at h
  obtain ⟨ps, ⟨g0, t0, cs0, f0, p0, q0, hg0, ht0, hv0, hd0, ⟨g1, t1, cs1, f1, p1, q1, hg1, ht1, hv1, hd1, hr1, e1⟩, e0⟩, hnd, hrows⟩ := h
  obtain rfl := Option.some.inj (Tryz.gEof.symm.trans hg1)
  obtain rfl := Option.some.inj (Tryz.gEofT.symm.trans ht1)
  subst e1
  subst e0
  obtain ⟨l1⟩ := cs1
  have ok1 : ∀ u v, l1 = [.iface u v] → Value.okWide Tryz.prog W .any 0 u v := fun u v e => by
    subst e
    exact (hrows 0 0 (by simp [MemPlace.row])).2 u v (by simpa using World.var?_cell hg1 hv1 0)
  obtain ⟨a1, s1, rfl, _, _, _, rfl⟩ := errorString_of_trod Tryz.underlying99 Tryz.row190 Tryz.underlying190 Tryz.underlying192 rfl rfl Tryz.underlying9 Tryz.cells192 Tryz.cells9 hd1 ok1
  have h := World.var?_cell hg1 hv1 0
  exact ⟨a1, show W.cell? ⟨0, 0, none⟩ = some (.iface 190 (.pointer (some a1))) by simpa using h⟩

def rho : Go.Shelf.Ren := ⟨fun x => x, fun x => if x = 119 then 311 else if x = 138 then 313 else if x = 139 then 314 else x, fun x => x + 1⟩
theorem tabs_of_laid {W : World} (h : laidMetH Tryz.prog Lst W) : Lib.Utf8Tabs 4 5 W := by
  rw [MakeChecks.laidMetH_plain _ _ _ (by kernel_rfl)] at h
  have r1 : Lib.VarReads Tryz.prog W "unicode/utf8.first" Lib.firstData := by
    have := Lib.laidMet.reads h (n := "unicode/utf8.first") (d := Rows.laid_unicode_utf8_first) (by simp [Lst])
    rwa [first_same] at this
  have r2 : Lib.VarReads Tryz.prog W "unicode/utf8.acceptRanges" Lib.acceptData := by
    have := Lib.laidMet.reads h (n := "unicode/utf8.acceptRanges") (d := Rows.laid_unicode_utf8_acceptRanges) (by simp [Lst])
    rwa [acc_same] at this
  exact utf8Tabs_of_readsT (P := Tryz.prog) (ρ := rho) ⟨Tryz.underlying5, Tryz.underlying311, Tryz.underlying313, Tryz.underlying314⟩ ⟨by kernel_rfl, by kernel_rfl, by kernel_rfl, by kernel_rfl, by kernel_rfl, by kernel_rfl, by kernel_rfl⟩ r1 r2
theorem size_of_laid {W : World} (h : laidMetH Tryz.prog Lst W) : 6 ≤ W.heap.size := by
  have := World.block_lt_of_cell? W ⟨5, 0, none⟩ ((tabs_of_laid h).2 0 (by decide)).1
  exact this
abbrev eofS : ByteArray := ⟨#[69, 79, 70]⟩
/-- The witness's world: the settled one, a block more (io.EOF's own), the three listed variables as they are laid. -/
noncomputable def laidWorld (os : Os) : World :=
  let N := (World.settled Tryz.prog os).heap.size
  let w0 := World.holding Tryz.prog os ⟨#[.cells #[.string eofS] 192], #[], []⟩
  let put (h : Array Obj) (g : Nat) (cs : Array Value) : Array Obj := h.modify g fun
    | .cells _ t frozen => .cells cs t frozen
    | o => o
  let h1 := put w0.heap 0 #[.iface 190 (.pointer (some ⟨N, 0, none⟩))]
  let h2 := put h1 4 (Lib.firstTab.map fun z => Value.int .u8 z).toArray
  let h3 := put h2 5 ((List.range 16).flatMap fun i => [Value.int .u8 (Lib.accLo i), Value.int .u8 (Lib.accHi i)]).toArray
  { w0 with heap := h3 }
set_option maxRecDepth 100000 in
theorem laid_met (os : Os) (args : Array Value) : laidMetH Tryz.prog Lst ((laidWorld os).forCall (fun _ _ => 0) ⟨#[], args, []⟩).memory := by
  rw [MakeChecks.laidMetH_plain _ _ _ (by kernel_rfl)]
  exact laidMet_of_run' 8 (by kernel_rfl) (by kernel_rfl)
set_option maxRecDepth 100000 in
theorem wit_vars (os : Os) (args : Array Value) : ((laidWorld os).forCall (fun _ _ => 0) ⟨#[], args, []⟩).variablesRefB Tryz.prog = true := by kernel_rfl

end Go.Proofs.YtfppgplboomdbaaGreatDoor
