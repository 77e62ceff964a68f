/- Part of the proofs of laws.FnIsoTree and laws.FnIsoAt: lemmas and contracts of functions that the two laws reach, each under the hypotheses that its own statement names. -/
import Derived.Ground.NamesProg
import Derived.Shelf.Unicode.ValidAny
import Derived.Test.YtfppgplboomdbaaGreatDoorProg
import Derived.Test.YtfppgplboomdbaaGreatDoorMPart12
import Derived.Test.YtfppgplboomdbaaGreatDoorMG10
import Derived.Test.YtfppgplboomdbaaGreatDoorMPart05
import Derived.Test.YtfppgplboomdbaaGreatDoorMPart09
import Derived.Test.YtfppgplboomdbaaGreatDoorMPart07
/-
  DERIVED: THE SHELF's CONTRACTS AT THIS DUMP, IN PLAIN WORDS (tools/lay-plain.mjs out of 'TryzValid.lean', which tools/lay-shelf.mjs wrote): THE SAME DECLARATIONS UNDER THE SAME NAMES: 'import', 'namespace', 'open', 'def', 'theorem' AND NOTHING ELSE: no command of the shelf's: FOR A HAND-IN. Each laying: the table of numbers ('.._ren') and one theorem, a field a fact of the dump's own or the kernel's comparison; each contract: ONE APPLICATION.
-/
namespace Go.Proofs
open Go.Shelf
def Tryz.laysValid_ren : Go.Shelf.Ren := ⟨fun | 196 => 114 | 259 => 134 | n => n, fun | 9 => 9 | 4 => 4 | 3 => 3 | 5 => 5 | 12 => 12 | 119 => 311 | 0 => 0 | 46 => 122 | 139 => 314 | 138 => 313 | 53 => 193 | n => n, fun | 3 => 4 | 4 => 5 | n => n⟩
theorem Tryz.laysValid : Go.Proofs.Lays.n196 Tryz.prog Tryz.laysValid_ren := {
  mixed := by kernel_rfl
  f196 := Tryz.func114.trans (congrArg some (by kernel_rfl))
  f259 := Tryz.func134.trans (congrArg some (by kernel_rfl))
  t0 := Tryz.underlying0
  a0 := Tryz.isAgg0
  z0 := Tryz.sizeOf0
  v0 := Tryz.zeroValue0
  t3 := Tryz.underlying3
  a3 := Tryz.isAgg3
  z3 := Tryz.sizeOf3
  v3 := Tryz.zeroValue3
  t4 := Tryz.underlying4
  a4 := Tryz.isAgg4
  z4 := Tryz.sizeOf4
  v4 := Tryz.zeroValue4
  t5 := Tryz.underlying5
  a5 := Tryz.isAgg5
  z5 := Tryz.sizeOf5
  v5 := Tryz.zeroValue5
  t9 := Tryz.underlying9
  a9 := Tryz.isAgg9
  z9 := Tryz.sizeOf9
  v9 := Tryz.zeroValue9
  t12 := Tryz.underlying12
  a12 := Tryz.isAgg12
  z12 := Tryz.sizeOf12
  v12 := Tryz.zeroValue12
  t46 := Tryz.underlying122
  a46 := Tryz.isAgg122
  z46 := Tryz.sizeOf122
  v46 := Tryz.zeroValue122
  t53 := Tryz.underlying193
  a53 := Tryz.isAgg193
  z53 := Tryz.sizeOf193
  v53 := Tryz.zeroValue193
  t119 := Tryz.underlying311
  a119 := Tryz.isAgg311
  z119 := Tryz.sizeOf311
  t138 := Tryz.underlying313
  a138 := Tryz.isAgg313
  z138 := Tryz.sizeOf313
  v138 := Tryz.zeroValue313
  t139 := Tryz.underlying314
  a139 := Tryz.isAgg314
  z139 := Tryz.sizeOf314
  v139 := Tryz.zeroValue314
  g3 := by kernel_rfl
  g4 := by kernel_rfl }
end Go.Proofs

namespace Go.Proofs.YtfppgplboomdbaaGreatDoor
open Go.RowKit

theorem method_readAt (mb : Nat) (w : World) : (method 504 102 (.pointer (some ⟨mb, 0, none⟩)) "ReadAt").run Tryz.prog w = .ok (173, .pointer (some ⟨mb, 0, none⟩)) w := by kernel_rfl
theorem enter_readAt (args : Array Value) (w : World) : (callFunc 173 args).run Tryz.prog w = .ok (.enter 173 args) w := enters_of Tryz.func173 (by kernel_rfl) rfl _ _
theorem invoke_readAt {x y z : Operand} {o : Oper} {at_ : Array TypeId} (ho : o.op = Op.call { callee := .invoke x "ReadAt", args := #[y, z], argTypes := at_ }) (w : World) (mb : Nat) (s t : Value) (a : Act) (h1 : a.eval x = .iface 102 (.pointer (some ⟨mb, 0, none⟩))) (h2 : a.eval y = s) (h3 : a.eval z = t) :
  (execOp a.eval o).run Tryz.prog w = .ok (.enter 173 #[.pointer (some ⟨mb, 0, none⟩), s, t]) w := by
  have hm := method_readAt mb w
  have he := enter_readAt #[.pointer (some ⟨mb, 0, none⟩), s, t] w
  unfold execOp
  have hmap : (#[y, z] : Array Operand).map a.eval = #[s, t] := by simp [h2, h3]
  simp only [ho, resolve, h1, hmap]
  clear h1 h2 h3 hmap
  simp [invoke, hm, he, go_sem, Result.andThen]
/-- make([]byte, L) of a uint32. -/
theorem run_make_u32 (w : World) (L : Nat) (hL : L ≤ 4294967295) : ∃ w', (Instr.makeSlice 26 (.int .u32 (L : Int)) (.int .u32 (L : Int))).run Tryz.prog w = .ok (.slice (some ⟨w.heap.size, 0, none⟩) L L) w' ∧ Blk w' w.heap.size (List.replicate L 0) ∧ Below w.heap.size w w' ∧ w'.heap.size = w.heap.size + 1 := by
  obtain ⟨i, hi, h3, h4, h5⟩ := info_parts Tryz.info5
  have hb' : (i.bytes : Int) * (L : Int) ≤ 281474976710656 := by rw [h5]; omega
  have hrun := run_make (P := Tryz.prog) w 26 5 i (.int .u8 0) Tryz.underlying26 hi h3 .u32 .u32 L L (by omega) (by omega) hb' (by omega)
  obtain ⟨w', a, b, c, d⟩ := run_make_blk w L (by omega)
  have hrun2 := run_make (P := Tryz.prog) w 26 5 i (.int .u8 0) Tryz.underlying26 hi h3 .i64 .i64 L L (by omega) (by omega) hb' (by omega)
  rw [hrun2] at a
  rw [← hrun] at a
  exact ⟨w', a, b, c, d⟩
/-- An image that was read: the file system at fp. -/
structure FsAt (w : World) (B fp mb pt rd : Nat) (D : Bs) (es : List PEnt) : Prop where
  hi : B ≤ w.heap.size
  mem : Mem w B mb D
  fl : fp < B
  b6 : 6 ≤ B
  ws : w.cell? ⟨fp, 1, none⟩ = some (.string ⟨#[]⟩)
  be : w.cell? ⟨fp, 4, none⟩ = some (.iface 102 (.pointer (some ⟨mb, 0, none⟩)))
  bs : w.cell? ⟨fp, 5, none⟩ = some (.int .i64 2048)
  ptc : w.cell? ⟨fp, 9, none⟩ = some (.pointer (some ⟨pt, 0, none⟩))
  rdc : w.cell? ⟨fp, 10, none⟩ = some (.pointer (some ⟨rd, 0, none⟩))
  se : w.cell? ⟨fp, 11, none⟩ = some (.bool false)
  ex : w.cell? ⟨fp, 13, none⟩ = some (.slice none 0 0)
  je : w.cell? ⟨fp, 14, none⟩ = some (.bool false)
  tab : TabAt w B pt es
  tabs : Lib.Utf8Tabs 4 5 w
theorem FsAt.keep {w w' : World} {B fp mb pt rd : Nat} {D : Bs} {es : List PEnt} (h : FsAt w B fp mb pt rd D es) (hb : Below B w w') : FsAt w' B fp mb pt rd D es := by
  have hc := fun (k : Nat) => hb.cell (p := ⟨fp, k, none⟩) h.fl
  have h6 := h.b6
  refine ⟨Nat.le_trans h.hi hb.size, h.mem.keep hb, h.fl, h.b6, (hc _).trans h.ws, (hc _).trans h.be, (hc _).trans h.bs, (hc _).trans h.ptc, (hc _).trans h.rdc, (hc _).trans h.se, (hc _).trans h.ex, (hc _).trans h.je, h.tab.keep hb, fun c hc => ?_, fun i hi => ?_⟩
  · rw [hb.cell (p := ⟨4, c, none⟩) (by show 4 < B; omega)]; exact h.tabs.1 c hc
  · rw [hb.cell (p := ⟨5, 2 * i, none⟩) (by show 5 < B; omega), hb.cell (p := ⟨5, 2 * i + 1, none⟩) (by show 5 < B; omega)]; exact h.tabs.2 i hi
theorem FsAt.below {w w' : World} {B fp mb pt rd : Nat} {D : Bs} {es : List PEnt} (h : FsAt w B fp mb pt rd D es) (hb : Below w.heap.size w w') : FsAt w' B fp mb pt rd D es := h.keep (hb.mono h.hi)
theorem FsAt.drew {w : World} {B fp mb pt rd : Nat} {D : Bs} {es : List PEnt} (h : FsAt w B fp mb pt rd D es) : FsAt w.drew B fp mb pt rd D es := h.keep (Below.refl _ _).drew

end Go.Proofs.YtfppgplboomdbaaGreatDoor

namespace Go.Proofs.YtfppgplboomdbaaGreatDoor
open Go.RowKit

theorem RecIs.ok {nd : Nat → Nd} {n P big lo nx : Nat} {id : Bs} {k : Nat} {dir : Bool} {r : RecE} (hn : NumOK nd n P big lo nx) (hk : k < n) (h : RecIs nd id k dir r) (h1 : 1 ≤ id.length) (h2 : id.length ≤ 100) : RecOK r := by
  have hw := hn.laid.within k hk
  have hb := hn.bigE
  have hl := hn.loE
  have hx := hn.nxle
  have e1 : blk (nd k).size = ((nd k).size + 2047) / 2048 := rfl
  have e2 : blk (P : Int) = ((P : Int) + 2047) / 2048 := rfl
  refine ⟨h.tm, by rw [h.id]; exact h1, by rw [h.id]; exact h2, by rw [h.ext]; omega, by rw [h.ext]; omega, by rw [h.size]; omega, by rw [h.size]; omega⟩
/-- What the reader finds. -/
structure Tr (D : Bs) (nd : Nat → Nd) (ks : Nat → List Nat) (n : Nat) (ds : List Nat) (P : Nat) (vol : Bs) : Prop where
  tree : Tree nd ks n
  good : GoodN nd n
  dirs : DirsOK nd n ds (fun i => (nd i).number)
  apart : ∀ x y, 1 ≤ x → x < n → 1 ≤ y → y < n → (nd x).f.dir = true → (nd y).f.dir = true → nmN nd x = nmN nd y → x = y
  len : 36864 + P ≤ D.length ∧ D.length ≤ 30000000
  vol : ∃ tm, tm.length = 7 ∧ VolIs (seg D 32768 2048) vol (nd 0).ext 2048 P 18 tm
  term : seg D 34816 7 = [255, 67, 68, 48, 48, 49, 1]
  path : seg D 36864 P = pesB (esOf nd ds) ∧ P = (pesB (esOf nd ds)).length ∧ P ≤ 100000
  pok : ∀ e ∈ esOf nd ds, PeOK e
  few : n ≤ 41
  dir : ∀ i, i < n → (nd i).f.dir = true → ∃ rsA, DirB (seg D ((nd i).ext.toNat * 2048) 2048) rsA ∧ DirR nd (ks i) i rsA
  file : ∀ i, i < n → (nd i).f.dir = false → seg D ((nd i).ext.toNat * 2048) (nd i).f.data.size = (nd i).f.data.data.toList
  ext : ∀ i, i < n → 18 ≤ (nd i).ext ∧ (nd i).ext ≤ 10000
  size : ∀ i, i < n → (nd i).size = sizeOfN nd i
  fit : ∀ i, i < n → (nd i).ext.toNat * 2048 + (sizeOfN nd i).toNat ≤ D.length
  small : ∀ i, i < n → (nd i).f.data.size ≤ 60000
theorem pesB_esOf (nd : Nat → Nd) : ∀ ds : List Nat, pesB (esOf nd ds) = pathsD nd true ds
  | [] => rfl
  | d :: ds => by
    have ih := pesB_esOf nd ds
    unfold pesB esOf pathsD at *
    rw [List.map_cons, List.flatMap_cons, List.flatMap_cons, ih, pathEnt_pe]
theorem Img.tr {fs : List FileD} {vol D : Bs} (hg : Good fs) (ha : Apart fs) (hv : vol.length ≤ 32) (h : Img fs vol D) : ∃ nd ks ds P, NodesOf fs nd ∧ Tr D nd ks (fs.length + 1) ds P vol := by
  obtain ⟨nd, ks, ds, P, big, lo, nx, hN, hT, hD, hP, hO, hK⟩ := h
  have hgn := hg.nodes hN
  have hfew := hg.few
  have hlen := hK.len
  have hbig := hO.bigE
  have hlo := hO.loE
  have hnx := hO.nxle
  have hle := hO.laid.le
  have ebP : blk (P : Int) = ((P : Int) + 2047) / 2048 := rfl
  have hext : ∀ i, i < fs.length + 1 → 18 ≤ (nd i).ext ∧ (nd i).ext ≤ 10000 := fun i hi => by
    have hw := hO.laid.within i hi
    have e1 : blk (nd i).size = ((nd i).size + 2047) / 2048 := rfl
    omega
  have hidl : ∀ x, 1 ≤ x → x < fs.length + 1 → 1 ≤ (nid nd x).length ∧ (nid nd x).length ≤ 14 := fun x h1 h2 => by
    have hn := hgn.name x h1 h2
    rw [hgn.id x h1 h2]
    have h3 := hn.pos
    have h4 := hn.le
    split
    · omega
    · simp; omega
  have hdata : ∀ i, i < fs.length + 1 → (nd i).f.data.size ≤ 60000 := fun i hi => by
    rcases Nat.eq_zero_or_pos i with rfl | h0
    · rw [hN.root.1]; show (0 : Nat) ≤ _; omega
    · obtain ⟨f, a1, a2, _⟩ := hN.node (i - 1) (by omega)
      have e : i - 1 + 1 = i := by omega
      rw [e] at a2
      rw [a2]; exact hg.size _ f a1
  have hdsl : ds.length ≤ fs.length + 1 := length_le_of_nodup _ ds hD.nodup (fun x hx => ((hD.mem x).1 hx).1)
  have hpok : ∀ e ∈ esOf nd ds, PeOK e := fun e he => by
    unfold esOf at he
    rw [List.mem_map] at he
    obtain ⟨d, hd, rfl⟩ := he
    have hd2 := (hD.mem d).1 hd
    have hx := hext d hd2.1
    have hpar : (nd d).parent < fs.length + 1 ∧ (nd (nd d).parent).f.dir = true := by
      rcases Nat.eq_zero_or_pos d with rfl | h0
      · rw [hT.par0]; exact ⟨by omega, hT.root⟩
      · have := hT.par d h0 hd2.1; exact ⟨by omega, this.2⟩
    obtain ⟨j, hj⟩ := List.getElem?_of_mem ((hD.mem _).2 hpar)
    have hnum := hD.num j _ hj
    have hjl := (List.getElem?_eq_some_iff.1 hj).1
    have hidp : 1 ≤ (idP nd d).length ∧ (idP nd d).length ≤ 14 := by
      unfold idP
      split
      · simp
      · exact hidl d (by omega) hd2.1
    refine ⟨hidp.1, by have := hidp.2; show (idP nd d).length ≤ _; omega, ?_, ?_, ?_, ?_⟩
    · show 0 ≤ (nd d).ext; omega
    · show (nd d).ext < _; omega
    · show 0 ≤ (nd (nd d).parent).number; rw [hnum]; omega
    · show (nd (nd d).parent).number < _; rw [hnum]; omega
  have hPle : P ≤ 100000 := by
    have hh : (pesB (esOf nd ds)).length ≤ 264 * (esOf nd ds).length := by
      generalize esOf nd ds = es at hpok
      clear hP
      induction es with
      | nil => simp [pesB]
      | cons e es ih =>
        have h1 := ih (fun x hx => hpok x (by simp [hx]))
        have h2 := hpok e (by simp)
        have h3 := peB_len e
        have h4 := h2.id2
        have e0 : pesB (e :: es) = peB e ++ pesB es := rfl
        have h5 : peN e = 8 + e.id.length + e.id.length % 2 := rfl
        rw [e0, List.length_append, List.length_cons]
        omega
    rw [pesB_esOf, ← hP] at hh
    have : (esOf nd ds).length = ds.length := by simp [esOf]
    omega
  obtain ⟨tm, htm, hvol⟩ := hK.vol
  have hsz0 : (nd 0).size = 2048 := by
    rw [hO.size 0 (by omega)]; unfold sizeOfN; rw [if_pos hT.root]
  refine ⟨nd, ks, ds, P, hN, hT, hgn, hD, ha.nodes hN, ?_, ⟨tm, htm, ?_⟩, hK.term, ⟨by rw [hK.path, pesB_esOf], by rw [pesB_esOf]; exact hP, hPle⟩, hpok, by omega, fun i hi hd => ?_, fun i hi hd => hK.file i hi hd, hext, hO.size, fun i hi => ?_, hdata⟩
  · constructor <;> omega
  · rw [hvol]
    have := volD_is vol (nd 0).ext (nd 0).size nx P 18 big tm hv htm
    rw [hsz0] at this
    rw [hsz0]; exact this
  · obtain ⟨Dd, ⟨r0, r1, rs, h0, h1, h2, h3, h4⟩, hl, hs⟩ := hK.dir i hi hd
    have hpar : (nd i).parent < fs.length + 1 := by
      rcases Nat.eq_zero_or_pos i with rfl | h0
      · rw [hT.par0]; omega
      · have := hT.par i h0 hi; omega
    refine ⟨r0 :: r1 :: rs, ⟨fun r hr => ?_, by rw [hs]; exact hl, ⟨_, by rw [hs]; exact h3⟩⟩, r0, r1, rs, rfl, h0, h1, h2⟩
    rw [List.mem_cons, List.mem_cons] at hr
    rcases hr with rfl | rfl | hr
    · exact h0.ok hO hi (by simp) (by simp)
    · exact h1.ok hO hpar (by simp) (by simp)
    · have hg2 := h2.get
      obtain ⟨j, hj, e⟩ := List.getElem_of_mem hr
      have hkj : (ks i)[j]? = some ((ks i)[j]'(by omega)) := List.getElem?_eq_getElem (by omega)
      generalize (ks i)[j]'(by omega) = k at hkj
      have hk2 := (hT.mem i hi k).1 (List.mem_of_getElem? hkj)
      have hri := hg2.2 j k r hkj (by rw [List.getElem?_eq_getElem hj, e])
      have hil := hidl k hk2.1 hk2.2.1
      exact hri.ok hO hk2.2.1 hil.1 (by omega)
  · have hw := hO.laid.within i hi
    rw [hO.size i hi] at hw
    have e1 : blk (sizeOfN nd i) = (sizeOfN nd i + 2047) / 2048 := rfl
    omega

end Go.Proofs.YtfppgplboomdbaaGreatDoor
