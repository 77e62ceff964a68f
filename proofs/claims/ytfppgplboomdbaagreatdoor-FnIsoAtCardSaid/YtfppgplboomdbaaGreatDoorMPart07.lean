/- Part of the proofs of laws.FnIsoTree and laws.FnIsoAt: lemmas and contracts of functions that the two laws reach, each under the hypotheses that its own statement names. -/
import Derived.Test.YtfppgplboomdbaaGreatDoorMPart06
import Derived.Deep.DeepCutAuto
namespace Go.Proofs.YtfppgplboomdbaaGreatDoor
open Go.RowKit

theorem dirEntB_any (g o n c : Nat) (r : RecE) (w : World) (h : RecOK r) (hr : RecAt w g o r) (hn : n = recN r) (hnc : n ≤ c) :
    Calls Tryz.prog 107 #[.slice (some ⟨g, o, none⟩) n c, .slice none 0 0] w fun e w' => DePost w r e w' := by
  have HH := Lib.hid h
  have HR := Lib.hid hr
  have HN := Lib.hid hn
  clear h hr hn
  go_enter Tryz.func107, Tryz.ntmps107
  go_wp2_with (first
    | (go_at_call 131
       refine (dirEnt_any g o n c r w HH.out HR.out HN.out hnc).mono ?_
       rintro e w2 ⟨p, rfl, hp, he, hb⟩
       have HP := Lib.hid he
       have HB := Lib.hid hb
       clear he hb))
  go_ret2
  exact ⟨p, rfl, hp, HP.out, HB.out⟩
theorem EntAt.cells {w : World} {p : Nat} {r : RecE} {fs : Value} (h : EntAt w p r fs) : w.cell? ⟨p, 16, none⟩ = some fs ∧ w.frozen? ⟨p, 16, none⟩ = false ∧ (∃ ge, w.cell? ⟨p, 18, none⟩ = some (.slice (some ⟨ge, 0, none⟩) 0 0)) ∧ p < w.heap.size := by
  obtain ⟨a, b, c, ge, h1⟩ := h
  refine ⟨by rw [cell_of_row _ _ _ _ _ _ h1]; rfl, ?_, ⟨ge, by rw [cell_of_row _ _ _ _ _ _ h1]; rfl⟩, lt_of_block h1⟩
  simp [World.frozen?, h1]
theorem EntAt.set {w : World} {p : Nat} {r : RecE} {fs : Value} (h : EntAt w p r fs) (v : Value) : EntAt (w.setCell ⟨p, 16, none⟩ v) p r v := by
  obtain ⟨a, b, c, ge, h1⟩ := h
  refine ⟨a, b, c, ge, ?_⟩
  have hl := lt_of_block h1
  have h' : w.heap[p] = _ := (Array.getElem?_eq_some_iff.1 h1).2
  show (w.heap.modify p _)[p]? = _
  rw [Array.getElem?_eq_getElem (by simpa using hl), Array.getElem_modify_self, h']
  rfl
theorem RecAt.drew {w : World} {g o : Nat} {r : RecE} (h : RecAt w g o r) : RecAt w.drew g o r := ⟨h.c0, h.c1, h.ext, h.size, h.tm, h.c25, h.c28, h.c29, h.c32, h.id⟩

end Go.Proofs.YtfppgplboomdbaaGreatDoor

namespace Go.Proofs.YtfppgplboomdbaaGreatDoor
open Go.RowKit

def PdePost (w : World) (r : RecE) (fp : Nat) (e : Ending) (w' : World) : Prop := ∃ p, e = .returned (.tuple #[.pointer (some ⟨p, 0, none⟩), .nilIface]) ∧ w.heap.size ≤ p ∧ EntAt w' p r (.pointer (some ⟨fp, 0, none⟩)) ∧ Below w.heap.size w w'
set_option maxHeartbeats 4000000 in
set_option maxRecDepth 100000 in
theorem parseDirEntry_any (g o n c fp : Nat) (se : Bool) (r : RecE) (w : World) (h : RecOK r) (hr : RecAt w g o r) (hn : n = recN r) (hnc : n ≤ c) (hse : w.cell? ⟨fp, 11, none⟩ = some (.bool se)) (hex : w.cell? ⟨fp, 13, none⟩ = some (.slice none 0 0)) :
    Calls Tryz.prog 87 #[.slice (some ⟨g, o, none⟩) n c, .pointer (some ⟨fp, 0, none⟩)] w fun e w' => PdePost w r fp e w' := by
  have c0 := hr.c0
  rw [← hn] at c0
  have hn1 : 34 ≤ n := by rw [hn, recN]; have := h.id1; omega
  have hn2 : n ≤ 134 := by rw [hn, recN]; have := h.id2; omega
  have hncz : (n : Int) ≤ (c : Int) := by omega
  have hn0 : (0 : Int) ≤ (n : Int) := by omega
  have hnz : ((n : Int) == 0) = false := by simp; omega
  have hfl : fp < w.heap.size := World.block_lt_of_cell? w _ hse
  have HH := Lib.hid h
  have HR := Lib.hid hr
  have HN := Lib.hid hn
  clear h hr hn
  go_enter Tryz.func87, Tryz.ntmps87
  go_upto_region 6 with (fail)
  clear c0 hnz
  go_cut [7, 8] from 28 to 38 (fun t7 t8 wx => ∃ p, t7 = .pointer (some ⟨p, 0, none⟩) ∧ t8 = .nilIface ∧ w.heap.size ≤ p ∧ EntAt wx p r (.pointer none) ∧ Below w.heap.size w wx)
  case first =>
    refine wp_region_noPanic ?_
    refine wp_region_held_drew (S := fun w' => w'.cell? ⟨fp, 13, none⟩ = some (.slice none 0 0)) (by kernel_rfl) hex (fun hS0 => ?_)
    refine hTake (i := 0) (v := ?_) (some 29) rfl rfl (by kernel_rfl) (by kernel_rfl) (by kernel_rfl) (fun _ _ _ h => h) (Or.inl ⟨by rfl, ?hy6x0⟩) hS0 ?hr6x0
    case hy6x0 => (intro w' hSw; clear hSw; go_simp; try with_reducible rfl)
    try simp only [Act.put, List.setIfInBounds_toArray, List.set_cons_zero, List.set_cons_succ]
    refine hTake (i := 1) (v := ?_) (some 30) rfl rfl (by kernel_rfl) (by kernel_rfl) (by kernel_rfl) (fun _ _ _ h => h) (Or.inl ⟨by rfl, ?hy6x1⟩) hS0 ?hr6x1
    case hy6x1 => (intro w' hSw; clear hSw; go_simp; try with_reducible rfl)
    try simp only [Act.put, List.setIfInBounds_toArray, List.set_cons_zero, List.set_cons_succ]
    refine hTake (i := 2) (v := ?_) (some 31) rfl rfl (by kernel_rfl) (by kernel_rfl) (by kernel_rfl) (fun _ _ _ h => h) (Or.inl ⟨by rfl, ?hy6x2⟩) hS0 ?hr6x2
    case hy6x2 => (intro w' hSw; clear hSw; go_simp; try with_reducible rfl)
    try simp only [Act.put, List.setIfInBounds_toArray, List.set_cons_zero, List.set_cons_succ]
    refine hTake (i := 3) (v := ?_) (some 32) rfl rfl (by kernel_rfl) (by kernel_rfl) (by kernel_rfl) (fun _ _ _ h => h) (Or.inl ⟨by rfl, ?hy6x3⟩) hS0 ?hr6x3
    case hy6x3 => (intro w' hSw; clear hSw; go_simp; try with_reducible rfl)
    try simp only [Act.put, List.setIfInBounds_toArray, List.set_cons_zero, List.set_cons_succ]
    refine hTake (i := 4) (v := ?_) (some 33) rfl rfl (by kernel_rfl) (by kernel_rfl) (by kernel_rfl) (fun _ _ _ h => h) (Or.inl ⟨by rfl, ?hy6x4⟩) hS0 ?hr6x4
    case hy6x4 => (intro w' hSw; clear hSw; go_simp; try with_reducible rfl)
    try simp only [Act.put, List.setIfInBounds_toArray, List.set_cons_zero, List.set_cons_succ]
    refine hTake (i := 5) (v := ?_) (some 34) rfl rfl (by kernel_rfl) (by kernel_rfl) (by kernel_rfl) (fun _ _ _ h => h) (Or.inl ⟨by rfl, ?hy6x5⟩) hS0 ?hr6x5
    case hy6x5 => (intro w' hSw; clear hSw; go_simp; try with_reducible rfl)
    try simp only [Act.put, List.setIfInBounds_toArray, List.set_cons_zero, List.set_cons_succ]
    refine hTake (i := 6) (v := ?_) (some 35) rfl rfl (by kernel_rfl) (by kernel_rfl) (by kernel_rfl) (fun _ _ _ h => h) (Or.inl ⟨by rfl, ?hy6x6⟩) hS0 ?hr6x6
    case hy6x6 => (intro w' hSw; have hSx := hSw; clear hSw; go_simp; try with_reducible rfl)
    try simp only [Act.put, List.setIfInBounds_toArray, List.set_cons_zero, List.set_cons_succ]
    refine wpAnyH_all (rs := [7]) (by kernel_rfl) (by simp) (rows1 ?_)
    refine hCall (f := 107) (args := #[.slice (some ⟨g, o, none⟩) n c, .slice none 0 0]) (some 36) rfl rfl rfl (by go_simp) ?_
    refine (dirEntB_any g o n c r w.drew HH.out HR.out.drew HN.out hnc).mono ?_
    rintro e w2 ⟨p, rfl, hp, he, hb⟩
    have hb' : Below w.heap.size w w2 := below_of_drew hb
    have hS2 : w2.cell? ⟨fp, 13, none⟩ = some (.slice none 0 0) := (hb'.cell (p := ⟨fp, 13, none⟩) hfl).trans hex
    refine ⟨_, rfl, hS2, ?_⟩
    try simp only [Act.put, List.setIfInBounds_toArray, List.set_cons_zero, List.set_cons_succ]
    refine hTake (i := 8) (v := ?_) (some 28) rfl rfl (by kernel_rfl) (by kernel_rfl) (by kernel_rfl) (fun _ _ _ h => h) (Or.inl ⟨by rfl, ?hy6x8⟩) hS2 ?hr6x8
    case hy6x8 => (intro w' hSw; clear hSw; go_simp; try with_reducible rfl)
    try simp only [Act.put, List.setIfInBounds_toArray, List.set_cons_zero, List.set_cons_succ]
    refine hTake (i := 9) (v := ?_) (some 37) rfl rfl (by kernel_rfl) (by kernel_rfl) (by kernel_rfl) (fun _ _ _ h => h) (Or.inl ⟨by rfl, ?hy6x9⟩) hS2 ?hr6x9
    case hy6x9 => (intro w' hSw; clear hSw; go_simp; try with_reducible rfl)
    try simp only [Act.put, List.setIfInBounds_toArray, List.set_cons_zero, List.set_cons_succ]
    refine hTake (i := 10) (v := ?_) (some 38) rfl rfl (by kernel_rfl) (by kernel_rfl) (by kernel_rfl) (fun _ _ _ h => h) (Or.inl ⟨by rfl, ?hy6x10⟩) hS2 ?hr6x10
    case hy6x10 => (intro w' hSw; clear hSw; go_simp; try with_reducible rfl)
    try simp only [Act.put, List.setIfInBounds_toArray, List.set_cons_zero, List.set_cons_succ]
    refine hTake (i := 11) (v := ?_) (some 7) rfl rfl (by kernel_rfl) (by kernel_rfl) (by kernel_rfl) (fun _ _ _ h => h) (Or.inl ⟨by rfl, ?hy6x11⟩) hS2 ?hr6x11
    case hy6x11 => (intro w' hSw; clear hSw; go_simp; try with_reducible rfl)
    try simp only [Act.put, List.setIfInBounds_toArray, List.set_cons_zero, List.set_cons_succ]
    refine hTake (i := 12) (v := ?_) (some 8) rfl rfl (by kernel_rfl) (by kernel_rfl) (by kernel_rfl) (fun _ _ _ h => h) (Or.inl ⟨by rfl, ?hy6x12⟩) hS2 ?hr6x12
    case hy6x12 => (intro w' hSw; clear hSw; go_simp; try with_reducible rfl)
    try simp only [Act.put, List.setIfInBounds_toArray, List.set_cons_zero, List.set_cons_succ]
    refine wpAnyH_done (by kernel_rfl) ?_ _
    refine NoPanic.normal ?_
    have HE := Lib.hid he
    have HB := Lib.hid hb'
    clear he hb hb' hS2
    go_wp2_with fail
    go_meet
    exact ⟨p, rfl, rfl, hp, HE.out, HB.out⟩
  obtain ⟨p, rfl, rfl, hp, he, hb⟩ := hcut
  obtain ⟨p16, pf16, ⟨ge, p18⟩, hpl⟩ := he.cells
  have hse2 : wc.cell? ⟨fp, 11, none⟩ = some (.bool se) := (hb.cell (p := ⟨fp, 11, none⟩) hfl).trans hse
  have hpf : p ≠ fp := by omega
  have hpf' : fp ≠ p := by omega
  have HE := Lib.hid he
  have HB := Lib.hid hb
  clear he hb hse hex
  cases se with
  | true =>
    go_wp2
    go_ret2
    exact ⟨p, rfl, hp, HE.out.set _, HB.out.setCell (by exact hp) _⟩
  | false =>
    go_wp2
    go_ret2
    exact ⟨p, rfl, hp, HE.out.set _, HB.out.setCell (by exact hp) _⟩

end Go.Proofs.YtfppgplboomdbaaGreatDoor

namespace Go.Proofs.YtfppgplboomdbaaGreatDoor
open Go.RowKit

def ptrV (p : Nat) : Value := .pointer (some ⟨p, 0, none⟩)
theorem mk165 (w : World) : (Instr.makeSlice 165 (.int .i64 0) (.int .i64 20)).run Tryz.prog w = .ok (.slice (some ⟨w.heap.size, 0, none⟩) 0 20) (w.alloc (.cells (List.replicate 20 (Value.pointer none)).toArray 111)) := by kernel_rfl
theorem own_empty (w : World) (B : Nat) (t : TypeId) (cs : List Value) (hB : B ≤ w.heap.size) (hn : cs.length ≤ maxLen) : OwnS (w.alloc (.cells cs.toArray t)) B 1 (.slice (some ⟨w.heap.size, 0, none⟩) 0 cs.length) 0 [] := by
  refine ⟨rfl, .inr ⟨w.heap.size, cs.length, rfl, hB, by simp, Nat.zero_le _, hn, fun j u hu => by simp at hu, fun j hj => ?_⟩⟩
  have h := there_alloc_new w cs.toArray t cs.length (by simp) j (by omega)
  rw [Nat.zero_add] at h
  exact h
/-- The entries that were read. -/
structure Ents (w wr : World) (fp : Nat) (ps : List Nat) (rs : List RecE) : Prop where
  len : ps.length = rs.length
  ent : ∀ (i p : Nat) (r : RecE), ps[i]? = some p → rs[i]? = some r → w.heap.size ≤ p ∧ EntAt wr p r (.pointer (some ⟨fp, 0, none⟩))
theorem Ents.below {w wr w' : World} {fp : Nat} {ps : List Nat} {rs : List RecE} (h : Ents w wr fp ps rs) (hb : Below wr.heap.size wr w') : Ents w w' fp ps rs :=
  ⟨h.len, fun i p r h1 h2 => ⟨(h.ent i p r h1 h2).1, (h.ent i p r h1 h2).2.below hb⟩⟩
theorem Ents.snoc {w wr : World} {fp p : Nat} {r : RecE} {ps : List Nat} {rs : List RecE} (h : Ents w wr fp ps rs) (hp : w.heap.size ≤ p) (he : EntAt wr p r (.pointer (some ⟨fp, 0, none⟩))) : Ents w wr fp (ps ++ [p]) (rs ++ [r]) := by
  refine ⟨by simp [h.len], fun i q s h1 h2 => ?_⟩
  have hl := h.len
  by_cases hi : i < ps.length
  · rw [List.getElem?_append_left hi] at h1
    rw [List.getElem?_append_left (by omega)] at h2
    exact h.ent i q s h1 h2
  · have e1 : i - ps.length = 0 := by
      rcases Nat.eq_zero_or_pos (i - ps.length) with h0 | h0
      · exact h0
      · rw [List.getElem?_append_right (by omega), List.getElem?_eq_none (by simp; omega)] at h1; cases h1
    rw [List.getElem?_append_right (by omega), e1] at h1
    rw [List.getElem?_append_right (by omega), ← hl, e1] at h2
    simp at h1 h2
    subst h1 h2
    exact ⟨hp, he⟩
theorem recsB_take {rs : List RecE} {k : Nat} {r : RecE} (h : rs[k]? = some r) : recsB (rs.take (k + 1)) = recsB (rs.take k) ++ recB r := by
  rw [List.take_add_one, h]; exact recsB_snoc _ _
/-- A directory's bytes: records, then nothing. -/
structure DirB (D : Bs) (rs : List RecE) : Prop where
  ok : ∀ r ∈ rs, RecOK r
  len : D.length = 2048
  eq : ∃ z, D = recsB rs ++ List.replicate z 0
theorem recsB_split {rs : List RecE} {k : Nat} {r : RecE} (h : rs[k]? = some r) : ∃ T, recsB rs = recsB (rs.take k) ++ (recB r ++ T) := by
  refine ⟨recsB (rs.drop (k + 1)), ?_⟩
  have e : rs = rs.take k ++ (r :: rs.drop (k + 1)) := by
    obtain ⟨hk, e⟩ := List.getElem?_eq_some_iff.1 h
    rw [← e, ← List.drop_eq_getElem_cons hk, List.take_append_drop]
  conv => lhs; rw [e]
  simp [recsB]
theorem DirB.at {D : Bs} {rs : List RecE} (h : DirB D rs) {k : Nat} {r : RecE} (hr : rs[k]? = some r) : (∀ j, j < (recB r).length → D[(recsB (rs.take k)).length + j]? = (recB r)[j]?) ∧ (recsB (rs.take k)).length + recN r ≤ 2048 := by
  obtain ⟨T, e⟩ := recsB_split hr
  obtain ⟨z, ez⟩ := h.eq
  have hl := h.len
  have hok := h.ok r (List.mem_of_getElem? hr)
  rw [ez, e] at hl ⊢
  refine ⟨fun j hj => ?_, ?_⟩
  · rw [List.append_assoc, List.getElem?_append_right (by omega)]
    have e2 : (recsB (rs.take k)).length + j - (recsB (rs.take k)).length = j := by omega
    rw [e2, List.append_assoc, List.getElem?_append_left hj]
  · rw [← recB_len r hok]
    simp only [List.length_append] at hl
    omega
theorem DirB.zero {D : Bs} {rs : List RecE} (h : DirB D rs) (hlt : (recsB rs).length < 2048) : D[(recsB rs).length]? = some 0 := by
  obtain ⟨z, ez⟩ := h.eq
  have hl := h.len
  rw [ez] at hl ⊢
  rw [List.getElem?_append_right (Nat.le_refl _), Nat.sub_self]
  simp only [List.length_append, List.length_replicate] at hl
  rw [List.getElem?_replicate, if_pos (by omega)]
theorem Ents.get {w wr : World} {fp : Nat} {ps : List Nat} {rs : List RecE} (h : Ents w wr fp ps rs) {i p : Nat} (hp : ps[i]? = some p) : ∃ r, rs[i]? = some r ∧ w.heap.size ≤ p ∧ EntAt wr p r (.pointer (some ⟨fp, 0, none⟩)) := by
  have hi : i < rs.length := by rw [← h.len]; exact (List.getElem?_eq_some_iff.1 hp).1
  exact ⟨rs[i], List.getElem?_eq_getElem hi, h.ent i p _ hp (List.getElem?_eq_getElem hi)⟩
theorem Ents.lt {w wr : World} {fp p : Nat} {ps : List Nat} {rs : List RecE} (h : Ents w wr fp ps rs) (hp : p ∈ ps) : p < wr.heap.size := by
  obtain ⟨i, hi⟩ := List.getElem?_of_mem hp
  obtain ⟨r, _, _, he⟩ := h.get hi
  exact he.cells.2.2.2
theorem Ents.keep {w wr w' : World} {fp : Nat} {ps : List Nat} {rs : List RecE} (h : Ents w wr fp ps rs) (hk : ∀ p ∈ ps, p < wr.heap.size → w'.heap[p]? = wr.heap[p]?) : Ents w w' fp ps rs := by
  refine ⟨h.len, fun i p r h1 h2 => ?_⟩
  obtain ⟨a, b, c, ge, e⟩ := (h.ent i p r h1 h2).2
  exact ⟨(h.ent i p r h1 h2).1, a, b, c, ge, (hk p (List.mem_of_getElem? h1) (lt_of_block e)).trans e⟩

end Go.Proofs.YtfppgplboomdbaaGreatDoor

namespace Go.Proofs.YtfppgplboomdbaaGreatDoor
open Go.RowKit

theorem Tryz.i111 : (Tryz.prog.info? 111).map (fun i => (i.zero, i.size, i.bytes)) = some (some (.pointer none), 1, 8) := by kernel_rfl
theorem blk_range {w : World} {g : Nat} {D S : Bs} {o : Nat} (h : Blk w g D) (hs : ∀ j, j < S.length → D[o + j]? = S[j]?) : w.rangeAt g o (bcs S) := fun j v hv => by
  have hj : j < S.length := by
    rcases Nat.lt_or_ge j S.length with h1 | h1
    · exact h1
    · rw [List.getElem?_eq_none (by rw [bcs_length]; exact h1)] at hv; cases hv
  rw [h.cell, hs j hj]
  rw [bcs_get] at hv; exact hv
def PdesPost (w : World) (fp : Nat) (rs : List RecE) (e : Ending) (w' : World) : Prop := ∃ v ps, e = .returned (.tuple #[v, .nilIface]) ∧ OwnS w' w.heap.size 1 v ps.length (ps.map ptrV) ∧ Ents w w' fp ps rs ∧ Below w.heap.size w w'
set_option maxHeartbeats 8000000 in
set_option maxRecDepth 100000 in
theorem parseDirEntries_any (gb fp : Nat) (D : Bs) (rs : List RecE) (w : World) (hD : Blk w gb D) (hd : DirB D rs) (hse : w.cell? ⟨fp, 11, none⟩ = some (.bool false)) (hbs : w.cell? ⟨fp, 5, none⟩ = some (.int .i64 2048)) (hex : w.cell? ⟨fp, 13, none⟩ = some (.slice none 0 0)) (hfew : rs.length ≤ 1000) :
    Calls Tryz.prog 123 #[.slice (some ⟨gb, 0, none⟩) 2048 2048, .pointer (some ⟨fp, 0, none⟩)] w fun e w' => PdesPost w fp rs e w' := by
  have hmk := mk165 w
  have hfl : fp < w.heap.size := World.block_lt_of_cell? w _ hse
  have hgl := hD.lt
  have HD := Lib.hid hD
  have HDB := Lib.hid hd
  have HSE := Lib.hid hse
  have HBS := Lib.hid hbs
  have HEX := Lib.hid hex
  obtain ⟨i111, hi, hz0, hz1, hz2⟩ := info_parts Tryz.i111
  clear hD hd hse hbs hex
  go_enter Tryz.func123, Tryz.ntmps123
  go_wp2
  clear hmk
  go_loopw [6, 7, 8] (fun v cv iv wr => ∃ (k off : Nat) (cn : Int) (ps : List Nat) (ad : Option Addr) (m cap : Nat), v = .slice ad m cap ∧ ps.length = m ∧ OwnS wr w.heap.size 1 (.slice ad m cap) m (ps.map ptrV) ∧ k ≤ rs.length ∧ Ents w wr fp ps (rs.take k) ∧ cv = .int .i64 cn ∧ iv = .int .i64 off ∧ (off = (recsB (rs.take k)).length ∨ (k = rs.length ∧ off = 2048)) ∧ off ≤ 2048 ∧ Below w.heap.size w wr ∧ ∀ p ∈ ps, (Value.slice ad m cap).ownBlock ≠ some p) (fun _ _ iv _ => 2048 - (intOf iv).toNat)
  case atStart =>
    refine ⟨0, 0, 0, [], some ⟨w.heap.size, 0, none⟩, 0, 20, rfl, rfl, ?_, Nat.zero_le _, ⟨rfl, fun i p r h => by simp at h⟩, rfl, rfl, .inl (by simp [recsB]), by omega, (Below.refl _ _).alloc (Nat.le_refl _) _, fun p hp => by simp at hp⟩
    exact own_empty w _ 111 (List.replicate 20 (Value.pointer none)) (Nat.le_refl _) (by simp [maxLen])
  case round =>
    obtain ⟨k, off, cn, ps, ad, m, cap, rfl, hm, hown, hk, hent, rfl, rfl, hoff, hle, hbel, hno⟩ := hrel
    have hsz := hbel.size
    have HOWN := Lib.hid hown
    have HENT := Lib.hid hent
    have HBEL := Lib.hid hbel
    have HM := Lib.hid hm
    have HNO := Lib.hid hno
    clear hno
    by_cases hlt : off < 2048
    · have hoff2 : off = (recsB (rs.take k)).length := by rcases hoff with h | h; exact h; omega
      have HOFF := Lib.hid hoff2
      have cse : wr.cell? ⟨fp, 11, none⟩ = some (.bool false) := (hbel.cell (p := ⟨fp, 11, none⟩) hfl).trans HSE.out
      have cbs : wr.cell? ⟨fp, 5, none⟩ = some (.int .i64 2048) := (hbel.cell (p := ⟨fp, 5, none⟩) hfl).trans HBS.out
      have cex : wr.cell? ⟨fp, 13, none⟩ = some (.slice none 0 0) := (hbel.cell (p := ⟨fp, 13, none⟩) hfl).trans HEX.out
      have hDr : Blk wr gb D := HD.out.same (hbel.block gb hgl)
      have hoz : (off : Int) < 2048 := by omega
      by_cases hkl : k < rs.length
      · obtain ⟨r, hr⟩ : ∃ r, rs[k]? = some r := ⟨rs[k], List.getElem?_eq_getElem hkl⟩
        have hok := HDB.out.ok r (List.mem_of_getElem? hr)
        obtain ⟨hat, hfit⟩ := HDB.out.at hr
        rw [← hoff2] at hat hfit
        have hra := RecAt.of (blk_range hDr hat) hok
        have c0 := hra.c0
        generalize hN : recN r = N at c0 hfit
        have hN1 : 34 ≤ N := by rw [← hN, recN]; have := hok.id1; omega
        have hNz : ((N : Int) == 0) = false := by simp; omega
        have hfz : (off : Int) + (N : Int) ≤ 2048 := by omega
        have hfz2 : (off : Int) ≤ (off : Int) + (N : Int) := by omega
        have e1 : off + N - off = N := by omega
        have zc : ¬ 2048 = off := by omega
        have HRA := Lib.hid hra
        have HOK := Lib.hid hok
        have HN := Lib.hid hN
        have HR := Lib.hid hr
        clear hra hok hat hr hN hDr hoff hoff2 hown hent hbel hm
        go_upto_region 20 with (first
          | (go_at_call 87
             refine (parseDirEntry_any gb off N _ fp false r wr HOK.out HRA.out HN.out.symm (by omega) cse cex).mono ?_
             rintro e w2 ⟨p, rfl, hp, he, hb⟩
             have cse := (hb.cell (p := ⟨fp, 11, none⟩) (by show fp < _; omega)).trans cse
             have HE := Lib.hid he
             have hp' := hp
             have HB := Lib.hid hb
             clear he hb))
        have hs2 := HB.out.size
        have hm1 : m ≤ 1000 := by
          have h1 := HENT.out.len
          rw [HM.out, List.length_take] at h1
          omega
        go_wp2_with (first
          | (refine wpList_append_ownS' rfl (.tmp 76) (.tmp 78) 165 rfl w.heap.size 111 i111 (.pointer none) 1 8 Tryz.underlying165 hi hz0 hz1 hz2 rfl (by decide) (.slice ad m cap) m _ rfl ((HOWN.out.below HB.out).alloc _) ⟨w2.heap.size, 0, none⟩ 1 1 [ptrV p] rfl rfl (row_at w2 _ 111) (by intro u hu; simp at hu; subst hu; rfl) (by omega) (by unfold maxLen; omega) (by omega) (by simp; omega) ?_
             intro v5 w5 hA
             have ho5 := hA.own
             obtain ⟨ad5, cap5, rfl⟩ := ho5.slice
             have HO5 := Lib.hid ho5
             have HB5 := Lib.hid hA.below
             have hz5 := hA.grew
             have HOT := Lib.hid hA.other
             have HBK := Lib.hid hA.block
             clear hA ho5))
        go_roundw
        case rel =>
          have hbw2 : Below w.heap.size w w2 := HBEL.out.trans (HB.out.mono hsz)
          have hbw5 : Below w.heap.size w w5 := (hbw2.alloc (by omega) _).trans HB5.out
          have hlo := fun q (hq : (Value.slice ad m cap).ownBlock = some q) => (HOWN.out.own_lt hq).1
          have hpl := HE.out.cells.2.2.2
          have hsn : (w2.alloc (.cells #[ptrV p] 111)).heap.size = w2.heap.size + 1 := by simp
          have hot : ∀ q, q < w2.heap.size + 1 → (Value.slice ad m cap).ownBlock ≠ some q → w5.heap[q]? = (w2.alloc (.cells #[ptrV p] 111)).heap[q]? := fun q h1 h2 => HOT.out q (by show q < (w2.alloc (.cells #[ptrV p] 111)).heap.size; rw [hsn]; exact h1) h2
          have hent2 : Ents w w2 fp ps (rs.take k) := HENT.out.below HB.out
          have hent3 : Ents w w5 fp ps (rs.take k) := hent2.keep (fun q hq hql => by
            rw [hot q (by omega) (HNO.out q hq)]
            exact Below.heap_alloc w2 _ q hql)
          have he5 : EntAt w5 p r (.pointer (some ⟨fp, 0, none⟩)) := by
            obtain ⟨a, b, c, ge, h1⟩ := HE.out
            refine ⟨a, b, c, ge, ?_⟩
            rw [hot p (by omega) (fun e => by have := hlo p e; omega)]
            rw [Below.heap_alloc w2 _ p hpl]; exact h1
          have htk : rs.take (k + 1) = rs.take k ++ [r] := by rw [List.take_add_one, HR.out]; rfl
          refine ⟨k + 1, off + N, _, ps ++ [p], ad5, m + 1, cap5, rfl, by simp [HM.out], by rw [List.map_append]; exact HO5.out, by omega, ?_, rfl, by go_num, .inl ?_, by omega, hbw5, fun q hq => ?_⟩
          · rw [htk]; exact hent3.snoc (by omega) he5
          · rw [recsB_take HR.out, List.length_append, recB_len r HOK.out, HN.out, ← HOFF.out]
          · intro e
            rcases HBK.out q e with h1 | h1
            · rw [List.mem_append, List.mem_singleton] at hq
              rcases hq with hq | rfl
              · exact HNO.out q hq h1
              · have := hlo _ h1; omega
            · have h1 : (w2.alloc (.cells #[ptrV p] 111)).heap.size ≤ q := h1
              rw [hsn] at h1
              rw [List.mem_append, List.mem_singleton] at hq
              rcases hq with hq | rfl
              · have := (hent2.lt hq); omega
              · omega
        case measure => simp [intOf]; omega
      · obtain rfl : k = rs.length := by omega
        have htk : rs.take rs.length = rs := List.take_length
        rw [htk] at hoff2
        have hz := HDB.out.zero (by omega)
        rw [← hoff2] at hz
        have c0 : wr.cell? ⟨gb, off, none⟩ = some (.int .u8 0) := by rw [hDr.cell, hz]; rfl
        have h0 : (0 : Int) ≤ (off : Int) := by omega
        have hmod : (off : Int) % 2048 = off := by omega
        have hsub1 : (0 : Int) ≤ 2048 - (off : Int) := by omega
        have hadd : (off : Int) + (2048 - (off : Int)) = 2048 := by omega
        clear hoff hoff2 hz hDr hown hent hbel hm
        go_wp2
        go_quiet (fail)
        go_wp2
        go_roundw
        case rel =>
          refine ⟨rs.length, 2048, _, ps, ad, m, cap, rfl, HM.out, HOWN.out, Nat.le_refl _, HENT.out.keep (fun _ _ _ => rfl), rfl, ?_, .inr ⟨rfl, rfl⟩, by omega, below_drewN HBEL.out _, HNO.out⟩
          rfl
        case measure => simp [intOf]; omega
    · obtain rfl : off = 2048 := by omega
      have hkr : k = rs.length := by
        rcases hoff with h | h
        · rcases Nat.lt_or_ge k rs.length with hl | hl
          · have h2 := (HDB.out.at (List.getElem?_eq_getElem hl)).2
            have h3 := (HDB.out.ok _ (List.getElem_mem hl)).id1
            unfold recN at h2
            omega
          · omega
        · exact h.1
      subst hkr
      clear hoff
      go_wp2
      go_ret2
      have htk : rs.take rs.length = rs := List.take_length
      have h := HENT.out
      rw [htk] at h
      refine ⟨.slice ad m cap, ps, rfl, ?_, h, HBEL.out⟩
      rw [HM.out]
      exact HOWN.out

end Go.Proofs.YtfppgplboomdbaaGreatDoor

namespace Go.Proofs.YtfppgplboomdbaaGreatDoor
open Go.RowKit

/-- An entry of the path table. -/
structure PEnt where
  id : Bs
  loc : Int
  par : Int
structure PeOK (e : PEnt) : Prop where
  id1 : 1 ≤ e.id.length
  id2 : e.id.length ≤ 200
  loc0 : 0 ≤ e.loc
  loc1 : e.loc < 4294967296
  par0 : 0 ≤ e.par
  par1 : e.par < 65536
def peB (e : PEnt) : Bs := [by8 (e.id.length : Nat), 0] ++ numB true 4 e.loc ++ numB true 2 e.par ++ e.id ++ (if e.id.length % 2 = 1 then [0] else [])
def peN (e : PEnt) : Nat := 8 + e.id.length + e.id.length % 2
theorem numB4 (n : Int) : numB true 4 n = [by8 n, by8 (n / 256), by8 (n / 65536), by8 (n / 16777216)] := by
  simp [numB, numAt, List.range_succ]
theorem numB2 (n : Int) : numB true 2 n = [by8 n, by8 (n / 256)] := by
  simp [numB, numAt, List.range_succ]
theorem peB_len (e : PEnt) : (peB e).length = peN e := by
  unfold peB peN
  rw [numB4, numB2]
  split <;> simp <;> omega
theorem peB_get (e : PEnt) : (peB e)[0]? = some (by8 (e.id.length : Nat)) ∧ (peB e)[1]? = some 0 ∧ (peB e)[2]? = some (by8 e.loc) ∧ (peB e)[3]? = some (by8 (e.loc / 256)) ∧ (peB e)[4]? = some (by8 (e.loc / 65536)) ∧ (peB e)[5]? = some (by8 (e.loc / 16777216)) ∧
    (peB e)[6]? = some (by8 e.par) ∧ (peB e)[7]? = some (by8 (e.par / 256)) ∧ ∀ k, k < e.id.length → (peB e)[8 + k]? = e.id[k]? := by
  unfold peB
  rw [numB4, numB2]
  refine ⟨rfl, rfl, rfl, rfl, rfl, rfl, rfl, rfl, fun k hk => ?_⟩
  rw [List.getElem?_append_left (by simp; omega), List.getElem?_append_right (by simp)]
  congr 1
  simp
theorem pathEnt_pe (nd : Nat → Nd) (d : Nat) : pathEnt nd true d = peB ⟨idP nd d, (nd d).ext, (nd (nd d).parent).number⟩ := rfl
/-- The cells of an entry. -/
structure PeAt (w : World) (g o : Nat) (e : PEnt) : Prop where
  c0 : w.cell? ⟨g, o, none⟩ = some (.int .u8 (e.id.length : Nat))
  c1 : w.cell? ⟨g, o + 1, none⟩ = some (.int .u8 0)
  c2 : w.cell? ⟨g, o + 2, none⟩ = some (.int .u8 ((by8 e.loc).toNat : Nat))
  c3 : w.cell? ⟨g, o + 3, none⟩ = some (.int .u8 ((by8 (e.loc / 256)).toNat : Nat))
  c4 : w.cell? ⟨g, o + 4, none⟩ = some (.int .u8 ((by8 (e.loc / 65536)).toNat : Nat))
  c5 : w.cell? ⟨g, o + 5, none⟩ = some (.int .u8 ((by8 (e.loc / 16777216)).toNat : Nat))
  c6 : w.cell? ⟨g, o + 6, none⟩ = some (.int .u8 ((by8 e.par).toNat : Nat))
  c7 : w.cell? ⟨g, o + 7, none⟩ = some (.int .u8 ((by8 (e.par / 256)).toNat : Nat))
  id : w.rangeAt g (o + 8) (bcs e.id)
theorem PeAt.of {w : World} {g o : Nat} {e : PEnt} (hr : w.rangeAt g o (bcs (peB e))) (h : PeOK e) : PeAt w g o e := by
  obtain ⟨a0, a1, a2, a3, a4, a5, a6, a7, a8⟩ := peB_get e
  have h2 := h.id2
  refine ⟨?_, cell_byte hr 1 _ a1, cell_byte hr 2 _ a2, cell_byte hr 3 _ a3, cell_byte hr 4 _ a4, cell_byte hr 5 _ a5, cell_byte hr 6 _ a6, cell_byte hr 7 _ a7, rangeAt_sub hr 8 a8⟩
  have := cell_byte hr 0 _ a0
  rw [by8_small _ (by omega)] at this
  exact this
theorem PeAt.le32 {w : World} {g o : Nat} {e : PEnt} (h : PeAt w g o e) (ho : PeOK e) (c : Nat) : Calls Tryz.prog 84 #[.agg #[], .slice (some ⟨g, o + 2, none⟩) 4 c] w fun en w' => en = .returned (.int .u32 e.loc) ∧ Below w.heap.size w w' := by
  refine (Tryz.binary_LE_Uint32 g (o + 2) 4 c _ _ _ _ w (Nat.le_refl _) h.c2 h.c3 h.c4 h.c5).mono ?_
  rintro en w' ⟨rfl, hb⟩
  exact ⟨by rw [leNat_b32 e.loc ho.loc0 ho.loc1], hb⟩
theorem PeAt.le16 {w : World} {g o : Nat} {e : PEnt} (h : PeAt w g o e) (ho : PeOK e) (c : Nat) : Calls Tryz.prog 85 #[.agg #[], .slice (some ⟨g, o + 6, none⟩) 2 c] w fun en w' => en = .returned (.int .u16 e.par) ∧ Below w.heap.size w w' := by
  refine (Tryz.binary_LE_Uint16 g (o + 6) 2 c _ _ w (Nat.le_refl _) h.c6 h.c7).mono ?_
  rintro en w' ⟨rfl, hb⟩
  have e1 : ((Lib.leNat [by8 e.par, by8 (e.par / 256)] : Nat) : Int) = e.par := by
    have h1 := by8_toNat e.par
    have h2 := by8_toNat (e.par / 256)
    have := ho.par0
    have := ho.par1
    simp only [Lib.leNat]
    omega
  exact ⟨by rw [e1], hb⟩

end Go.Proofs.YtfppgplboomdbaaGreatDoor

namespace Go.Proofs.YtfppgplboomdbaaGreatDoor
open Go.RowKit

/-- An entry of the path table in memory. -/
def PeMem (w : World) (p : Nat) (e : PEnt) : Prop := ∃ sz : Int, w.heap[p]? = some (.cells #[.int .u8 (e.id.length : Nat), .int .u16 sz, .int .u8 0, .int .u32 e.loc, .int .u16 e.par, .string ⟨e.id.toArray⟩] 218 (0, 0))
structure PEnts (w wr : World) (ps : List Nat) (es : List PEnt) : Prop where
  len : ps.length = es.length
  ent : ∀ (i p : Nat) (e : PEnt), ps[i]? = some p → es[i]? = some e → w.heap.size ≤ p ∧ PeMem wr p e
theorem PEnts.keep {w wr w' : World} {ps : List Nat} {es : List PEnt} (h : PEnts w wr ps es) (hk : ∀ p ∈ ps, p < wr.heap.size → w'.heap[p]? = wr.heap[p]?) : PEnts w w' ps es := by
  refine ⟨h.len, fun i p e h1 h2 => ?_⟩
  obtain ⟨sz, a⟩ := (h.ent i p e h1 h2).2
  exact ⟨(h.ent i p e h1 h2).1, sz, (hk p (List.mem_of_getElem? h1) (lt_of_block a)).trans a⟩
theorem PEnts.below {w wr w' : World} {ps : List Nat} {es : List PEnt} (h : PEnts w wr ps es) (hb : Below wr.heap.size wr w') : PEnts w w' ps es := h.keep (fun p _ hp => hb.block p hp)
theorem PEnts.lt {w wr : World} {p : Nat} {ps : List Nat} {es : List PEnt} (h : PEnts w wr ps es) (hp : p ∈ ps) : p < wr.heap.size := by
  obtain ⟨i, hi⟩ := List.getElem?_of_mem hp
  have hl : i < es.length := by rw [← h.len]; exact (List.getElem?_eq_some_iff.1 hi).1
  obtain ⟨sz, a⟩ := (h.ent i p _ hi (List.getElem?_eq_getElem hl)).2
  exact lt_of_block a
theorem PEnts.snoc {w wr : World} {p : Nat} {e : PEnt} {ps : List Nat} {es : List PEnt} (h : PEnts w wr ps es) (hp : w.heap.size ≤ p) (he : PeMem wr p e) : PEnts w wr (ps ++ [p]) (es ++ [e]) := by
  refine ⟨by simp [h.len], fun i q s h1 h2 => ?_⟩
  have hl := h.len
  by_cases hi : i < ps.length
  · rw [List.getElem?_append_left hi] at h1
    rw [List.getElem?_append_left (by omega)] at h2
    exact h.ent i q s h1 h2
  · have e1 : i - ps.length = 0 := by
      rcases Nat.eq_zero_or_pos (i - ps.length) with h0 | h0
      · exact h0
      · rw [List.getElem?_append_right (by omega), List.getElem?_eq_none (by simp; omega)] at h1; cases h1
    rw [List.getElem?_append_right (by omega), e1] at h1
    rw [List.getElem?_append_right (by omega), ← hl, e1] at h2
    simp at h1 h2
    subst h1 h2
    exact ⟨hp, he⟩
def pesB (es : List PEnt) : Bs := es.flatMap peB
theorem pesB_take {es : List PEnt} {k : Nat} {e : PEnt} (h : es[k]? = some e) : pesB (es.take (k + 1)) = pesB (es.take k) ++ peB e := by
  rw [List.take_add_one, h]; simp [pesB]
theorem pesB_split {es : List PEnt} {k : Nat} {e : PEnt} (h : es[k]? = some e) : ∃ T, pesB es = pesB (es.take k) ++ (peB e ++ T) := by
  refine ⟨pesB (es.drop (k + 1)), ?_⟩
  have e1 : es = es.take k ++ (e :: es.drop (k + 1)) := by
    obtain ⟨hk, e⟩ := List.getElem?_eq_some_iff.1 h
    rw [← e, ← List.drop_eq_getElem_cons hk, List.take_append_drop]
  conv => lhs; rw [e1]
  simp [pesB]
theorem pesB_at {es : List PEnt} {k : Nat} {e : PEnt} (hr : es[k]? = some e) : (∀ j, j < (peB e).length → (pesB es)[(pesB (es.take k)).length + j]? = (peB e)[j]?) ∧ (pesB (es.take k)).length + peN e ≤ (pesB es).length := by
  obtain ⟨T, h⟩ := pesB_split hr
  rw [h]
  refine ⟨fun j hj => ?_, ?_⟩
  · rw [List.getElem?_append_right (by omega)]
    have e2 : (pesB (es.take k)).length + j - (pesB (es.take k)).length = j := by omega
    rw [e2, List.getElem?_append_left hj]
  · rw [← peB_len e]
    simp only [List.length_append]
    omega
theorem PeAt.below {w w' : World} {g o : Nat} {e : PEnt} (h : PeAt w g o e) (hb : Below w.heap.size w w') : PeAt w' g o e ∧ g < w'.heap.size := by
  have hg : g < w.heap.size := World.block_lt_of_cell? w _ h.c0
  have hc := fun (k : Nat) => hb.cell (p := ⟨g, k, none⟩) hg
  exact ⟨⟨(hc _).trans h.c0, (hc _).trans h.c1, (hc _).trans h.c2, (hc _).trans h.c3, (hc _).trans h.c4, (hc _).trans h.c5, (hc _).trans h.c6, (hc _).trans h.c7, rangeAt_below h.id hb hg⟩, Nat.lt_of_lt_of_le hg hb.size⟩
theorem PeAt.drew {w : World} {g o : Nat} {e : PEnt} (h : PeAt w g o e) : PeAt w.drew g o e := ⟨h.c0, h.c1, h.c2, h.c3, h.c4, h.c5, h.c6, h.c7, h.id⟩

end Go.Proofs.YtfppgplboomdbaaGreatDoor
