/- Part of the proofs of laws.FnIsoTree and laws.FnIsoAt: lemmas and contracts of functions that the two laws reach, each under the hypotheses that its own statement names. -/
import Derived.Test.YtfppgplboomdbaaGreatDoorMPart16
namespace Go.Proofs.YtfppgplboomdbaaGreatDoor
open Go.RowKit

theorem below_setCells {w0 w : World} {B b o : Nat} {vs : List Value} (h : Below B w0 w) (hB : B ≤ b) : Below B w0 (w.setCells b o vs) := by
  obtain ⟨r1, r2, r3⟩ := setCells_rest b vs o w
  exact h.trans ⟨r1, r2, r3, by rw [setCells_size]; exact Nat.le_refl _, fun k hk => setCells_block _ _ _ _ _ (by omega)⟩
theorem hStore1 {P : Program} {ops : Array Oper} {Q : Exit → Act → World → Prop} {i : Nat} {oi : Oper} (ty : TypeId) (x y : Operand) {K : Act → World → Prop} {a : Act} {w : World} (hi : ops[i]? = some oi) (hd : oi.dst = none) (hg : oi.guard = none) (ho : oi.op = .store ty x y)
    (hs : (P.info? ty).map (·.size) = some 1) (b o : Nat) (v : Value) (hx : a.eval x = .pointer (some ⟨b, o, none⟩)) (hy : a.eval y = v) (hv : v.oneCell' = true) (hc : w.cell? ⟨b, o, none⟩ = some v) (hz : w.frozen? ⟨b, o, none⟩ = false) (h : K a w) : wpOp P ops Q i K a w := by
  unfold wpOp
  simp only [hi]
  rw [if_pos (by simp [Region.wanted, hg])]
  refine .inl ?_
  have hrun : (execOp a.eval oi).run P w = .ok .skip w := by
    unfold execOp
    simp only [ho, hx, hy]
    cases hi' : P.info? ty with
    | none => rw [hi'] at hs; cases hs
    | some inf =>
      rw [hi'] at hs
      have h1 : inf.size = 1 := by simpa using hs
      have hst := run_store P w ⟨b, o, none⟩ v .plain hv
      rw [hc] at hst
      simp only [hz, setCell_same hc] at hst
      clear hx hy hc hz h
      cases v with
      | agg cs => simp [Value.oneCell'] at hv
      | tuple cs => simp [Value.oneCell'] at hv
      | _ => simp [go_sem, Instr.storeAt, Instr.sureAddr, sizeOf, typeInfo, hi', h1, storeCells, hst, Result.andThen]
  unfold Oper.wp
  rw [hrun]
  have hp : a.put none undef = a := rfl
  show K (a.put oi.dst undef) w
  rw [hd, hp]
  exact h
theorem assert253 (sp : Nat) (w : World) : (Instr.typeAssert (.iface 253 (.pointer (some ⟨sp, 0, none⟩))) 20 253 true).run Tryz.prog w = .ok (.tuple #[.pointer (some ⟨sp, 0, none⟩), .bool true]) w := by kernel_rfl
set_option maxHeartbeats 4000000 in
set_option maxRecDepth 100000 in
theorem leaf_any (s : ByteArray) (p fp z : Nat) (r : RecE) (w : World) (hE : EntAt w p r (.pointer (some ⟨fp, 0, none⟩))) (hse : w.cell? ⟨fp, 11, none⟩ = some (.bool false)) (hs : (nameB r).size ≤ 1000000) (hz : r.size = z) (hz1 : z ≤ 1000000) :
    Calls Tryz.prog 77 #[.string s, .iface 111 (.pointer (some ⟨p, 0, none⟩))] w fun e w' => (∃ L : LeafD, e = .returned (.agg (lcells L).toArray) ∧ L.path = s ∧ L.name.data.toList = nameOfR r ∧ L.dir = r.dir ∧ L.size = z ∧ L.data = ⟨#[]⟩) ∧ Below w.heap.size w w' := by
  have hfl : fp < w.heap.size := World.block_lt_of_cell? w _ hse
  have hta := assert253
  have HE := Lib.hid hE
  have HSE := Lib.hid hse
  obtain ⟨NN, hNN⟩ : ∃ NN : ByteArray, (⟨(nameOfR r).toArray⟩ : ByteArray) = NN := ⟨_, rfl⟩
  have hN2 : NN.data.toList = nameOfR r := by rw [← hNN]
  have HN := Lib.hid hNN
  have HN2 := Lib.hid hN2
  have hpl := hE.full.2.2.2.2.2.2.2
  clear hE hse hNN hN2
  cases hd : r.dir with
  | true =>
    go_enter Tryz.func77, Tryz.ntmps77
    go_upto_region 1 with (fail)
    generalize hw1 : w.alloc _ = w1
    have hb1 : Below w.heap.size w w1 := by rw [← hw1]; exact (Below.refl _ _).alloc (Nat.le_refl _) _
    have hth : w1.there w.heap.size 0 15 := by rw [← hw1]; exact there_alloc_new w _ 52 15 rfl
    have hsz1 : w1.heap.size = w.heap.size + 1 := by rw [← hw1]; simp
    have hE1 := HE.out.below hb1
    have hse1 := (hb1.cell (p := ⟨fp, 11, none⟩) hfl).trans HSE.out
    obtain ⟨_, c2, c7, _⟩ := hE1.full
    rw [hz] at c2
    rw [hd] at c7
    have A1 := Lib.hid (mode_any p fp r 2147484141 w1 hE1 (by rw [hd]; rfl))
    have A2 := name_any p fp r w1 hE1 hse1 hs
    rw [HN.out] at A2
    have A2 := Lib.hid A2
    have A3 := Lib.hid (isDir_any p true w1 c7)
    have A5 := Lib.hid (size_any p fp r z w1 hE1 hz hz1)
    have A6 := Lib.hid (modTime_any p fp r w1 hE1)
    have HE1 := Lib.hid hE1
    have HB1 := Lib.hid hb1
    have HTH := Lib.hid hth
    clear hw1 hb1 hth hE1 hse1 c2 c7
    go_upto_region 3 with (first
      | (go_at_call 176; refine A1.out.mono ?_; rintro e w2 ⟨rfl, hw⟩; rw [hw]; clear hw)
      | (go_at_call 75; refine A2.out.mono ?_; rintro e w2 ⟨rfl, hw⟩; rw [hw]; clear hw)
      | (go_at_call 76; refine A3.out.mono ?_; rintro e w2 ⟨rfl, hw⟩; rw [hw]; clear hw)
      | (go_at_call 102; refine (extBits_any 2147484141 w1 (by decide)).mono ?_; rintro e w2 ⟨rfl, hw⟩; rw [hw]; clear hw)
      | (go_at_call 55; refine A5.out.mono ?_; rintro e w2 ⟨rfl, hw⟩; rw [hw]; clear hw)
      | (go_at_call 175; refine A6.out.mono ?_; rintro e w2 ⟨⟨ta, tb, tc, rfl⟩, hb2⟩; have HB2 := Lib.hid hb2; have hsz2 := hb2.size; clear hb2)
      | (go_at_call 103; refine (unixT_any ta tb tc w2).mono ?_; rintro e w3 ⟨⟨tm, rfl⟩, hb3⟩; have HB3 := Lib.hid hb3; have hsz3 := hb3.size; clear hb3))
    generalize hw5 : w3.alloc _ = w5
    have hrow : w5.heap[w3.heap.size]? = some (.cells (lcells ⟨s, NN, true, 493, z, tm, ⟨#[]⟩⟩).toArray 52 (0, 0)) := by rw [← hw5]; exact heap_alloc_new w3 _
    have hb35 : Below w3.heap.size w3 w5 := by rw [← hw5]; exact (Below.refl _ _).alloc (Nat.le_refl _) _
    have hsz5 : w5.heap.size = w3.heap.size + 1 := by rw [← hw5]; simp
    have hR := fun (k : Nat) => cell_of_row _ _ k _ _ _ hrow
    have r2 : w5.cell? ⟨w3.heap.size, 2, none⟩ = some (.bool true) := (hR 2).trans rfl
    have r3 : w5.cell? ⟨w3.heap.size, 3, none⟩ = some (.bool false) := (hR 3).trans rfl
    have r4 : w5.cell? ⟨w3.heap.size, 4, none⟩ = some (.bool false) := (hR 4).trans rfl
    have f4 : w5.frozen? ⟨w3.heap.size, 4, none⟩ = false := by simp [World.frozen?, hrow]
    have hE5 := HE1.out.keepB ((HB2.out.trans (HB3.out.mono hsz2)).trans (hb35.mono (by omega))) (by omega : p < w1.heap.size)
    have HB35 := Lib.hid hb35
    have HROW := Lib.hid hrow
    have HE5 := Lib.hid hE5
    clear hw5 hrow hb35 hR hE5
    go_upto_region 4 with (first
      | (go_at_call 104; refine (regular_any 2147484141 false w5 (by decide) (by decide)).mono ?_; rintro e w6 ⟨rfl, hw⟩; rw [hw]; clear hw))
    rw [setCell_same r4]
    clear r2 r3 r4 f4
    go_upto_region 7 with (first
      | (go_at_call 178
         refine (sys_any p fp r w5 HE5.out).mono ?_
         rintro e w6 ⟨sp, rfl, hsp, hst, hb6⟩
         have hrow6 : w6.heap[w3.heap.size]? = _ := (hb6.block _ (by omega)).trans HROW.out
         have hR := fun (k : Nat) => cell_of_row _ _ k _ _ _ hrow6
         have t7 := hst.c7
         have t8 := hst.c8
         have t9 := hst.c9
         have t10 := hst.c10
         have t11 := hst.c11
         have r8 : w6.cell? ⟨w3.heap.size, 8, none⟩ = some (.int .u32 0) := (hR 8).trans rfl
         have r9 : w6.cell? ⟨w3.heap.size, 9, none⟩ = some (.int .u32 0) := (hR 9).trans rfl
         have r10 : w6.cell? ⟨w3.heap.size, 10, none⟩ = some (.int .u32 0) := (hR 10).trans rfl
         have r11 : w6.cell? ⟨w3.heap.size, 11, none⟩ = some (.int .u32 0) := (hR 11).trans rfl
         have r12 : w6.cell? ⟨w3.heap.size, 12, none⟩ = some (.string ⟨#[]⟩) := (hR 12).trans rfl
         have fz : ∀ k, w6.frozen? ⟨w3.heap.size, k, none⟩ = false := fun k => by simp [World.frozen?, hrow6]
         have hs6 := hb6.size
         have HR6 := Lib.hid hrow6
         have HB6 := Lib.hid hb6
         clear hst hb6 hrow6 hR))
    refine wp_region_noPanic ?_
    refine wp_region_held_drew (S := fun w' => w'.cell? ⟨sp, 7, none⟩ = some (.int .u32 0) ∧ w'.cell? ⟨sp, 8, none⟩ = some (.int .u32 0) ∧ w'.cell? ⟨sp, 9, none⟩ = some (.int .u32 0) ∧ w'.cell? ⟨sp, 10, none⟩ = some (.int .u32 0) ∧ w'.cell? ⟨sp, 11, none⟩ = some (.string ⟨#[]⟩)) (by kernel_rfl) ⟨t7, t8, t9, t10, t11⟩ (fun hS0 => ?_)
    have q8 : w6.drew.cell? ⟨w3.heap.size, 8, none⟩ = some (.int .u32 0) := r8
    have q9 : w6.drew.cell? ⟨w3.heap.size, 9, none⟩ = some (.int .u32 0) := r9
    have q10 : w6.drew.cell? ⟨w3.heap.size, 10, none⟩ = some (.int .u32 0) := r10
    have q11 : w6.drew.cell? ⟨w3.heap.size, 11, none⟩ = some (.int .u32 0) := r11
    have q12 : w6.drew.cell? ⟨w3.heap.size, 12, none⟩ = some (.string ⟨#[]⟩) := r12
    have qz : ∀ k, w6.drew.frozen? ⟨w3.heap.size, k, none⟩ = false := fz
    clear r8 r9 r10 r11 r12 fz
    refine hTake (i := 0) (v := ?_) (some 46) rfl rfl (by kernel_rfl) (by kernel_rfl) (by kernel_rfl) (fun _ _ _ h => h) (Or.inl ⟨by rfl, ?hyT7x0⟩) hS0 ?hrT7x0
    case hyT7x0 => (intro w' hSw; have hq := hSw; obtain ⟨s7, s8, s9, s10, s11⟩ := hq; clear hSw; go_simp; try with_reducible rfl)
    try simp only [Act.put, List.setIfInBounds_toArray, List.set_cons_zero, List.set_cons_succ]
    refine hTake (i := 1) (v := ?_) (some 47) rfl rfl (by kernel_rfl) (by kernel_rfl) (by kernel_rfl) (fun _ _ _ h => h) (Or.inl ⟨by rfl, ?hyT7x1⟩) hS0 ?hrT7x1
    case hyT7x1 => (intro w' hSw; have hq := hSw; obtain ⟨s7, s8, s9, s10, s11⟩ := hq; clear hSw; go_simp; try with_reducible rfl)
    try simp only [Act.put, List.setIfInBounds_toArray, List.set_cons_zero, List.set_cons_succ]
    refine hTake (i := 2) (v := ?_) (some 48) rfl rfl (by kernel_rfl) (by kernel_rfl) (by kernel_rfl) (fun _ _ _ h => h) (Or.inl ⟨by rfl, ?hyT7x2⟩) hS0 ?hrT7x2
    case hyT7x2 => (intro w' hSw; have hq := hSw; obtain ⟨s7, s8, s9, s10, s11⟩ := hq; clear hSw; go_simp; try with_reducible rfl)
    try simp only [Act.put, List.setIfInBounds_toArray, List.set_cons_zero, List.set_cons_succ]
    refine hTake (i := 3) (v := ?_) (some 49) rfl rfl (by kernel_rfl) (by kernel_rfl) (by kernel_rfl) (fun _ _ _ h => h) (Or.inl ⟨by rfl, ?hyT7x3⟩) hS0 ?hrT7x3
    case hyT7x3 => (intro w' hSw; have hq := hSw; obtain ⟨s7, s8, s9, s10, s11⟩ := hq; clear hSw; go_simp; try with_reducible rfl)
    try simp only [Act.put, List.setIfInBounds_toArray, List.set_cons_zero, List.set_cons_succ]
    refine hTake (i := 4) (v := ?_) (some 50) rfl rfl (by kernel_rfl) (by kernel_rfl) (by kernel_rfl) (fun _ _ _ h => h) (Or.inl ⟨by rfl, ?hyT7x4⟩) hS0 ?hrT7x4
    case hyT7x4 => (intro w' hSw; have hq := hSw; obtain ⟨s7, s8, s9, s10, s11⟩ := hq; clear hSw; go_simp; try with_reducible rfl)
    try simp only [Act.put, List.setIfInBounds_toArray, List.set_cons_zero, List.set_cons_succ]
    refine hTake (i := 5) (v := ?_) (some 51) rfl rfl (by kernel_rfl) (by kernel_rfl) (by kernel_rfl) (fun _ _ _ h => h) (Or.inl ⟨by rfl, ?hyT7x5⟩) hS0 ?hrT7x5
    case hyT7x5 => (intro w' hSw; have hq := hSw; obtain ⟨s7, s8, s9, s10, s11⟩ := hq; clear hSw; go_simp; try with_reducible rfl)
    try simp only [Act.put, List.setIfInBounds_toArray, List.set_cons_zero, List.set_cons_succ]
    refine hTake (i := 6) (v := ?_) (some 52) rfl rfl (by kernel_rfl) (by kernel_rfl) (by kernel_rfl) (fun _ _ _ h => h) (Or.inl ⟨by rfl, ?hyT7x6⟩) hS0 ?hrT7x6
    case hyT7x6 => (intro w' hSw; have hq := hSw; obtain ⟨s7, s8, s9, s10, s11⟩ := hq; clear hSw; go_simp; try with_reducible rfl)
    try simp only [Act.put, List.setIfInBounds_toArray, List.set_cons_zero, List.set_cons_succ]
    refine hTake (i := 7) (v := ?_) (some 53) rfl rfl (by kernel_rfl) (by kernel_rfl) (by kernel_rfl) (fun _ _ _ h => h) (Or.inl ⟨by rfl, ?hyT7x7⟩) hS0 ?hrT7x7
    case hyT7x7 => (intro w' hSw; have hq := hSw; obtain ⟨s7, s8, s9, s10, s11⟩ := hq; clear hSw; go_simp; try with_reducible rfl)
    try simp only [Act.put, List.setIfInBounds_toArray, List.set_cons_zero, List.set_cons_succ]
    refine hTake (i := 8) (v := ?_) (some 54) rfl rfl (by kernel_rfl) (by kernel_rfl) (by kernel_rfl) (fun _ _ _ h => h) (Or.inl ⟨by rfl, ?hyT7x8⟩) hS0 ?hrT7x8
    case hyT7x8 => (intro w' hSw; have hq := hSw; obtain ⟨s7, s8, s9, s10, s11⟩ := hq; clear hSw; go_simp; try with_reducible rfl)
    try simp only [Act.put, List.setIfInBounds_toArray, List.set_cons_zero, List.set_cons_succ]
    refine hTake (i := 9) (v := ?_) (some 55) rfl rfl (by kernel_rfl) (by kernel_rfl) (by kernel_rfl) (fun _ _ _ h => h) (Or.inl ⟨by rfl, ?hyT7x9⟩) hS0 ?hrT7x9
    case hyT7x9 => (intro w' hSw; have hq := hSw; obtain ⟨s7, s8, s9, s10, s11⟩ := hq; clear hSw; go_simp; try with_reducible rfl)
    try simp only [Act.put, List.setIfInBounds_toArray, List.set_cons_zero, List.set_cons_succ]
    refine hTake (i := 10) (v := ?_) (some 56) rfl rfl (by kernel_rfl) (by kernel_rfl) (by kernel_rfl) (fun _ _ _ h => h) (Or.inl ⟨by rfl, ?hyT7x10⟩) hS0 ?hrT7x10
    case hyT7x10 => (intro w' hSw; have hq := hSw; obtain ⟨s7, s8, s9, s10, s11⟩ := hq; clear hSw; go_simp; try with_reducible rfl)
    try simp only [Act.put, List.setIfInBounds_toArray, List.set_cons_zero, List.set_cons_succ]
    refine hTake (i := 11) (v := ?_) (some 57) rfl rfl (by kernel_rfl) (by kernel_rfl) (by kernel_rfl) (fun _ _ _ h => h) (Or.inl ⟨by rfl, ?hyT7x11⟩) hS0 ?hrT7x11
    case hyT7x11 => (intro w' hSw; have hq := hSw; obtain ⟨s7, s8, s9, s10, s11⟩ := hq; clear hSw; go_simp; try with_reducible rfl)
    try simp only [Act.put, List.setIfInBounds_toArray, List.set_cons_zero, List.set_cons_succ]
    refine hTake (i := 12) (v := ?_) (some 58) rfl rfl (by kernel_rfl) (by kernel_rfl) (by kernel_rfl) (fun _ _ _ h => h) (Or.inl ⟨by rfl, ?hyT7x12⟩) hS0 ?hrT7x12
    case hyT7x12 => (intro w' hSw; have hq := hSw; obtain ⟨s7, s8, s9, s10, s11⟩ := hq; clear hSw; go_simp; try with_reducible rfl)
    try simp only [Act.put, List.setIfInBounds_toArray, List.set_cons_zero, List.set_cons_succ]
    refine hTake (i := 13) (v := ?_) (some 59) rfl rfl (by kernel_rfl) (by kernel_rfl) (by kernel_rfl) (fun _ _ _ h => h) (Or.inl ⟨by rfl, ?hyT7x13⟩) hS0 ?hrT7x13
    case hyT7x13 => (intro w' hSw; have hq := hSw; obtain ⟨s7, s8, s9, s10, s11⟩ := hq; clear hSw; go_simp; try with_reducible rfl)
    try simp only [Act.put, List.setIfInBounds_toArray, List.set_cons_zero, List.set_cons_succ]
    refine hTake (i := 14) (v := ?_) (some 60) rfl rfl (by kernel_rfl) (by kernel_rfl) (by kernel_rfl) (fun _ _ _ h => h) (Or.inl ⟨by rfl, ?hyT7x14⟩) hS0 ?hrT7x14
    case hyT7x14 => (intro w' hSw; have hq := hSw; obtain ⟨s7, s8, s9, s10, s11⟩ := hq; clear hSw; go_simp; try with_reducible rfl)
    try simp only [Act.put, List.setIfInBounds_toArray, List.set_cons_zero, List.set_cons_succ]
    refine hTake (i := 15) (v := ?_) (some 61) rfl rfl (by kernel_rfl) (by kernel_rfl) (by kernel_rfl) (fun _ _ _ h => h) (Or.inl ⟨by rfl, ?hyT7x15⟩) hS0 ?hrT7x15
    case hyT7x15 => (intro w' hSw; have hq := hSw; obtain ⟨s7, s8, s9, s10, s11⟩ := hq; clear hSw; go_simp; try with_reducible rfl)
    try simp only [Act.put, List.setIfInBounds_toArray, List.set_cons_zero, List.set_cons_succ]
    refine hTake (i := 16) (v := ?_) (some 62) rfl rfl (by kernel_rfl) (by kernel_rfl) (by kernel_rfl) (fun _ _ _ h => h) (Or.inl ⟨by rfl, ?hyT7x16⟩) hS0 ?hrT7x16
    case hyT7x16 => (intro w' hSw; have hq := hSw; obtain ⟨s7, s8, s9, s10, s11⟩ := hq; clear hSw; go_simp; try with_reducible rfl)
    try simp only [Act.put, List.setIfInBounds_toArray, List.set_cons_zero, List.set_cons_succ]
    refine hTake (i := 17) (v := ?_) (some 63) rfl rfl (by kernel_rfl) (by kernel_rfl) (by kernel_rfl) (fun _ _ _ h => h) (Or.inl ⟨by rfl, ?hyT7x17⟩) hS0 ?hrT7x17
    case hyT7x17 => (intro w' hSw; have hq := hSw; obtain ⟨s7, s8, s9, s10, s11⟩ := hq; clear hSw; go_simp; try with_reducible rfl)
    try simp only [Act.put, List.setIfInBounds_toArray, List.set_cons_zero, List.set_cons_succ]
    refine hTake (i := 18) (v := ?_) (some 64) rfl rfl (by kernel_rfl) (by kernel_rfl) (by kernel_rfl) (fun _ _ _ h => h) (Or.inl ⟨by rfl, ?hyT7x18⟩) hS0 ?hrT7x18
    case hyT7x18 => (intro w' hSw; have hq := hSw; obtain ⟨s7, s8, s9, s10, s11⟩ := hq; clear hSw; go_simp; try with_reducible rfl)
    try simp only [Act.put, List.setIfInBounds_toArray, List.set_cons_zero, List.set_cons_succ]
    refine hTake (i := 19) (v := ?_) (some 65) rfl rfl (by kernel_rfl) (by kernel_rfl) (by kernel_rfl) (fun _ _ _ h => h) (Or.inl ⟨by rfl, ?hyT7x19⟩) hS0 ?hrT7x19
    case hyT7x19 => (intro w' hSw; have hq := hSw; obtain ⟨s7, s8, s9, s10, s11⟩ := hq; clear hSw; go_simp; try with_reducible rfl)
    try simp only [Act.put, List.setIfInBounds_toArray, List.set_cons_zero, List.set_cons_succ]
    refine hTake (i := 20) (v := ?_) (some 66) rfl rfl (by kernel_rfl) (by kernel_rfl) (by kernel_rfl) (fun _ _ _ h => h) (Or.inl ⟨by rfl, ?hyT7x20⟩) hS0 ?hrT7x20
    case hyT7x20 => (intro w' hSw; have hq := hSw; obtain ⟨s7, s8, s9, s10, s11⟩ := hq; clear hSw; go_simp; try with_reducible rfl)
    try simp only [Act.put, List.setIfInBounds_toArray, List.set_cons_zero, List.set_cons_succ]
    refine wpAnyH_all (rs := [21]) (by kernel_rfl) (by simp) (rows1 ?_)
    refine hStore1 36 _ _ rfl rfl rfl rfl (by kernel_rfl) w3.heap.size 8 (.int .u32 0) rfl rfl rfl q8 (qz 8) ?_
    refine ⟨hS0, ?_⟩
    refine hTake (i := 22) (v := ?_) (some 67) rfl rfl (by kernel_rfl) (by kernel_rfl) (by kernel_rfl) (fun _ _ _ h => h) (Or.inl ⟨by rfl, ?hyT7x22⟩) hS0 ?hrT7x22
    case hyT7x22 => (intro w' hSw; clear hSw; go_simp; try with_reducible rfl)
    try simp only [Act.put, List.setIfInBounds_toArray, List.set_cons_zero, List.set_cons_succ]
    refine wpAnyH_all (rs := [23]) (by kernel_rfl) (by simp) (rows1 ?_)
    refine hStore1 36 _ _ rfl rfl rfl rfl (by kernel_rfl) w3.heap.size 9 (.int .u32 0) rfl rfl rfl q9 (qz 9) ?_
    refine ⟨hS0, ?_⟩
    refine hTake (i := 24) (v := ?_) (some 68) rfl rfl (by kernel_rfl) (by kernel_rfl) (by kernel_rfl) (fun _ _ _ h => h) (Or.inl ⟨by rfl, ?hyT7x24⟩) hS0 ?hrT7x24
    case hyT7x24 => (intro w' hSw; clear hSw; go_simp; try with_reducible rfl)
    try simp only [Act.put, List.setIfInBounds_toArray, List.set_cons_zero, List.set_cons_succ]
    refine wpAnyH_all (rs := [25]) (by kernel_rfl) (by simp) (rows1 ?_)
    refine hStore1 36 _ _ rfl rfl rfl rfl (by kernel_rfl) w3.heap.size 10 (.int .u32 0) rfl rfl rfl q10 (qz 10) ?_
    refine ⟨hS0, ?_⟩
    refine hTake (i := 26) (v := ?_) (some 69) rfl rfl (by kernel_rfl) (by kernel_rfl) (by kernel_rfl) (fun _ _ _ h => h) (Or.inl ⟨by rfl, ?hyT7x26⟩) hS0 ?hrT7x26
    case hyT7x26 => (intro w' hSw; clear hSw; go_simp; try with_reducible rfl)
    try simp only [Act.put, List.setIfInBounds_toArray, List.set_cons_zero, List.set_cons_succ]
    refine wpAnyH_all (rs := [27]) (by kernel_rfl) (by simp) (rows1 ?_)
    refine hStore1 36 _ _ rfl rfl rfl rfl (by kernel_rfl) w3.heap.size 11 (.int .u32 0) rfl rfl rfl q11 (qz 11) ?_
    refine ⟨hS0, ?_⟩
    refine hTake (i := 28) (v := ?_) (some 70) rfl rfl (by kernel_rfl) (by kernel_rfl) (by kernel_rfl) (fun _ _ _ h => h) (Or.inl ⟨by rfl, ?hyT7x28⟩) hS0 ?hrT7x28
    case hyT7x28 => (intro w' hSw; clear hSw; go_simp; try with_reducible rfl)
    try simp only [Act.put, List.setIfInBounds_toArray, List.set_cons_zero, List.set_cons_succ]
    refine wpAnyH_all (rs := [29]) (by kernel_rfl) (by simp) (rows1 ?_)
    refine hStore1 9 _ _ rfl rfl rfl rfl (by kernel_rfl) w3.heap.size 12 (.string ⟨#[]⟩) rfl rfl rfl q12 (qz 12) ?_
    refine ⟨hS0, ?_⟩
    refine wpAnyH_done (by kernel_rfl) ?_ _
    refine NoPanic.normal ?_
    go_upto_region 11 with (fail)
    have hR := fun (k : Nat) => cell_of_row _ _ k _ _ _ HR6.out
    obtain ⟨LC, hLC⟩ : ∃ LC : List Value, LC = lcells ⟨s, NN, true, 493, z, tm, ⟨#[]⟩⟩ := ⟨_, rfl⟩
    have hll : LC.length = 15 := by rw [hLC]; rfl
    have hl1 : LC.toArray.all (·.oneCell') = true := by rw [hLC]; simp [lcells, Value.oneCell']
    have hlr : w6.drew.rangeAt w3.heap.size 0 LC := fun j v hv => by
      rw [Nat.zero_add]
      refine (hR j).trans ?_
      rw [hLC] at hv
      simpa using hv
    have hi1 : (Tryz.prog.info? 52).map (·.size) = some LC.length := by rw [hll]; kernel_rfl
    have hi2 : (Tryz.prog.info? 52).map (·.size) = some LC.toArray.size := by rw [show LC.toArray.size = 15 from by rw [List.size_toArray]; exact hll]; kernel_rfl
    have hsame : w6.drew.heap[w.heap.size]? = w1.heap[w.heap.size]? := (HB6.out.block _ (by omega)).trans ((HB35.out.block _ (by omega)).trans ((HB3.out.block _ (by omega)).trans (HB2.out.block _ (by omega))))
    have hlz : LC.toArray.size = 15 := by rw [List.size_toArray]; exact hll
    have hth6 : w6.drew.there w.heap.size 0 LC.toArray.size := by rw [hlz]; exact there_same HTH.out hsame
    have hth7 : w6.drew.there w.heap.size 0 LC.toArray.toList.length := by rw [Array.length_toList]; exact hth6
    have hrg := World.rangeAt_setCells_same w6.drew w.heap.size 0 LC.toArray.toList hth7
    have hoth : Below w.heap.size w (w6.drew.setCells w.heap.size 0 LC.toArray.toList) := below_setCells ((HB1.out.trans ((HB2.out.trans ((HB3.out.trans ((HB35.out.trans (HB6.out.mono (by omega))).mono (by omega))).mono (by omega))).mono (by omega))).drew) (Nat.le_refl _)
    have HRG := Lib.hid hrg
    have HOTH := Lib.hid hoth
    have HLR := Lib.hid hlr
    have HI1 := Lib.hid hi1
    have HI2 := Lib.hid hi2
    have HL1 := Lib.hid hl1
    have HTH6 := Lib.hid hth6
    have HLC := Lib.hid hLC
    clear hR hth6 hth7 hsame t7 t8 t9 t10 t11 hrg hoth hlr hi1 hi2 hl1 hll hLC hlz
    go_wp2_with (first
      | (refine wpList_load_mid rfl 52 (.tmp 6) rfl w3.heap.size 0 rfl LC _ HLR.out Tryz.underlying52 rfl HI1.out ?_)
      | (refine wpList_store_mid rfl 52 (.tmp 4) (.tmp 99) rfl w.heap.size 0 LC.toArray rfl rfl HTH6.out HI2.out HL1.out ?_
         generalize World.setCells w6.drew w.heap.size 0 LC.toArray.toList = w9 at HRG HOTH ⊢))
    have e := fun (k : Nat) (v : Value) (h : LC.toArray.toList[k]? = some v) => HRG.out k v h
    have e0 : w9.cell? ⟨w.heap.size, 0, none⟩ = some (.string s) := by have h := e 0 _ (by rw [HLC.out]; rfl); rw [Nat.zero_add] at h; exact h
    have e1 : w9.cell? ⟨w.heap.size, 1, none⟩ = some (.string NN) := by have h := e 1 _ (by rw [HLC.out]; rfl); rw [Nat.zero_add] at h; exact h
    have e2 : w9.cell? ⟨w.heap.size, 2, none⟩ = some (.bool true) := by have h := e 2 _ (by rw [HLC.out]; rfl); rw [Nat.zero_add] at h; exact h
    have e3 : w9.cell? ⟨w.heap.size, 3, none⟩ = some (.bool false) := by have h := e 3 _ (by rw [HLC.out]; rfl); rw [Nat.zero_add] at h; exact h
    have e4 : w9.cell? ⟨w.heap.size, 4, none⟩ = some (.bool false) := by have h := e 4 _ (by rw [HLC.out]; rfl); rw [Nat.zero_add] at h; exact h
    have e5 : w9.cell? ⟨w.heap.size, 5, none⟩ = some (.int .u32 493) := by have h := e 5 _ (by rw [HLC.out]; rfl); rw [Nat.zero_add] at h; exact h
    have e6 : w9.cell? ⟨w.heap.size, 6, none⟩ = some (.int .i64 z) := by have h := e 6 _ (by rw [HLC.out]; rfl); rw [Nat.zero_add] at h; exact h
    have e7 : w9.cell? ⟨w.heap.size, 7, none⟩ = some (.int .i64 tm) := by have h := e 7 _ (by rw [HLC.out]; rfl); rw [Nat.zero_add] at h; exact h
    have e8 : w9.cell? ⟨w.heap.size, 8, none⟩ = some (.int .u32 0) := by have h := e 8 _ (by rw [HLC.out]; rfl); rw [Nat.zero_add] at h; exact h
    have e9 : w9.cell? ⟨w.heap.size, 9, none⟩ = some (.int .u32 0) := by have h := e 9 _ (by rw [HLC.out]; rfl); rw [Nat.zero_add] at h; exact h
    have e10 : w9.cell? ⟨w.heap.size, 10, none⟩ = some (.int .u32 0) := by have h := e 10 _ (by rw [HLC.out]; rfl); rw [Nat.zero_add] at h; exact h
    have e11 : w9.cell? ⟨w.heap.size, 11, none⟩ = some (.int .u32 0) := by have h := e 11 _ (by rw [HLC.out]; rfl); rw [Nat.zero_add] at h; exact h
    have e12 : w9.cell? ⟨w.heap.size, 12, none⟩ = some (.string ⟨#[]⟩) := by have h := e 12 _ (by rw [HLC.out]; rfl); rw [Nat.zero_add] at h; exact h
    have e13 : w9.cell? ⟨w.heap.size, 13, none⟩ = some (.string ⟨#[]⟩) := by have h := e 13 _ (by rw [HLC.out]; rfl); rw [Nat.zero_add] at h; exact h
    have e14 : w9.cell? ⟨w.heap.size, 14, none⟩ = some (.string ⟨#[]⟩) := by have h := e 14 _ (by rw [HLC.out]; rfl); rw [Nat.zero_add] at h; exact h
    refine bodyPost_ret (v := .agg (lcells ⟨s, NN, true, 493, z, tm, ⟨#[]⟩⟩).toArray) (by simp [results, Tryz.results77, go_sem, lcells, e0, e1, e2, e3, e4, e5, e6, e7, e8, e9, e10, e11, e12, e13, e14]) rfl ?_
    exact ⟨⟨_, rfl, rfl, HN2.out, rfl, rfl, rfl⟩, HOTH.out⟩
  | false =>
    go_enter Tryz.func77, Tryz.ntmps77
    go_upto_region 1 with (fail)
    generalize hw1 : w.alloc _ = w1
    have hb1 : Below w.heap.size w w1 := by rw [← hw1]; exact (Below.refl _ _).alloc (Nat.le_refl _) _
    have hth : w1.there w.heap.size 0 15 := by rw [← hw1]; exact there_alloc_new w _ 52 15 rfl
    have hsz1 : w1.heap.size = w.heap.size + 1 := by rw [← hw1]; simp
    have hE1 := HE.out.below hb1
    have hse1 := (hb1.cell (p := ⟨fp, 11, none⟩) hfl).trans HSE.out
    obtain ⟨_, c2, c7, _⟩ := hE1.full
    rw [hz] at c2
    rw [hd] at c7
    have A1 := Lib.hid (mode_any p fp r 493 w1 hE1 (by rw [hd]; rfl))
    have A2 := name_any p fp r w1 hE1 hse1 hs
    rw [HN.out] at A2
    have A2 := Lib.hid A2
    have A3 := Lib.hid (isDir_any p false w1 c7)
    have A5 := Lib.hid (size_any p fp r z w1 hE1 hz hz1)
    have A6 := Lib.hid (modTime_any p fp r w1 hE1)
    have HE1 := Lib.hid hE1
    have HB1 := Lib.hid hb1
    have HTH := Lib.hid hth
    clear hw1 hb1 hth hE1 hse1 c2 c7
    go_upto_region 3 with (first
      | (go_at_call 176; refine A1.out.mono ?_; rintro e w2 ⟨rfl, hw⟩; rw [hw]; clear hw)
      | (go_at_call 75; refine A2.out.mono ?_; rintro e w2 ⟨rfl, hw⟩; rw [hw]; clear hw)
      | (go_at_call 76; refine A3.out.mono ?_; rintro e w2 ⟨rfl, hw⟩; rw [hw]; clear hw)
      | (go_at_call 102; refine (extBits_any 493 w1 (by decide)).mono ?_; rintro e w2 ⟨rfl, hw⟩; rw [hw]; clear hw)
      | (go_at_call 55; refine A5.out.mono ?_; rintro e w2 ⟨rfl, hw⟩; rw [hw]; clear hw)
      | (go_at_call 175; refine A6.out.mono ?_; rintro e w2 ⟨⟨ta, tb, tc, rfl⟩, hb2⟩; have HB2 := Lib.hid hb2; have hsz2 := hb2.size; clear hb2)
      | (go_at_call 103; refine (unixT_any ta tb tc w2).mono ?_; rintro e w3 ⟨⟨tm, rfl⟩, hb3⟩; have HB3 := Lib.hid hb3; have hsz3 := hb3.size; clear hb3))
    generalize hw5 : w3.alloc _ = w5
    have hrow : w5.heap[w3.heap.size]? = some (.cells (lcells ⟨s, NN, false, 493, z, tm, ⟨#[]⟩⟩).toArray 52 (0, 0)) := by rw [← hw5]; exact heap_alloc_new w3 _
    have hb35 : Below w3.heap.size w3 w5 := by rw [← hw5]; exact (Below.refl _ _).alloc (Nat.le_refl _) _
    have hsz5 : w5.heap.size = w3.heap.size + 1 := by rw [← hw5]; simp
    have hR := fun (k : Nat) => cell_of_row _ _ k _ _ _ hrow
    have r2 : w5.cell? ⟨w3.heap.size, 2, none⟩ = some (.bool false) := (hR 2).trans rfl
    have r3 : w5.cell? ⟨w3.heap.size, 3, none⟩ = some (.bool false) := (hR 3).trans rfl
    have r4 : w5.cell? ⟨w3.heap.size, 4, none⟩ = some (.bool false) := (hR 4).trans rfl
    have f4 : w5.frozen? ⟨w3.heap.size, 4, none⟩ = false := by simp [World.frozen?, hrow]
    have hE5 := HE1.out.keepB ((HB2.out.trans (HB3.out.mono hsz2)).trans (hb35.mono (by omega))) (by omega : p < w1.heap.size)
    have HB35 := Lib.hid hb35
    have HROW := Lib.hid hrow
    have HE5 := Lib.hid hE5
    clear hw5 hrow hb35 hR hE5
    go_upto_region 4 with (first
      | (go_at_call 104; refine (regular_any 493 true w5 (by decide) (by decide)).mono ?_; rintro e w6 ⟨rfl, hw⟩; rw [hw]; clear hw))
    rw [setCell_same r4]
    clear r2 r3 r4 f4
    go_upto_region 7 with (first
      | (go_at_call 178
         refine (sys_any p fp r w5 HE5.out).mono ?_
         rintro e w6 ⟨sp, rfl, hsp, hst, hb6⟩
         have hrow6 : w6.heap[w3.heap.size]? = _ := (hb6.block _ (by omega)).trans HROW.out
         have hR := fun (k : Nat) => cell_of_row _ _ k _ _ _ hrow6
         have t7 := hst.c7
         have t8 := hst.c8
         have t9 := hst.c9
         have t10 := hst.c10
         have t11 := hst.c11
         have r8 : w6.cell? ⟨w3.heap.size, 8, none⟩ = some (.int .u32 0) := (hR 8).trans rfl
         have r9 : w6.cell? ⟨w3.heap.size, 9, none⟩ = some (.int .u32 0) := (hR 9).trans rfl
         have r10 : w6.cell? ⟨w3.heap.size, 10, none⟩ = some (.int .u32 0) := (hR 10).trans rfl
         have r11 : w6.cell? ⟨w3.heap.size, 11, none⟩ = some (.int .u32 0) := (hR 11).trans rfl
         have r12 : w6.cell? ⟨w3.heap.size, 12, none⟩ = some (.string ⟨#[]⟩) := (hR 12).trans rfl
         have fz : ∀ k, w6.frozen? ⟨w3.heap.size, k, none⟩ = false := fun k => by simp [World.frozen?, hrow6]
         have hs6 := hb6.size
         have HR6 := Lib.hid hrow6
         have HB6 := Lib.hid hb6
         clear hst hb6 hrow6 hR))
    refine wp_region_noPanic ?_
    refine wp_region_held_drew (S := fun w' => w'.cell? ⟨sp, 7, none⟩ = some (.int .u32 0) ∧ w'.cell? ⟨sp, 8, none⟩ = some (.int .u32 0) ∧ w'.cell? ⟨sp, 9, none⟩ = some (.int .u32 0) ∧ w'.cell? ⟨sp, 10, none⟩ = some (.int .u32 0) ∧ w'.cell? ⟨sp, 11, none⟩ = some (.string ⟨#[]⟩)) (by kernel_rfl) ⟨t7, t8, t9, t10, t11⟩ (fun hS0 => ?_)
    have q8 : w6.drew.cell? ⟨w3.heap.size, 8, none⟩ = some (.int .u32 0) := r8
    have q9 : w6.drew.cell? ⟨w3.heap.size, 9, none⟩ = some (.int .u32 0) := r9
    have q10 : w6.drew.cell? ⟨w3.heap.size, 10, none⟩ = some (.int .u32 0) := r10
    have q11 : w6.drew.cell? ⟨w3.heap.size, 11, none⟩ = some (.int .u32 0) := r11
    have q12 : w6.drew.cell? ⟨w3.heap.size, 12, none⟩ = some (.string ⟨#[]⟩) := r12
    have qz : ∀ k, w6.drew.frozen? ⟨w3.heap.size, k, none⟩ = false := fz
    clear r8 r9 r10 r11 r12 fz
    refine hTake (i := 0) (v := ?_) (some 46) rfl rfl (by kernel_rfl) (by kernel_rfl) (by kernel_rfl) (fun _ _ _ h => h) (Or.inl ⟨by rfl, ?hyF7x0⟩) hS0 ?hrF7x0
    case hyF7x0 => (intro w' hSw; have hq := hSw; obtain ⟨s7, s8, s9, s10, s11⟩ := hq; clear hSw; go_simp; try with_reducible rfl)
    try simp only [Act.put, List.setIfInBounds_toArray, List.set_cons_zero, List.set_cons_succ]
    refine hTake (i := 1) (v := ?_) (some 47) rfl rfl (by kernel_rfl) (by kernel_rfl) (by kernel_rfl) (fun _ _ _ h => h) (Or.inl ⟨by rfl, ?hyF7x1⟩) hS0 ?hrF7x1
    case hyF7x1 => (intro w' hSw; have hq := hSw; obtain ⟨s7, s8, s9, s10, s11⟩ := hq; clear hSw; go_simp; try with_reducible rfl)
    try simp only [Act.put, List.setIfInBounds_toArray, List.set_cons_zero, List.set_cons_succ]
    refine hTake (i := 2) (v := ?_) (some 48) rfl rfl (by kernel_rfl) (by kernel_rfl) (by kernel_rfl) (fun _ _ _ h => h) (Or.inl ⟨by rfl, ?hyF7x2⟩) hS0 ?hrF7x2
    case hyF7x2 => (intro w' hSw; have hq := hSw; obtain ⟨s7, s8, s9, s10, s11⟩ := hq; clear hSw; go_simp; try with_reducible rfl)
    try simp only [Act.put, List.setIfInBounds_toArray, List.set_cons_zero, List.set_cons_succ]
    refine hTake (i := 3) (v := ?_) (some 49) rfl rfl (by kernel_rfl) (by kernel_rfl) (by kernel_rfl) (fun _ _ _ h => h) (Or.inl ⟨by rfl, ?hyF7x3⟩) hS0 ?hrF7x3
    case hyF7x3 => (intro w' hSw; have hq := hSw; obtain ⟨s7, s8, s9, s10, s11⟩ := hq; clear hSw; go_simp; try with_reducible rfl)
    try simp only [Act.put, List.setIfInBounds_toArray, List.set_cons_zero, List.set_cons_succ]
    refine hTake (i := 4) (v := ?_) (some 50) rfl rfl (by kernel_rfl) (by kernel_rfl) (by kernel_rfl) (fun _ _ _ h => h) (Or.inl ⟨by rfl, ?hyF7x4⟩) hS0 ?hrF7x4
    case hyF7x4 => (intro w' hSw; have hq := hSw; obtain ⟨s7, s8, s9, s10, s11⟩ := hq; clear hSw; go_simp; try with_reducible rfl)
    try simp only [Act.put, List.setIfInBounds_toArray, List.set_cons_zero, List.set_cons_succ]
    refine hTake (i := 5) (v := ?_) (some 51) rfl rfl (by kernel_rfl) (by kernel_rfl) (by kernel_rfl) (fun _ _ _ h => h) (Or.inl ⟨by rfl, ?hyF7x5⟩) hS0 ?hrF7x5
    case hyF7x5 => (intro w' hSw; have hq := hSw; obtain ⟨s7, s8, s9, s10, s11⟩ := hq; clear hSw; go_simp; try with_reducible rfl)
    try simp only [Act.put, List.setIfInBounds_toArray, List.set_cons_zero, List.set_cons_succ]
    refine hTake (i := 6) (v := ?_) (some 52) rfl rfl (by kernel_rfl) (by kernel_rfl) (by kernel_rfl) (fun _ _ _ h => h) (Or.inl ⟨by rfl, ?hyF7x6⟩) hS0 ?hrF7x6
    case hyF7x6 => (intro w' hSw; have hq := hSw; obtain ⟨s7, s8, s9, s10, s11⟩ := hq; clear hSw; go_simp; try with_reducible rfl)
    try simp only [Act.put, List.setIfInBounds_toArray, List.set_cons_zero, List.set_cons_succ]
    refine hTake (i := 7) (v := ?_) (some 53) rfl rfl (by kernel_rfl) (by kernel_rfl) (by kernel_rfl) (fun _ _ _ h => h) (Or.inl ⟨by rfl, ?hyF7x7⟩) hS0 ?hrF7x7
    case hyF7x7 => (intro w' hSw; have hq := hSw; obtain ⟨s7, s8, s9, s10, s11⟩ := hq; clear hSw; go_simp; try with_reducible rfl)
    try simp only [Act.put, List.setIfInBounds_toArray, List.set_cons_zero, List.set_cons_succ]
    refine hTake (i := 8) (v := ?_) (some 54) rfl rfl (by kernel_rfl) (by kernel_rfl) (by kernel_rfl) (fun _ _ _ h => h) (Or.inl ⟨by rfl, ?hyF7x8⟩) hS0 ?hrF7x8
    case hyF7x8 => (intro w' hSw; have hq := hSw; obtain ⟨s7, s8, s9, s10, s11⟩ := hq; clear hSw; go_simp; try with_reducible rfl)
    try simp only [Act.put, List.setIfInBounds_toArray, List.set_cons_zero, List.set_cons_succ]
    refine hTake (i := 9) (v := ?_) (some 55) rfl rfl (by kernel_rfl) (by kernel_rfl) (by kernel_rfl) (fun _ _ _ h => h) (Or.inl ⟨by rfl, ?hyF7x9⟩) hS0 ?hrF7x9
    case hyF7x9 => (intro w' hSw; have hq := hSw; obtain ⟨s7, s8, s9, s10, s11⟩ := hq; clear hSw; go_simp; try with_reducible rfl)
    try simp only [Act.put, List.setIfInBounds_toArray, List.set_cons_zero, List.set_cons_succ]
    refine hTake (i := 10) (v := ?_) (some 56) rfl rfl (by kernel_rfl) (by kernel_rfl) (by kernel_rfl) (fun _ _ _ h => h) (Or.inl ⟨by rfl, ?hyF7x10⟩) hS0 ?hrF7x10
    case hyF7x10 => (intro w' hSw; have hq := hSw; obtain ⟨s7, s8, s9, s10, s11⟩ := hq; clear hSw; go_simp; try with_reducible rfl)
    try simp only [Act.put, List.setIfInBounds_toArray, List.set_cons_zero, List.set_cons_succ]
    refine hTake (i := 11) (v := ?_) (some 57) rfl rfl (by kernel_rfl) (by kernel_rfl) (by kernel_rfl) (fun _ _ _ h => h) (Or.inl ⟨by rfl, ?hyF7x11⟩) hS0 ?hrF7x11
    case hyF7x11 => (intro w' hSw; have hq := hSw; obtain ⟨s7, s8, s9, s10, s11⟩ := hq; clear hSw; go_simp; try with_reducible rfl)
    try simp only [Act.put, List.setIfInBounds_toArray, List.set_cons_zero, List.set_cons_succ]
    refine hTake (i := 12) (v := ?_) (some 58) rfl rfl (by kernel_rfl) (by kernel_rfl) (by kernel_rfl) (fun _ _ _ h => h) (Or.inl ⟨by rfl, ?hyF7x12⟩) hS0 ?hrF7x12
    case hyF7x12 => (intro w' hSw; have hq := hSw; obtain ⟨s7, s8, s9, s10, s11⟩ := hq; clear hSw; go_simp; try with_reducible rfl)
    try simp only [Act.put, List.setIfInBounds_toArray, List.set_cons_zero, List.set_cons_succ]
    refine hTake (i := 13) (v := ?_) (some 59) rfl rfl (by kernel_rfl) (by kernel_rfl) (by kernel_rfl) (fun _ _ _ h => h) (Or.inl ⟨by rfl, ?hyF7x13⟩) hS0 ?hrF7x13
    case hyF7x13 => (intro w' hSw; have hq := hSw; obtain ⟨s7, s8, s9, s10, s11⟩ := hq; clear hSw; go_simp; try with_reducible rfl)
    try simp only [Act.put, List.setIfInBounds_toArray, List.set_cons_zero, List.set_cons_succ]
    refine hTake (i := 14) (v := ?_) (some 60) rfl rfl (by kernel_rfl) (by kernel_rfl) (by kernel_rfl) (fun _ _ _ h => h) (Or.inl ⟨by rfl, ?hyF7x14⟩) hS0 ?hrF7x14
    case hyF7x14 => (intro w' hSw; have hq := hSw; obtain ⟨s7, s8, s9, s10, s11⟩ := hq; clear hSw; go_simp; try with_reducible rfl)
    try simp only [Act.put, List.setIfInBounds_toArray, List.set_cons_zero, List.set_cons_succ]
    refine hTake (i := 15) (v := ?_) (some 61) rfl rfl (by kernel_rfl) (by kernel_rfl) (by kernel_rfl) (fun _ _ _ h => h) (Or.inl ⟨by rfl, ?hyF7x15⟩) hS0 ?hrF7x15
    case hyF7x15 => (intro w' hSw; have hq := hSw; obtain ⟨s7, s8, s9, s10, s11⟩ := hq; clear hSw; go_simp; try with_reducible rfl)
    try simp only [Act.put, List.setIfInBounds_toArray, List.set_cons_zero, List.set_cons_succ]
    refine hTake (i := 16) (v := ?_) (some 62) rfl rfl (by kernel_rfl) (by kernel_rfl) (by kernel_rfl) (fun _ _ _ h => h) (Or.inl ⟨by rfl, ?hyF7x16⟩) hS0 ?hrF7x16
    case hyF7x16 => (intro w' hSw; have hq := hSw; obtain ⟨s7, s8, s9, s10, s11⟩ := hq; clear hSw; go_simp; try with_reducible rfl)
    try simp only [Act.put, List.setIfInBounds_toArray, List.set_cons_zero, List.set_cons_succ]
    refine hTake (i := 17) (v := ?_) (some 63) rfl rfl (by kernel_rfl) (by kernel_rfl) (by kernel_rfl) (fun _ _ _ h => h) (Or.inl ⟨by rfl, ?hyF7x17⟩) hS0 ?hrF7x17
    case hyF7x17 => (intro w' hSw; have hq := hSw; obtain ⟨s7, s8, s9, s10, s11⟩ := hq; clear hSw; go_simp; try with_reducible rfl)
    try simp only [Act.put, List.setIfInBounds_toArray, List.set_cons_zero, List.set_cons_succ]
    refine hTake (i := 18) (v := ?_) (some 64) rfl rfl (by kernel_rfl) (by kernel_rfl) (by kernel_rfl) (fun _ _ _ h => h) (Or.inl ⟨by rfl, ?hyF7x18⟩) hS0 ?hrF7x18
    case hyF7x18 => (intro w' hSw; have hq := hSw; obtain ⟨s7, s8, s9, s10, s11⟩ := hq; clear hSw; go_simp; try with_reducible rfl)
    try simp only [Act.put, List.setIfInBounds_toArray, List.set_cons_zero, List.set_cons_succ]
    refine hTake (i := 19) (v := ?_) (some 65) rfl rfl (by kernel_rfl) (by kernel_rfl) (by kernel_rfl) (fun _ _ _ h => h) (Or.inl ⟨by rfl, ?hyF7x19⟩) hS0 ?hrF7x19
    case hyF7x19 => (intro w' hSw; have hq := hSw; obtain ⟨s7, s8, s9, s10, s11⟩ := hq; clear hSw; go_simp; try with_reducible rfl)
    try simp only [Act.put, List.setIfInBounds_toArray, List.set_cons_zero, List.set_cons_succ]
    refine hTake (i := 20) (v := ?_) (some 66) rfl rfl (by kernel_rfl) (by kernel_rfl) (by kernel_rfl) (fun _ _ _ h => h) (Or.inl ⟨by rfl, ?hyF7x20⟩) hS0 ?hrF7x20
    case hyF7x20 => (intro w' hSw; have hq := hSw; obtain ⟨s7, s8, s9, s10, s11⟩ := hq; clear hSw; go_simp; try with_reducible rfl)
    try simp only [Act.put, List.setIfInBounds_toArray, List.set_cons_zero, List.set_cons_succ]
    refine wpAnyH_all (rs := [21]) (by kernel_rfl) (by simp) (rows1 ?_)
    refine hStore1 36 _ _ rfl rfl rfl rfl (by kernel_rfl) w3.heap.size 8 (.int .u32 0) rfl rfl rfl q8 (qz 8) ?_
    refine ⟨hS0, ?_⟩
    refine hTake (i := 22) (v := ?_) (some 67) rfl rfl (by kernel_rfl) (by kernel_rfl) (by kernel_rfl) (fun _ _ _ h => h) (Or.inl ⟨by rfl, ?hyF7x22⟩) hS0 ?hrF7x22
    case hyF7x22 => (intro w' hSw; clear hSw; go_simp; try with_reducible rfl)
    try simp only [Act.put, List.setIfInBounds_toArray, List.set_cons_zero, List.set_cons_succ]
    refine wpAnyH_all (rs := [23]) (by kernel_rfl) (by simp) (rows1 ?_)
    refine hStore1 36 _ _ rfl rfl rfl rfl (by kernel_rfl) w3.heap.size 9 (.int .u32 0) rfl rfl rfl q9 (qz 9) ?_
    refine ⟨hS0, ?_⟩
    refine hTake (i := 24) (v := ?_) (some 68) rfl rfl (by kernel_rfl) (by kernel_rfl) (by kernel_rfl) (fun _ _ _ h => h) (Or.inl ⟨by rfl, ?hyF7x24⟩) hS0 ?hrF7x24
    case hyF7x24 => (intro w' hSw; clear hSw; go_simp; try with_reducible rfl)
    try simp only [Act.put, List.setIfInBounds_toArray, List.set_cons_zero, List.set_cons_succ]
    refine wpAnyH_all (rs := [25]) (by kernel_rfl) (by simp) (rows1 ?_)
    refine hStore1 36 _ _ rfl rfl rfl rfl (by kernel_rfl) w3.heap.size 10 (.int .u32 0) rfl rfl rfl q10 (qz 10) ?_
    refine ⟨hS0, ?_⟩
    refine hTake (i := 26) (v := ?_) (some 69) rfl rfl (by kernel_rfl) (by kernel_rfl) (by kernel_rfl) (fun _ _ _ h => h) (Or.inl ⟨by rfl, ?hyF7x26⟩) hS0 ?hrF7x26
    case hyF7x26 => (intro w' hSw; clear hSw; go_simp; try with_reducible rfl)
    try simp only [Act.put, List.setIfInBounds_toArray, List.set_cons_zero, List.set_cons_succ]
    refine wpAnyH_all (rs := [27]) (by kernel_rfl) (by simp) (rows1 ?_)
    refine hStore1 36 _ _ rfl rfl rfl rfl (by kernel_rfl) w3.heap.size 11 (.int .u32 0) rfl rfl rfl q11 (qz 11) ?_
    refine ⟨hS0, ?_⟩
    refine hTake (i := 28) (v := ?_) (some 70) rfl rfl (by kernel_rfl) (by kernel_rfl) (by kernel_rfl) (fun _ _ _ h => h) (Or.inl ⟨by rfl, ?hyF7x28⟩) hS0 ?hrF7x28
    case hyF7x28 => (intro w' hSw; clear hSw; go_simp; try with_reducible rfl)
    try simp only [Act.put, List.setIfInBounds_toArray, List.set_cons_zero, List.set_cons_succ]
    refine wpAnyH_all (rs := [29]) (by kernel_rfl) (by simp) (rows1 ?_)
    refine hStore1 9 _ _ rfl rfl rfl rfl (by kernel_rfl) w3.heap.size 12 (.string ⟨#[]⟩) rfl rfl rfl q12 (qz 12) ?_
    refine ⟨hS0, ?_⟩
    refine wpAnyH_done (by kernel_rfl) ?_ _
    refine NoPanic.normal ?_
    go_upto_region 11 with (fail)
    have hR := fun (k : Nat) => cell_of_row _ _ k _ _ _ HR6.out
    obtain ⟨LC, hLC⟩ : ∃ LC : List Value, LC = lcells ⟨s, NN, false, 493, z, tm, ⟨#[]⟩⟩ := ⟨_, rfl⟩
    have hll : LC.length = 15 := by rw [hLC]; rfl
    have hl1 : LC.toArray.all (·.oneCell') = true := by rw [hLC]; simp [lcells, Value.oneCell']
    have hlr : w6.drew.rangeAt w3.heap.size 0 LC := fun j v hv => by
      rw [Nat.zero_add]
      refine (hR j).trans ?_
      rw [hLC] at hv
      simpa using hv
    have hi1 : (Tryz.prog.info? 52).map (·.size) = some LC.length := by rw [hll]; kernel_rfl
    have hi2 : (Tryz.prog.info? 52).map (·.size) = some LC.toArray.size := by rw [show LC.toArray.size = 15 from by rw [List.size_toArray]; exact hll]; kernel_rfl
    have hsame : w6.drew.heap[w.heap.size]? = w1.heap[w.heap.size]? := (HB6.out.block _ (by omega)).trans ((HB35.out.block _ (by omega)).trans ((HB3.out.block _ (by omega)).trans (HB2.out.block _ (by omega))))
    have hlz : LC.toArray.size = 15 := by rw [List.size_toArray]; exact hll
    have hth6 : w6.drew.there w.heap.size 0 LC.toArray.size := by rw [hlz]; exact there_same HTH.out hsame
    have hth7 : w6.drew.there w.heap.size 0 LC.toArray.toList.length := by rw [Array.length_toList]; exact hth6
    have hrg := World.rangeAt_setCells_same w6.drew w.heap.size 0 LC.toArray.toList hth7
    have hoth : Below w.heap.size w (w6.drew.setCells w.heap.size 0 LC.toArray.toList) := below_setCells ((HB1.out.trans ((HB2.out.trans ((HB3.out.trans ((HB35.out.trans (HB6.out.mono (by omega))).mono (by omega))).mono (by omega))).mono (by omega))).drew) (Nat.le_refl _)
    have HRG := Lib.hid hrg
    have HOTH := Lib.hid hoth
    have HLR := Lib.hid hlr
    have HI1 := Lib.hid hi1
    have HI2 := Lib.hid hi2
    have HL1 := Lib.hid hl1
    have HTH6 := Lib.hid hth6
    have HLC := Lib.hid hLC
    clear hR hth6 hth7 hsame t7 t8 t9 t10 t11 hrg hoth hlr hi1 hi2 hl1 hll hLC hlz
    go_wp2_with (first
      | (refine wpList_load_mid rfl 52 (.tmp 6) rfl w3.heap.size 0 rfl LC _ HLR.out Tryz.underlying52 rfl HI1.out ?_)
      | (refine wpList_store_mid rfl 52 (.tmp 4) (.tmp 99) rfl w.heap.size 0 LC.toArray rfl rfl HTH6.out HI2.out HL1.out ?_
         generalize World.setCells w6.drew w.heap.size 0 LC.toArray.toList = w9 at HRG HOTH ⊢))
    have e := fun (k : Nat) (v : Value) (h : LC.toArray.toList[k]? = some v) => HRG.out k v h
    have e0 : w9.cell? ⟨w.heap.size, 0, none⟩ = some (.string s) := by have h := e 0 _ (by rw [HLC.out]; rfl); rw [Nat.zero_add] at h; exact h
    have e1 : w9.cell? ⟨w.heap.size, 1, none⟩ = some (.string NN) := by have h := e 1 _ (by rw [HLC.out]; rfl); rw [Nat.zero_add] at h; exact h
    have e2 : w9.cell? ⟨w.heap.size, 2, none⟩ = some (.bool false) := by have h := e 2 _ (by rw [HLC.out]; rfl); rw [Nat.zero_add] at h; exact h
    have e3 : w9.cell? ⟨w.heap.size, 3, none⟩ = some (.bool false) := by have h := e 3 _ (by rw [HLC.out]; rfl); rw [Nat.zero_add] at h; exact h
    have e4 : w9.cell? ⟨w.heap.size, 4, none⟩ = some (.bool false) := by have h := e 4 _ (by rw [HLC.out]; rfl); rw [Nat.zero_add] at h; exact h
    have e5 : w9.cell? ⟨w.heap.size, 5, none⟩ = some (.int .u32 493) := by have h := e 5 _ (by rw [HLC.out]; rfl); rw [Nat.zero_add] at h; exact h
    have e6 : w9.cell? ⟨w.heap.size, 6, none⟩ = some (.int .i64 z) := by have h := e 6 _ (by rw [HLC.out]; rfl); rw [Nat.zero_add] at h; exact h
    have e7 : w9.cell? ⟨w.heap.size, 7, none⟩ = some (.int .i64 tm) := by have h := e 7 _ (by rw [HLC.out]; rfl); rw [Nat.zero_add] at h; exact h
    have e8 : w9.cell? ⟨w.heap.size, 8, none⟩ = some (.int .u32 0) := by have h := e 8 _ (by rw [HLC.out]; rfl); rw [Nat.zero_add] at h; exact h
    have e9 : w9.cell? ⟨w.heap.size, 9, none⟩ = some (.int .u32 0) := by have h := e 9 _ (by rw [HLC.out]; rfl); rw [Nat.zero_add] at h; exact h
    have e10 : w9.cell? ⟨w.heap.size, 10, none⟩ = some (.int .u32 0) := by have h := e 10 _ (by rw [HLC.out]; rfl); rw [Nat.zero_add] at h; exact h
    have e11 : w9.cell? ⟨w.heap.size, 11, none⟩ = some (.int .u32 0) := by have h := e 11 _ (by rw [HLC.out]; rfl); rw [Nat.zero_add] at h; exact h
    have e12 : w9.cell? ⟨w.heap.size, 12, none⟩ = some (.string ⟨#[]⟩) := by have h := e 12 _ (by rw [HLC.out]; rfl); rw [Nat.zero_add] at h; exact h
    have e13 : w9.cell? ⟨w.heap.size, 13, none⟩ = some (.string ⟨#[]⟩) := by have h := e 13 _ (by rw [HLC.out]; rfl); rw [Nat.zero_add] at h; exact h
    have e14 : w9.cell? ⟨w.heap.size, 14, none⟩ = some (.string ⟨#[]⟩) := by have h := e 14 _ (by rw [HLC.out]; rfl); rw [Nat.zero_add] at h; exact h
    refine bodyPost_ret (v := .agg (lcells ⟨s, NN, false, 493, z, tm, ⟨#[]⟩⟩).toArray) (by simp [results, Tryz.results77, go_sem, lcells, e0, e1, e2, e3, e4, e5, e6, e7, e8, e9, e10, e11, e12, e13, e14]) rfl ?_
    exact ⟨⟨_, rfl, rfl, HN2.out, rfl, rfl, rfl⟩, HOTH.out⟩

end Go.Proofs.YtfppgplboomdbaaGreatDoor
