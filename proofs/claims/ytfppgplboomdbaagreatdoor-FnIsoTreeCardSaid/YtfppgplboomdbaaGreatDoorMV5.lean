/- Part of the proofs of laws.FnIsoTree and laws.FnIsoAt: lemmas and contracts of functions that the two laws reach, each under the hypotheses that its own statement names. -/
import Derived.Test.YtfppgplboomdbaaGreatDoorMPart19
namespace Go.Proofs.YtfppgplboomdbaaGreatDoor
open Go.RowKit

theorem method_type129 (pv : Nat) (w : World) : (method 504 129 (.pointer (some ⟨pv, 0, none⟩)) "Type").run Tryz.prog w = .ok (181, .pointer (some ⟨pv, 0, none⟩)) w := by kernel_rfl
theorem nilAhead_type129 (pv : Nat) (w : World) : (nilAhead 504 129 (.pointer (some ⟨pv, 0, none⟩)) "Type").run Tryz.prog w = .ok (some false) w := by kernel_rfl
theorem method_type202 (pv : Nat) (w : World) : (method 504 202 (.pointer (some ⟨pv, 0, none⟩)) "Type").run Tryz.prog w = .ok (203, .pointer (some ⟨pv, 0, none⟩)) w := by kernel_rfl
theorem nilAhead_type202 (pv : Nat) (w : World) : (nilAhead 504 202 (.pointer (some ⟨pv, 0, none⟩)) "Type").run Tryz.prog w = .ok (some false) w := by kernel_rfl
theorem type129_any (pv : Nat) (w : World) : Calls Tryz.prog 181 #[.pointer (some ⟨pv, 0, none⟩)] w fun e w' => e = .returned (.int .u8 1) ∧ w' = w := by
  go_enter Tryz.func181, Tryz.ntmps181
  go_wp2
  go_ret
  exact ⟨rfl, rfl⟩
theorem type202_any (pv : Nat) (w : World) : Calls Tryz.prog 203 #[.pointer (some ⟨pv, 0, none⟩)] w fun e w' => e = .returned (.int .u8 255) ∧ w' = w := by
  go_enter Tryz.func203, Tryz.ntmps203
  go_wp2
  go_ret
  exact ⟨rfl, rfl⟩
theorem assert129 (pv : Nat) (w : World) : (Instr.typeAssert (.iface 129 (.pointer (some ⟨pv, 0, none⟩))) 132 129 true).run Tryz.prog w = .ok (.tuple #[.pointer (some ⟨pv, 0, none⟩), .bool true]) w := by kernel_rfl
theorem mk128 (w : World) : (Instr.makeSlice 128 (.int .i64 0) (.int .i64 128)).run Tryz.prog w = .ok (.slice (some ⟨w.heap.size, 0, none⟩) 0 128) (w.alloc (.cells (List.replicate 128 Value.nilIface).toArray 132)) := by kernel_rfl
theorem Tryz.i132 : (Tryz.prog.info? 132).map (fun i => (i.zero, i.size, i.bytes)) = some (some .nilIface, 1, 16) := by kernel_rfl
theorem run_make_32768 (w : World) : ∃ (w' : World) (Z : Bs), (Instr.makeSlice 26 (.int .i64 32768) (.int .i64 32768)).run Tryz.prog w = .ok (.slice (some ⟨w.heap.size, 0, none⟩) 32768 32768) w' ∧ Z.length = 32768 ∧ Blk w' w.heap.size Z ∧ Below w.heap.size w w' := by
  obtain ⟨w', h1, h2, h3, _⟩ := run_make_blk w 32768 (by omega)
  exact ⟨w', _, h1, List.length_replicate, h2, h3⟩
theorem run_make_2048i (w : World) : ∃ w', (Instr.makeSlice 26 (.int .i64 2048) (.int .i64 2048)).run Tryz.prog w = .ok (.slice (some ⟨w.heap.size, 0, none⟩) 2048 2048) w' ∧ Blk w' w.heap.size (List.replicate 2048 0) ∧ Below w.heap.size w w' ∧ w'.heap.size = w.heap.size + 1 := run_make_blk w 2048 (by omega)
theorem PvAt.lt {w : World} {pv p : Nat} {vol : Bs} {paths little : Int} (h : PvAt w pv vol paths little p) : pv < w.heap.size := World.block_lt_of_cell? w _ h.c1
theorem PvAt.below {w w' : World} {pv p : Nat} {vol : Bs} {paths little : Int} (h : PvAt w pv vol paths little p) (hb : Below w.heap.size w w') : PvAt w' pv vol paths little p := by
  have hl := h.lt
  have hc := fun (k : Nat) => hb.cell (p := ⟨pv, k, none⟩) hl
  exact ⟨(hc _).trans h.c1, (hc _).trans h.c5, (hc _).trans h.c6, (hc _).trans h.c7, (hc _).trans h.c11⟩
theorem PvAt.same {w w' : World} {pv p : Nat} {vol : Bs} {paths little : Int} (h : PvAt w pv vol paths little p) (e : w'.heap[pv]? = w.heap[pv]?) : PvAt w' pv vol paths little p := by
  have hc := fun (k : Nat) => World.cell?_of_block (w := w) (w' := w') (a := ⟨pv, k, none⟩) e
  exact ⟨(hc _).trans h.c1, (hc _).trans h.c5, (hc _).trans h.c6, (hc _).trans h.c7, (hc _).trans h.c11⟩
theorem EntAt.same {w w' : World} {p : Nat} {r : RecE} {fs : Value} (h : EntAt w p r fs) (e : w'.heap[p]? = w.heap[p]?) : EntAt w' p r fs := by
  obtain ⟨a, b, c, ge, h1⟩ := h
  exact ⟨a, b, c, ge, e.trans h1⟩
/-- The loop over the volume descriptors. -/
def VdI (w : World) (vol tm : Bs) (ext P : Int) (v15 v16 v17 v18 iv : Value) (wr : World) : Prop :=
  v18 = .pointer none ∧ Below w.heap.size w wr ∧
  ((iv = .int .i64 0 ∧ v16 = .bool false ∧ v17 = .pointer none ∧ ∃ g, v15 = .slice (some ⟨g, 0, none⟩) 0 128 ∧ OwnS wr w.heap.size 1 (.slice (some ⟨g, 0, none⟩) 0 128) 0 []) ∨
   ((iv = .int .i64 1 ∧ v16 = .bool false ∨ iv = .int .i64 2 ∧ v16 = .bool true) ∧ (∃ ad m cap, v15 = .slice ad m cap) ∧ ∃ pv p, v17 = .pointer (some ⟨pv, 0, none⟩) ∧ PvAt wr pv vol P 18 p ∧ EntAt wr p (rootE ext 2048 tm) (.pointer none) ∧ w.heap.size ≤ pv ∧ w.heap.size ≤ p))
theorem VdI.start {w wr : World} {vol tm : Bs} {ext P : Int} {g : Nat} (hb : Below w.heap.size w wr) (ho : OwnS wr w.heap.size 1 (.slice (some ⟨g, 0, none⟩) 0 128) 0 []) :
    VdI w vol tm ext P (.slice (some ⟨g, 0, none⟩) 0 128) (.bool false) (.pointer none) (.pointer none) (.int .i64 0) wr := ⟨rfl, hb, .inl ⟨rfl, rfl, rfl, g, rfl, ho⟩⟩
theorem VdI.one {w wr : World} {vol tm : Bs} {ext P : Int} {pv p : Nat} {v : Value} (hv : ∃ ad m cap, v = .slice ad m cap) (hb : Below w.heap.size w wr) (h1 : PvAt wr pv vol P 18 p) (h2 : EntAt wr p (rootE ext 2048 tm) (.pointer none)) (h3 : w.heap.size ≤ pv) (h4 : w.heap.size ≤ p) :
    VdI w vol tm ext P v (.bool false) (.pointer (some ⟨pv, 0, none⟩)) (.pointer none) (.int .i64 1) wr := ⟨rfl, hb, .inr ⟨.inl ⟨rfl, rfl⟩, hv, pv, p, rfl, h1, h2, h3, h4⟩⟩
theorem VdI.two {w wr : World} {vol tm : Bs} {ext P : Int} {pv p : Nat} {v : Value} (hv : ∃ ad m cap, v = .slice ad m cap) (hb : Below w.heap.size w wr) (h1 : PvAt wr pv vol P 18 p) (h2 : EntAt wr p (rootE ext 2048 tm) (.pointer none)) (h3 : w.heap.size ≤ pv) (h4 : w.heap.size ≤ p) :
    VdI w vol tm ext P v (.bool true) (.pointer (some ⟨pv, 0, none⟩)) (.pointer none) (.int .i64 2) wr := ⟨rfl, hb, .inr ⟨.inr ⟨rfl, rfl⟩, hv, pv, p, rfl, h1, h2, h3, h4⟩⟩
theorem tabs_keep {w w' : World} {B : Nat} (h : Lib.Utf8Tabs 4 5 w) (hb : Below B w w') (h6 : 6 ≤ B) : Lib.Utf8Tabs 4 5 w' := by
  refine ⟨fun c hc => ?_, fun i hi => ?_⟩
  · rw [hb.cell (p := ⟨4, c, none⟩) (by show 4 < B; omega)]; exact h.1 c hc
  · rw [hb.cell (p := ⟨5, 2 * i, none⟩) (by show 5 < B; omega), hb.cell (p := ⟨5, 2 * i + 1, none⟩) (by show 5 < B; omega)]; exact h.2 i hi
def vidOf (vol : Bs) : ByteArray := ⟨(vol ++ List.replicate (32 - vol.length) 32).toArray⟩
/-- An image that was read. -/
def OpPost {n P : Nat} {D vol : Bs} {nd : Nat → Nd} {ks : Nat → List Nat} {ds : List Nat} (_tr : Tr D nd ks n ds P vol) (mb : Nat) (w : World) (e : Ending) (w' : World) : Prop :=
  ∃ fp pt rd pv rr, e = .returned (.tuple #[.pointer (some ⟨fp, 0, none⟩), .nilIface]) ∧ FsAt w' w'.heap.size fp mb pt rd D (esOf nd ds) ∧ EntAt w' rd rr (.pointer (some ⟨fp, 0, none⟩)) ∧ rr.ext = (nd 0).ext ∧ rr.size = 2048 ∧ LabAt w' fp pv (vidOf vol) ∧ Below w.heap.size w w'
set_option maxHeartbeats 8000000 in
set_option maxRecDepth 100000 in
theorem read_any {n P : Nat} {D vol : Bs} {nd : Nat → Nd} {ks : Nat → List Nat} {ds : List Nat} (tr : Tr D nd ks n ds P vol) (mb L : Nat) (w : World) (hL : D.length = L) (hm : Mem w w.heap.size mb D) (hv32 : vol.length ≤ 32) (htabs : Lib.Utf8Tabs 4 5 w) (h6 : 6 ≤ w.heap.size) :
    Calls Tryz.prog 48 #[.iface 102 (.pointer (some ⟨mb, 0, none⟩)), .int .i64 (L : Int), .int .i64 0, .int .i64 2048] w fun e w' => OpPost tr mb w e w' := by
  obtain ⟨tm, htm, hvol⟩ := tr.vol
  have hterm := tr.term
  obtain ⟨hpath, hPl, hP5⟩ := tr.path
  have hext := tr.ext 0 tr.tree.pos
  have hfit := tr.fit 0 tr.tree.pos
  have hsz : sizeOfN nd 0 = 2048 := by unfold sizeOfN; rw [if_pos tr.tree.root]
  have hDl := tr.len
  rw [hsz] at hfit
  have hx2 : ((2048 : Int)).toNat = 2048 := rfl
  have hx3 : 18 ≤ (nd 0).ext.toNat := by omega
  rw [hx2] at hfit
  rw [hL] at hfit hDl
  have hL1 : 38912 ≤ L := by omega
  have hL2 : L ≤ 30000000 := hDl.2
  have hL3 : 36864 + P ≤ L := hDl.1
  have HL := Lib.hid hL
  have HM := Lib.hid hm
  have HVOL := Lib.hid hvol
  have HTERM := Lib.hid hterm
  have HPATH := Lib.hid hpath
  have HPL := Lib.hid hPl
  have HTABS := Lib.hid htabs
  have HTM := Lib.hid htm
  clear hL hm hvol hterm hpath hPl htabs htm hsz hx2 hDl hfit hx3
  obtain ⟨i132, hi, hz0, hz1, hz2⟩ := info_parts Tryz.i132
  obtain ⟨w1, Z, hmk1, hZ, hblk1, hb1⟩ := run_make_32768 w
  have HZ := Lib.hid hZ
  have HBLK1 := Lib.hid hblk1
  have HB1 := Lib.hid hb1
  clear hblk1 hb1 hZ
  have hmeth := method_readAt mb
  have hna := nilAhead_readAt mb
  go_enter Tryz.func48, Tryz.ntmps48
  go_upto_region 17 with (first
    | (go_at_call 61
       refine (validate_any _).mono ?_
       rintro e w2 ⟨rfl, hw⟩
       rw [hw]
       clear hw)
    | (go_at_call 173
       refine (ReadAt_at w.heap.size mb w.heap.size 0 32768 32768 0 0 rfl D Z w1 (HM.out.keep HB1.out) HBLK1.out (Nat.le_refl _) (by omega) (by rw [HZ.out]; omega) (by rw [HL.out]; omega) (by rw [HL.out]; omega)).mono ?_
       rintro e w2 ⟨rfl, hblk2, hchg⟩
       have HB2 := Lib.hid (hchg.below HB1.out (Nat.le_refl _))
       clear hchg hblk2))
  clear hmk1
  have hmk := mk128 w2
  go_upto_region 22 with (fail)
  clear hmk
  have hown0 := own_empty w2 w.heap.size 132 (List.replicate 128 Value.nilIface) HB2.out.size (by simp [maxLen])
  have HOWN0 := Lib.hid hown0
  have HB3 := Lib.hid (HB2.out.alloc HB2.out.size (.cells (List.replicate 128 Value.nilIface).toArray 132))
  clear hown0
  go_wp2_with (fail)
  go_loopw [15, 16, 17, 18, 20] (fun v15 v16 v17 v18 iv wr => VdI w vol tm (nd 0).ext P v15 v16 v17 v18 iv wr) (fun _ _ _ _ iv _ => 2 - (intOf iv).toNat)
  case atStart => exact VdI.start HB3.out HOWN0.out
  case round =>
    obtain ⟨rfl, hbel, hcase⟩ := hrel
    obtain ⟨w0, rfl⟩ : ∃ w0 : World, w0 = wr := ⟨_, rfl⟩
    have HBEL := Lib.hid hbel
    have hsz := hbel.size
    clear hbel
    rcases hcase with ⟨rfl, rfl, rfl, g, rfl, hown⟩ | ⟨⟨rfl, rfl⟩ | ⟨rfl, rfl⟩, ⟨ad15, m15, cap15, rfl⟩, pv, p, rfl, hpv, hent, hpv1, hp1⟩
    · have HOWN := Lib.hid hown
      obtain ⟨w4, hmk4, hblk4, hb4, hs4⟩ := run_make_2048i w0
      have HBLK4 := Lib.hid hblk4
      have HB4 := Lib.hid hb4
      clear hown hblk4 hb4 hs4
      go_upto_region 27 with (first
        | (go_at_call 173
           refine (ReadAt_at w.heap.size mb w0.heap.size 0 2048 2048 32768 32768 rfl D (List.replicate 2048 0) w4 (HM.out.keep (HBEL.out.trans (HB4.out.mono hsz))) HBLK4.out hsz (by omega) (by simp) (by rw [HL.out]; omega) (by rw [HL.out]; omega)).mono ?_
           rintro e w5 ⟨rfl, hblk5, hchg⟩
           rw [splice_all _ _ (by rw [seg_len _ _ _ (by rw [HL.out]; omega)]; simp)] at hblk5
           have HBLK5 := Lib.hid hblk5
           have HB5 := Lib.hid (hchg.below HB4.out (Nat.le_refl _))
           clear hblk5 hchg))
      clear hmk4
      have hs05 := HB5.out.size
      have hext0 : (0 : Int) ≤ (nd 0).ext ∧ (nd 0).ext < 4294967296 := by omega
      have hsl := seg_len D 32768 2048 (by rw [HL.out]; omega)
      have hg5 := HBLK5.out.lt
      have hr5 : w5.rangeAt w0.heap.size 0 (bcs (seg D 32768 2048)) := blk_range HBLK5.out (fun j _ => by rw [Nat.zero_add])
      have HVD := Lib.hid (vdPvd_any w0.heap.size (seg D 32768 2048) vol (nd 0).ext 2048 P 18 tm w5 hg5 hr5 hsl HVOL.out.sig HVOL.out hv32 HTM.out hext0 (by omega) (by omega) (by omega))
      clear hsl hr5 hext0 hg5
      go_upto_region 34 with (first
        | (go_at_call 63
           refine HVD.out.mono ?_
           rintro e w6 ⟨pv, p, rfl, hpv, hent, hpv1, hp1, hb6⟩
           have HPV := Lib.hid hpv
           have HENT := Lib.hid hent
           have HB6 := Lib.hid (HB5.out.trans (hb6.mono hs05))
           clear hpv hent hb6))
      have ha129 := assert129 pv
      have hmt := method_type129 pv
      have hnt := nilAhead_type129 pv
      have hown6 := (HOWN.out.below HB6.out)
      have HOWN6 := Lib.hid hown6
      have hs6 := HB6.out.size
      clear hown6
      go_wp2_with (first
        | (go_at_call 181
           refine (type129_any pv _).mono ?_
           rintro e w7 ⟨rfl, hw⟩
           rw [hw]
           clear hw)
        | (refine wpList_append_ownS' rfl (.tmp 116) (.tmp 118) 128 rfl w.heap.size 132 i132 .nilIface 1 16 Tryz.underlying128 hi hz0 hz1 hz2 rfl (by decide) (.slice (some ⟨g, 0, none⟩) 0 128) 0 _ rfl (HOWN6.out.alloc _) ⟨w6.heap.size, 0, none⟩ 1 1 [.iface 129 (.pointer (some ⟨pv, 0, none⟩))] rfl rfl (row_at w6 [_] 132) (by intro u hu; simp at hu; subst hu; rfl) (by omega) (by unfold maxLen; omega) (by omega) (by simp; omega) ?_
           intro v7 w7 hA
           have HA := Lib.hid hA
           clear hA))
      have hpl6 := HENT.out.full.2.2.2.2.2.2.2
      have hvl6 := HPV.out.lt
      have hgl := HOWN.out.lt.1
      have ho : ∀ k, w0.heap.size ≤ k → k < w6.heap.size → w7.heap[k]? = w6.heap[k]? := fun k h1 h2 =>
        (HA.out.other k (by simp; omega) (fun e => by have e2 : g = k := Option.some.inj e; omega)).trans (Below.heap_alloc w6 _ k h2)
      refine ⟨VdI.one (by obtain ⟨ad, cap, e⟩ := HA.out.own.slice; exact ⟨ad, _, cap, e⟩) (((HBEL.out.trans (HB6.out.mono hsz)).alloc (by omega) _).trans HA.out.below) (HPV.out.same (ho pv (by omega) hvl6)) (HENT.out.same (ho p (by omega) hpl6)) (by omega) (by omega), by simp [intOf]⟩
    · have HPV := Lib.hid hpv
      have HENT := Lib.hid hent
      obtain ⟨w4, hmk4, hblk4, hb4, hs4⟩ := run_make_2048i w0
      have HBLK4 := Lib.hid hblk4
      have HB4 := Lib.hid hb4
      clear hpv hent hblk4 hb4 hs4
      go_upto_region 27 with (first
        | (go_at_call 173
           refine (ReadAt_at w.heap.size mb w0.heap.size 0 2048 2048 34816 34816 rfl D (List.replicate 2048 0) w4 (HM.out.keep (HBEL.out.trans (HB4.out.mono hsz))) HBLK4.out hsz (by omega) (by simp) (by rw [HL.out]; omega) (by rw [HL.out]; omega)).mono ?_
           rintro e w5 ⟨rfl, hblk5, hchg⟩
           rw [splice_all _ _ (by rw [seg_len _ _ _ (by rw [HL.out]; omega)]; simp)] at hblk5
           have HBLK5 := Lib.hid hblk5
           have HB5 := Lib.hid (hchg.below HB4.out (Nat.le_refl _))
           clear hblk5 hchg))
      clear hmk4
      have hs05 := HB5.out.size
      have hsl := seg_len D 34816 2048 (by rw [HL.out]; omega)
      have hg5 := HBLK5.out.lt
      have hr5 : w5.rangeAt w0.heap.size 0 (bcs (seg D 34816 2048)) := blk_range HBLK5.out (fun j _ => by rw [Nat.zero_add])
      have hsig2 : seg (seg D 34816 2048) 0 7 = [255, 67, 68, 48, 48, 49, 1] := by
        have e := seg_seg D 34816 2048 0 7 (by omega)
        rw [Nat.add_zero] at e
        rw [e]; exact HTERM.out
      have HVD := Lib.hid (vdTerm_any w0.heap.size (seg D 34816 2048) w5 hg5 hr5 hsl hsig2)
      clear hsl hr5 hg5 hsig2
      go_upto_region 34 with (first
        | (go_at_call 63
           refine HVD.out.mono ?_
           rintro e w6 ⟨q, rfl, hb6⟩
           have HB6 := Lib.hid (HB5.out.trans (hb6.mono hs05))
           clear hb6))
      have hmt := method_type202 q
      have hnt := nilAhead_type202 q
      go_wp2_with (first
        | (go_at_call 203
           refine (type202_any q _).mono ?_
           rintro e w7 ⟨rfl, hw⟩
           rw [hw]
           clear hw))
      refine ⟨VdI.two ⟨ad15, m15, cap15, rfl⟩ (HBEL.out.trans (HB6.out.mono hsz)) (HPV.out.below HB6.out) (HENT.out.below HB6.out) hpv1 hp1, by simp [intOf]⟩
    · have HPV := Lib.hid hpv
      have HENT := Lib.hid hent
      clear hpv hent
      have hvl := HPV.out.lt
      have hpl := HENT.out.full.2.2.2.2.2.2.2
      have c5 := HPV.out.c5
      have c6 := HPV.out.c6
      have c7 := HPV.out.c7
      have c11 := HPV.out.c11
      obtain ⟨w4, hmk4, hblk4, hb4, hs4⟩ := run_make_u32 w0 P (by omega)
      have HBLK4 := Lib.hid hblk4
      have HB4 := Lib.hid hb4
      have q5 : w4.cell? ⟨pv, 5, none⟩ = some (.int .u16 2048) := (hb4.cell (p := ⟨pv, 5, none⟩) hvl).trans c5
      have q7 : w4.cell? ⟨pv, 7, none⟩ = some (.int .u32 18) := (hb4.cell (p := ⟨pv, 7, none⟩) hvl).trans c7
      clear hblk4 hb4 hs4
      go_upto_region 51 with (fail)
      clear hmk4 c5 c6 c7 c11
      go_quiet (fail)
      obtain ⟨w5, hw5⟩ : ∃ w5 : World, w5 = w4.drewN nq := ⟨_, rfl⟩
      rw [← hw5]
      have hb45 : Below w4.heap.size w4 w5 := by rw [hw5]; exact below_drewN (Below.refl _ _) _
      have hg4 := HBLK4.out.lt
      have HBLK5 := Lib.hid (HBLK4.out.same (hb45.block _ hg4))
      have HB5 := Lib.hid (HB4.out.trans (hb45.mono HB4.out.size))
      have hPpos : 0 < P := by
        obtain ⟨e0, h2, _⟩ := esOf_head tr.dirs
        have h3 := (pesB_at h2).2
        rw [HPL.out]
        unfold peN at h3
        omega
      have hesl : (esOf nd ds).length ≤ 1000 := by
        have hf := tr.few
        have h1 : (esOf nd ds).length = ds.length := by simp [esOf]
        have h3 := length_le_of_nodup n ds tr.dirs.nodup (fun y hy => ((tr.dirs.mem y).1 hy).1)
        omega
      have hPne : ¬ P = 0 := by omega
      clear hw5 hb45 hg4 q5 q7
      go_upto_region 57 with (first
        | (go_at_call 173
           refine (ReadAt_at w.heap.size mb w0.heap.size 0 P P 36864 36864 rfl D (List.replicate P 0) w5 (HM.out.keep (HBEL.out.trans (HB5.out.mono hsz))) HBLK5.out hsz hPpos (by simp) (by rw [HL.out]; omega) (by rw [HL.out]; omega)).mono ?_
           rintro e w6 ⟨rfl, hblk6, hchg⟩
           rw [splice_all _ _ (by rw [seg_len _ _ _ (by rw [HL.out]; omega)]; simp), HPATH.out] at hblk6
           have HBLK6 := Lib.hid hblk6
           have HB6 := Lib.hid (hchg.below HB5.out (Nat.le_refl _))
           clear hblk6 hchg))
      have HPT := Lib.hid (parsePathTable_any w0.heap.size P (esOf nd ds) w6 HBLK6.out HPL.out.symm tr.pok hesl (by omega))
      go_upto_region 59 with (first
        | (go_at_call 65
           refine HPT.out.mono ?_
           rintro e w7 ⟨pt, vt, pst, rfl, hpt, hrow, hownt, hpes, hb7⟩
           have HROWT := Lib.hid hrow
           have HOWNT := Lib.hid hownt
           have HPES := Lib.hid hpes
           have HB7 := Lib.hid hb7
           clear hrow hownt hpes hb7)
        | (go_at_call 66
           refine (joliet_nil _ _).mono ?_
           rintro e w8 ⟨rfl, hw⟩
           rw [hw]
           clear hw))
      have hs6 := HB6.out.size
      have hs7 := HB7.out.size
      have hb07 : Below w0.heap.size w0 w7 := HB6.out.trans (HB7.out.mono hs6)
      have hm7 : Mem w7 w7.heap.size mb D := (HM.out.keep (HBEL.out.trans (hb07.mono hsz))).more (by omega) (Nat.le_refl _)
      have HDT := Lib.hid (detect_any tr p mb (.pointer none) (rootE (nd 0).ext 2048 tm) w7 hm7 (HENT.out.below hb07) rfl)
      have HB07 := Lib.hid hb07
      clear hb07 hm7
      go_upto_region 62 with (first
        | (go_at_call 67
           refine HDT.out.mono ?_
           rintro e w8 ⟨rfl, hb8⟩
           have HB8 := Lib.hid hb8
           clear hb8))
      have hs8 := HB8.out.size
      have HB08 := Lib.hid (HB07.out.trans (HB8.out.mono (by omega)))
      go_upto_region 63 with (fail)
      generalize hw9 : w8.alloc _ = w9
      have hrow9 : w9.heap[w8.heap.size]? = some (.cells #[.pointer none, .string ⟨#[]⟩, .int .i64 L, .int .i64 0, .iface 102 (.pointer (some ⟨mb, 0, none⟩)), .int .i64 2048, .slice ad15 m15 cap15, .pointer (some ⟨pv, 0, none⟩), .pointer none, .pointer (some ⟨pt, 0, none⟩), .pointer (some ⟨p, 0, none⟩), .bool false, .int .u8 0, .slice none 0 0, .bool false, .pointer none, .pointer none] 155 (0, 0)) := by rw [← hw9]; exact heap_alloc_new w8 _
      have hb9 : Below w8.heap.size w8 w9 := by rw [← hw9]; exact (Below.refl _ _).alloc (Nat.le_refl _) _
      have hs9 : w8.heap.size < w9.heap.size := by rw [← hw9]; simp
      have hb09 : Below w0.heap.size w0 w9 := HB08.out.trans (hb9.mono (by omega))
      have hent9 := HENT.out.below hb09
      obtain ⟨q16, qz, _, hp9⟩ := hent9.cells
      have hpv9 := HPV.out.below hb09
      have HROW9 := Lib.hid hrow9
      have HB9 := Lib.hid hb9
      have HB09 := Lib.hid hb09
      have HENT9 := Lib.hid hent9
      have HPV9 := Lib.hid hpv9
      clear hw9 hrow9 hb9 hb09 hent9 hpv9
      go_wp2_with (fail)
      go_ret2
      have hbf : Below w.heap.size w (w9.setCell ⟨p, 16, none⟩ (.pointer (some ⟨w8.heap.size, 0, none⟩))) := (HBEL.out.trans (HB09.out.mono hsz)).setCell hp1 _
      have hne : ∀ k, k ≠ p → (w9.setCell ⟨p, 16, none⟩ (.pointer (some ⟨w8.heap.size, 0, none⟩))).heap[k]? = w9.heap[k]? := fun k hk => Below.heap_setCell _ _ _ _ (by simpa using hk)
      have hsf : (w9.setCell ⟨p, 16, none⟩ (.pointer (some ⟨w8.heap.size, 0, none⟩))).heap.size = w9.heap.size := by simp [World.setCell]
      have hef := HENT9.out.set (.pointer (some ⟨w8.heap.size, 0, none⟩))
      generalize w9.setCell ⟨p, 16, none⟩ (.pointer (some ⟨w8.heap.size, 0, none⟩)) = wf at hbf hne hsf hef ⊢
      have hfc : ∀ (k : Nat) (v : Value), (#[.pointer none, .string ⟨#[]⟩, .int .i64 L, .int .i64 0, .iface 102 (.pointer (some ⟨mb, 0, none⟩)), .int .i64 2048, .slice ad15 m15 cap15, .pointer (some ⟨pv, 0, none⟩), .pointer none, .pointer (some ⟨pt, 0, none⟩), .pointer (some ⟨p, 0, none⟩), .bool false, .int .u8 0, .slice none 0 0, .bool false, .pointer none, .pointer none] : Array Value)[k]? = some v → wf.cell? ⟨w8.heap.size, k, none⟩ = some v := fun k v hv =>
        (cell_of_row _ _ k _ _ _ ((hne w8.heap.size (by omega)).trans HROW9.out)).trans hv
      have h79 : ∀ k, k < w7.heap.size → k ≠ p → wf.heap[k]? = w7.heap[k]? := fun k h1 h2 =>
        (hne k h2).trans ((HB9.out.block k (by omega)).trans (HB8.out.block k h1))
      have htab : TabAt wf wf.heap.size pt (esOf nd ds) := by
        have hptl : pt < w7.heap.size := lt_of_block HROWT.out
        have hpl2 := HPES.out.len
        have hes : 0 < (esOf nd ds).length := by
          obtain ⟨e0, h2, _⟩ := esOf_head tr.dirs
          exact (List.getElem?_eq_some_iff.1 h2).1
        obtain ⟨tb, cap, rfl⟩ := HOWNT.out.pos (by omega)
        have htl := HOWNT.out.lt
        refine ⟨by omega, tb, cap, pst, ?_, by omega, hpl2, fun j q hq => ⟨?_, ?_⟩, fun j q e hq he => ?_⟩
        · rw [← hpl2]
          exact (World.cell?_of_block (a := ⟨pt, 0, none⟩) (h79 pt hptl (by omega))).trans (cell_of_row _ _ 0 _ _ _ HROWT.out)
        · have := HPES.out.lt (List.mem_of_getElem? hq); omega
        · exact (World.cell?_of_block (a := ⟨tb, j, none⟩) (h79 tb htl.1 (by omega))).trans (HOWNT.out.cell (by rw [List.getElem?_map, hq]; rfl))
        · obtain ⟨h1, sz, h2⟩ := HPES.out.ent j q e hq he
          exact ⟨sz, (h79 q (HPES.out.lt (List.mem_of_getElem? hq)) (by omega)).trans h2⟩
      have hpvp : pv ≠ p := fun e => by
        have h1 := HPV9.out.c1
        have h2 := HENT9.out.full.1
        rw [e, h2] at h1
        cases h1
      have hvl9 := HPV9.out.lt
      refine ⟨w8.heap.size, pt, p, pv, rootE (nd 0).ext 2048 tm, rfl, ⟨Nat.le_refl _, (HM.out.keep hbf).more (by omega) (Nat.le_refl _), by omega, by omega, hfc 1 _ rfl, hfc 4 _ rfl, hfc 5 _ rfl, hfc 9 _ rfl, hfc 10 _ rfl, hfc 11 _ rfl, hfc 13 _ rfl, hfc 14 _ rfl, htab, ?_⟩, hef, rfl, rfl, ⟨hfc 7 _ rfl, ?_⟩, hbf⟩
      · exact tabs_keep HTABS.out hbf h6
      · exact (World.cell?_of_block (a := ⟨pv, 1, none⟩) (hne pv hpvp)).trans HPV9.out.c1

end Go.Proofs.YtfppgplboomdbaaGreatDoor
