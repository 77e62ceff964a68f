/- Part of the proofs of laws.FnIsoTree and laws.FnIsoAt: lemmas and contracts of functions that the two laws reach, each under the hypotheses that its own statement names. -/
import Derived.Test.YtfppgplboomdbaaGreatDoorMV2
namespace Go.Proofs.YtfppgplboomdbaaGreatDoor
open Go.RowKit

theorem src_range {w : World} {g a : Nat} {S : Bs} (h : w.rangeAt g a (bcs S)) : SrcB w (some ⟨g, a, none⟩) S := fun _ => ⟨g, a, rfl, fun j hj => h j _ (by rw [bcs_get, List.getElem?_eq_getElem hj]; rfl)⟩
theorem run_make_8 (w : World) : ∃ w', (Instr.makeSlice 26 (.int .i64 8) (.int .i64 8)).run Tryz.prog w = .ok (.slice (some ⟨w.heap.size, 0, none⟩) 8 8) w' ∧ Blk w' w.heap.size (List.replicate 8 0) ∧ Below w.heap.size w w' ∧ w'.heap.size = w.heap.size + 1 := run_make_blk w 8 (by omega)
theorem beSig : ((Lib.beNat [0, 0, 0, 67, 68, 48, 48, 49] : Nat) : Int) = 288906817585 := by decide
set_option maxHeartbeats 4000000 in
set_option maxRecDepth 100000 in
theorem vdPvd_any (g : Nat) (D vol : Bs) (ext size paths little : Int) (tm : Bs) (w : World) (hg : g < w.heap.size) (hD : w.rangeAt g 0 (bcs D)) (hlen : D.length = 2048) (hsig : seg D 0 7 = [1, 67, 68, 48, 48, 49, 1]) (hv : VolIs D vol ext size paths little tm) (hv32 : vol.length ≤ 32) (htm : tm.length = 7) (he : 0 ≤ ext ∧ ext < 4294967296) (hsz : 0 ≤ size ∧ size < 4294967296) (hp : 0 ≤ paths ∧ paths < 4294967296) (hl : 0 ≤ little ∧ little < 4294967296) :
    Calls Tryz.prog 63 #[.slice (some ⟨g, 0, none⟩) 2048 2048] w fun e w' => ∃ pv p, e = .returned (.tuple #[.iface 129 (.pointer (some ⟨pv, 0, none⟩)), .nilIface]) ∧ PvAt w' pv vol paths little p ∧ EntAt w' p (rootE ext size tm) (.pointer none) ∧ w.heap.size ≤ pv ∧ w.heap.size ≤ p ∧ Below w.heap.size w w' := by
  obtain ⟨w1, hrun, hblk, hb1, hs1⟩ := run_make_8 w
  have hD1 : ∀ w', Below w.heap.size w w' → w'.rangeAt g 0 (bcs D) := fun w' hb j v hv => (hb.cell (p := ⟨g, 0 + j, none⟩) hg).trans (hD j v hv)
  have hsg : ∀ k, k < 7 → D.getD k 0 = ([1, 67, 68, 48, 48, 49, 1] : Bs).getD k 0 := fun k hk => by have h := seg_getD hsig k hk; rwa [Nat.zero_add] at h
  have hs5 : seg D 1 5 = [67, 68, 48, 48, 49] := by
    have h := seg_seg D 0 7 1 5 (by omega)
    rw [hsig] at h
    rw [← show 0 + 1 = 1 from rfl, ← h]; rfl
  have HD1 := Lib.hid hD1
  have HSG := Lib.hid hsg
  have HLEN := Lib.hid hlen
  have HBLK := Lib.hid hblk
  have HB1 := Lib.hid hb1
  have HS1 := Lib.hid hs1
  have HS5 := Lib.hid hs5
  clear hD1 hsg hblk hb1 hs1 hs5 hD hlen hsig
  go_enter Tryz.func63, Tryz.ntmps63
  go_wp2_with (fail)
  clear hrun
  go_region_law (first
    | (refine step_copy_bytes rfl (.tmp 16) (.tmp 18) 26 26 rfl Tryz.underlying26 rfl _ _ _ _ _ _ rfl rfl w.heap.size 3 _ [67, 68, 48, 48, 49] HBLK.out.drew rfl (src_range (range_seg (HD1.out _ HB1.out.drew) HS5.out rfl)) rfl (by simp) w.heap.size w HB1.out.drew (Nat.le_refl _) ?_; intro w2 HG2 hB2 hO2))
  have HG2 : Blk w2 w.heap.size [0, 0, 0, 67, 68, 48, 48, 49] := HG2
  have hz2 : w2.heap.size = w.heap.size + 1 := hO2.2.trans HS1.out
  have hcl : ∀ (k : Nat) (b : UInt8), ([0, 0, 0, 67, 68, 48, 48, 49] : Bs)[k]? = some b → w2.cell? ⟨w.heap.size, k, none⟩ = some (.int .u8 (b.toNat : Int)) := fun k b hb => (Blk.cell HG2 k).trans (by rw [hb]; rfl)
  have hc79 : Calls Tryz.prog 79 #[.agg #[], .slice (some ⟨w.heap.size, 0, none⟩) 8 8] w2 fun e w' => e = .returned (.int .u64 288906817585) ∧ Below w2.heap.size w2 w' := by
    have h := Tryz.binary_BE_Uint64 w.heap.size 0 8 8 0 0 0 67 68 48 48 49 w2 (Nat.le_refl _) (hcl 0 0 rfl) (hcl 1 0 rfl) (hcl 2 0 rfl) (hcl 3 67 rfl) (hcl 4 68 rfl) (hcl 5 48 rfl) (hcl 6 48 rfl) (hcl 7 49 rfl)
    rw [beSig] at h
    exact h
  have HC79 := Lib.hid hc79
  have HB2 := Lib.hid hB2
  have HZ2 := Lib.hid hz2
  clear hc79 hcl hB2 HG2 hO2 hz2
  go_upto_region 6 with (first
    | (go_at_call 79
       refine HC79.out.mono ?_
       rintro e w3 ⟨rfl, hb3⟩
       have hbw3 : Below w.heap.size w w3 := HB2.out.trans (hb3.mono HB2.out.size)
       have HB3 := Lib.hid hbw3
       clear hb3 hbw3))
  have hr3 := HD1.out w3 HB3.out
  have d6 : w3.cell? ⟨g, 6, none⟩ = some (.int .u8 1) := by
    have h := cell_getD hr3 (a := 6) (by have := HLEN.out; omega)
    rw [HSG.out 6 (by omega)] at h; exact h
  have d0 : w3.cell? ⟨g, 0, none⟩ = some (.int .u8 1) := by
    have h := cell_getD hr3 (a := 0) (by have := HLEN.out; omega)
    rw [HSG.out 0 (by omega)] at h; exact h
  have HR3 := Lib.hid hr3
  clear hr3
  have HPV := Lib.hid (parsePvd_any g D vol ext size paths little tm w3 (by have := HB3.out.size; omega) HR3.out hv hv32 htm he hsz hp hl)
  clear hv
  go_wp2_with (first
    | (go_at_call 80
       refine HPV.out.mono ?_
       rintro e w4 ⟨pv, p, rfl, h1, h2, h3, h4, h5⟩
       have H1 := Lib.hid h1
       have H2 := Lib.hid h2
       have H5 := Lib.hid h5
       clear h1 h2 h5))
  go_ret2
  have hs3 := HB3.out.size
  exact ⟨pv, p, rfl, H1.out, H2.out, by omega, by omega, HB3.out.trans (H5.out.mono hs3)⟩
set_option maxHeartbeats 4000000 in
set_option maxRecDepth 100000 in
theorem vdTerm_any (g : Nat) (D : Bs) (w : World) (hg : g < w.heap.size) (hD : w.rangeAt g 0 (bcs D)) (hlen : D.length = 2048) (hsig : seg D 0 7 = [255, 67, 68, 48, 48, 49, 1]) :
    Calls Tryz.prog 63 #[.slice (some ⟨g, 0, none⟩) 2048 2048] w fun e w' => ∃ q, e = .returned (.tuple #[.iface 202 (.pointer (some ⟨q, 0, none⟩)), .nilIface]) ∧ Below w.heap.size w w' := by
  obtain ⟨w1, hrun, hblk, hb1, hs1⟩ := run_make_8 w
  have hD1 : ∀ w', Below w.heap.size w w' → w'.rangeAt g 0 (bcs D) := fun w' hb j v hv => (hb.cell (p := ⟨g, 0 + j, none⟩) hg).trans (hD j v hv)
  have hsg : ∀ k, k < 7 → D.getD k 0 = ([255, 67, 68, 48, 48, 49, 1] : Bs).getD k 0 := fun k hk => by have h := seg_getD hsig k hk; rwa [Nat.zero_add] at h
  have hs5 : seg D 1 5 = [67, 68, 48, 48, 49] := by
    have h := seg_seg D 0 7 1 5 (by omega)
    rw [hsig] at h
    rw [← show 0 + 1 = 1 from rfl, ← h]; rfl
  have HD1 := Lib.hid hD1
  have HSG := Lib.hid hsg
  have HLEN := Lib.hid hlen
  have HBLK := Lib.hid hblk
  have HB1 := Lib.hid hb1
  have HS1 := Lib.hid hs1
  have HS5 := Lib.hid hs5
  clear hD1 hsg hblk hb1 hs1 hs5 hD hlen hsig
  go_enter Tryz.func63, Tryz.ntmps63
  go_wp2_with (fail)
  clear hrun
  go_region_law (first
    | (refine step_copy_bytes rfl (.tmp 16) (.tmp 18) 26 26 rfl Tryz.underlying26 rfl _ _ _ _ _ _ rfl rfl w.heap.size 3 _ [67, 68, 48, 48, 49] HBLK.out.drew rfl (src_range (range_seg (HD1.out _ HB1.out.drew) HS5.out rfl)) rfl (by simp) w.heap.size w HB1.out.drew (Nat.le_refl _) ?_; intro w2 HG2 hB2 hO2))
  have HG2 : Blk w2 w.heap.size [0, 0, 0, 67, 68, 48, 48, 49] := HG2
  have hz2 : w2.heap.size = w.heap.size + 1 := hO2.2.trans HS1.out
  have hcl : ∀ (k : Nat) (b : UInt8), ([0, 0, 0, 67, 68, 48, 48, 49] : Bs)[k]? = some b → w2.cell? ⟨w.heap.size, k, none⟩ = some (.int .u8 (b.toNat : Int)) := fun k b hb => (Blk.cell HG2 k).trans (by rw [hb]; rfl)
  have hc79 : Calls Tryz.prog 79 #[.agg #[], .slice (some ⟨w.heap.size, 0, none⟩) 8 8] w2 fun e w' => e = .returned (.int .u64 288906817585) ∧ Below w2.heap.size w2 w' := by
    have h := Tryz.binary_BE_Uint64 w.heap.size 0 8 8 0 0 0 67 68 48 48 49 w2 (Nat.le_refl _) (hcl 0 0 rfl) (hcl 1 0 rfl) (hcl 2 0 rfl) (hcl 3 67 rfl) (hcl 4 68 rfl) (hcl 5 48 rfl) (hcl 6 48 rfl) (hcl 7 49 rfl)
    rw [beSig] at h
    exact h
  have HC79 := Lib.hid hc79
  have HB2 := Lib.hid hB2
  have HZ2 := Lib.hid hz2
  clear hc79 hcl hB2 HG2 hO2 hz2
  go_upto_region 6 with (first
    | (go_at_call 79
       refine HC79.out.mono ?_
       rintro e w3 ⟨rfl, hb3⟩
       have hbw3 : Below w.heap.size w w3 := HB2.out.trans (hb3.mono HB2.out.size)
       have HB3 := Lib.hid hbw3
       clear hb3 hbw3))
  have hr3 := HD1.out w3 HB3.out
  have d6 : w3.cell? ⟨g, 6, none⟩ = some (.int .u8 1) := by
    have h := cell_getD hr3 (a := 6) (by have := HLEN.out; omega)
    rw [HSG.out 6 (by omega)] at h; exact h
  have d0 : w3.cell? ⟨g, 0, none⟩ = some (.int .u8 255) := by
    have h := cell_getD hr3 (a := 0) (by have := HLEN.out; omega)
    rw [HSG.out 0 (by omega)] at h; exact h
  have HR3 := Lib.hid hr3
  clear hr3
  go_wp2_with (fail)
  go_ret2
  have hs3 := HB3.out.size
  exact ⟨_, rfl, HB3.out.alloc hs3 _⟩

end Go.Proofs.YtfppgplboomdbaaGreatDoor

namespace Go.Proofs.YtfppgplboomdbaaGreatDoor
open Go.RowKit

/-- The root directory's own record, at its block's beginning. -/
theorem root_rec {n P : Nat} {D vol : Bs} {nd : Nat → Nd} {ks : Nat → List Nat} {ds : List Nat} (tr : Tr D nd ks n ds P vol) : ∃ r0, RecOK r0 ∧ recN r0 = 34 ∧ seg D ((nd 0).ext.toNat * 2048) 34 = recB r0 := by
  obtain ⟨rsA, hDB, r0, r1, rs, rfl, h0, _, _⟩ := tr.dir 0 tr.tree.pos tr.tree.root
  have hok := hDB.ok r0 (by simp)
  have hN : recN r0 = 34 := by unfold recN; rw [h0.id]; rfl
  obtain ⟨hat, _⟩ := hDB.at (k := 0) (r := r0) rfl
  have hl := recB_len r0 hok
  rw [hN] at hl
  refine ⟨r0, hok, hN, ?_⟩
  have e := seg_seg D ((nd 0).ext.toNat * 2048) 2048 0 34 (by omega)
  rw [Nat.add_zero] at e
  rw [← e]
  refine seg_ext (by rw [hDB.len]; omega) hl (fun k hk => ?_)
  have h := hat k (by rw [hl]; exact hk)
  have e2 : (recsB (([r0] : List RecE).take 0)).length = 0 := rfl
  rw [show (recsB ((r0 :: r1 :: rs).take 0)).length = 0 from rfl] at h
  exact h
theorem rec_at {w : World} {g : Nat} {r : RecE} (hb : Blk w g (recB r)) (h : RecOK r) : RecAt w g 0 r := RecAt.of (blk_range hb (fun j _ => by rw [Nat.zero_add])) h
theorem root_byte {n P : Nat} {D vol : Bs} {nd : Nat → Nd} {ks : Nat → List Nat} {ds : List Nat} (tr : Tr D nd ks n ds P vol) : seg D ((nd 0).ext.toNat * 2048) 1 = [34] := by
  obtain ⟨r0, hok, hN, h⟩ := root_rec tr
  have e := seg_seg D ((nd 0).ext.toNat * 2048) 34 0 1 (by omega)
  rw [Nat.add_zero, h] at e
  rw [← e]
  unfold recN at hN
  unfold recB recC
  rw [hN]
  rfl
theorem run_make_1 (w : World) : ∃ w', (Instr.makeSlice 26 (.int .i64 1) (.int .i64 1)).run Tryz.prog w = .ok (.slice (some ⟨w.heap.size, 0, none⟩) 1 1) w' ∧ Blk w' w.heap.size (List.replicate 1 0) ∧ Below w.heap.size w w' ∧ w'.heap.size = w.heap.size + 1 := run_make_blk w 1 (by omega)
theorem run_make_u8 (w : World) : ∃ w', (Instr.makeSlice 26 (.int .u8 34) (.int .u8 34)).run Tryz.prog w = .ok (.slice (some ⟨w.heap.size, 0, none⟩) 34 34) w' ∧ Blk w' w.heap.size (List.replicate 34 0) ∧ Below w.heap.size w w' ∧ w'.heap.size = w.heap.size + 1 := by
  obtain ⟨i, hi, h3, h4, h5⟩ := info_parts Tryz.info5
  have hb' : (i.bytes : Int) * (34 : Int) ≤ 281474976710656 := by rw [h5]; omega
  have hrun := run_make (P := Tryz.prog) w 26 5 i (.int .u8 0) Tryz.underlying26 hi h3 .u8 .u8 34 34 (by omega) (by omega) hb' (by omega)
  obtain ⟨w', a, b, c, d⟩ := run_make_blk w 34 (by omega)
  have hrun2 := run_make (P := Tryz.prog) w 26 5 i (.int .u8 0) Tryz.underlying26 hi h3 .i64 .i64 34 34 (by omega) (by omega) hb' (by omega)
  have a2 : (Instr.makeSlice 26 (.int .i64 34) (.int .i64 34)).run Tryz.prog w = .ok (.slice (some ⟨w.heap.size, 0, none⟩) 34 34) w' := a
  rw [hrun2] at a2
  rw [← hrun] at a2
  exact ⟨w', a2, b, c, d⟩
def DtPost (w : World) (e : Ending) (w' : World) : Prop := e = .returned (.tuple #[.bool false, .int .u8 0, .slice none 0 0, .nilIface]) ∧ Below w.heap.size w w'
set_option maxHeartbeats 8000000 in
set_option maxRecDepth 100000 in
theorem detect_any {n P : Nat} {D vol : Bs} {nd : Nat → Nd} {ks : Nat → List Nat} {ds : List Nat} (tr : Tr D nd ks n ds P vol) (p mb : Nat) (fs : Value) (rr : RecE) (w : World) (hm : Mem w w.heap.size mb D) (hE : EntAt w p rr fs) (hrx : rr.ext = (nd 0).ext) :
    Calls Tryz.prog 67 #[.pointer (some ⟨p, 0, none⟩), .iface 102 (.pointer (some ⟨mb, 0, none⟩)), .int .i64 2048] w fun e w' => DtPost w e w' := by
  obtain ⟨r0, hok, hN, hseg⟩ := root_rec tr
  have hone := root_byte tr
  have hext := tr.ext 0 tr.tree.pos
  have hfit := tr.fit 0 tr.tree.pos
  have hsz : sizeOfN nd 0 = 2048 := by unfold sizeOfN; rw [if_pos tr.tree.root]
  have hDl := tr.len.2
  rw [hsz] at hfit
  obtain ⟨x, hxe⟩ : ∃ x : Nat, (nd 0).ext = x := ⟨(nd 0).ext.toNat, by omega⟩
  have hxt : ((x : Int)).toNat = x := by omega
  have hx2 : ((2048 : Int)).toNat = 2048 := rfl
  rw [hxe, hxt] at hseg hone
  rw [hxe, hxt, hx2] at hfit
  rw [hxe] at hext hrx
  have hq1 := hE.full.1
  rw [hrx] at hq1
  have HM := Lib.hid hm
  have HSEG := Lib.hid hseg
  have HONE := Lib.hid hone
  have HOK := Lib.hid hok
  have HN := Lib.hid hN
  clear hm hseg hone hok hN hE hrx hsz hxt hx2 hxe
  obtain ⟨w1, hmk1, hblk1, hb1, hs1⟩ := run_make_1 w
  have HBLK1 := Lib.hid hblk1
  have HB1 := Lib.hid hb1
  have HS1 := Lib.hid hs1
  clear hblk1 hb1 hs1
  have hw1 : IntKind.i64.wrap (x : Int) = (x : Int) := IntWalk.i64_in _ (by omega)
  have hw2 : IntKind.i64.wrap ((x : Int) * 2048) = (x : Int) * 2048 := IntWalk.i64_in _ (by omega)
  have hmeth := method_readAt mb
  have hna := nilAhead_readAt mb
  go_enter Tryz.func67, Tryz.ntmps67
  go_upto_region 4 with (first
    | (go_at_call 173
       refine (ReadAt_at w.heap.size mb w.heap.size 0 1 1 (x * 2048) ((x : Int) * 2048) (by omega) D (List.replicate 1 0) w1 (HM.out.keep HB1.out) HBLK1.out (Nat.le_refl _) (by omega) (by simp) (by omega) (by omega)).mono ?_
       rintro e w2 ⟨rfl, hblk2, hchg⟩
       rw [splice_all _ _ (by rw [HONE.out]; rfl), HONE.out] at hblk2
       have HBLK2 := Lib.hid hblk2
       have HB2 := Lib.hid (hchg.below HB1.out (Nat.le_refl _))
       clear hblk2 hchg))
  clear hmk1 hw1 hw2
  have h34 : w2.cell? ⟨w.heap.size, 0, none⟩ = some (.int .u8 34) := by rw [HBLK2.out.cell]; rfl
  obtain ⟨w3, hmk3, hblk3, hb3, hs3⟩ := run_make_u8 w2
  have HBLK3 := Lib.hid hblk3
  have HB3 := Lib.hid (HB2.out.trans (hb3.mono HB2.out.size))
  have HB23 := Lib.hid hb3
  have HS3 := Lib.hid hs3
  clear hblk3 hb3 hs3
  go_upto_region 12 with (first
    | (go_at_call 173
       refine (ReadAt_at w.heap.size mb w2.heap.size 0 34 34 (x * 2048) ((x : Int) * 2048) (by omega) D (List.replicate 34 0) w3 (HM.out.keep HB3.out) HBLK3.out HB2.out.size (by omega) (by simp) (by omega) (by omega)).mono ?_
       rintro e w4 ⟨rfl, hblk4, hchg⟩
       rw [splice_all _ _ (by rw [HSEG.out, recB_len _ HOK.out, HN.out]; rfl), HSEG.out] at hblk4
       have HREC := Lib.hid (rec_at hblk4 HOK.out)
       have HB4 := Lib.hid (hchg.below HB3.out HB2.out.size)
       clear hblk4 hchg))
  clear hmk3 h34 hmeth hna
  go_upto_region 17 with (first
    | (go_at_call 87
       refine (parseDirEntry_any w2.heap.size 0 34 34 w4.heap.size true r0 _ HOK.out (HREC.out.below ((Below.refl _ _).alloc (Nat.le_refl _) _)).1 HN.out.symm (by omega) (cell_of_row _ _ 11 _ _ _ (heap_alloc_new w4 _)) (cell_of_row _ _ 13 _ _ _ (heap_alloc_new w4 _))).mono ?_
       rintro e w5 ⟨p2, rfl, hlo, hent, hb5⟩
       obtain ⟨_, _, ⟨ge, hge⟩, hp2⟩ := hent.cells
       have HB5 := Lib.hid (((Below.refl w4.heap.size w4).alloc (Nat.le_refl _) _).trans (hb5.mono (by simp)))
       clear hent hb5 hlo))
  go_wp2_with (fail)
  go_loopw [14, 15, 16, 88] (fun a b c iv wr => a = .bool false ∧ b = .int .u8 0 ∧ c = .slice none 0 0 ∧ iv = .int .i64 0 ∧ wr = w5) (fun _ _ _ _ _ => 0)
  case atStart => exact ⟨rfl, rfl, rfl, rfl, rfl⟩
  case round =>
    obtain ⟨rfl, rfl, rfl, rfl, rfl⟩ := hrel
    go_wp2_with (fail)
    refine bodyPost_ret (v := .tuple #[.bool false, .int .u8 0, .slice none 0 0, .nilIface]) (by simp [results, Tryz.results67, go_sem]) rfl ?_
    exact ⟨rfl, HB4.out.trans (HB5.out.mono HB4.out.size)⟩

end Go.Proofs.YtfppgplboomdbaaGreatDoor
