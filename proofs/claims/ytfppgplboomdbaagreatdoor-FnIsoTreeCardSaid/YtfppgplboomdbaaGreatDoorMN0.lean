/- Part of the proofs of laws.FnIsoTree and laws.FnIsoAt: lemmas and contracts of functions that the two laws reach, each under the hypotheses that its own statement names. -/
import Derived.Test.YtfppgplboomdbaaGreatDoorMPart16
namespace Go.Proofs.YtfppgplboomdbaaGreatDoor
open Go.RowKit

theorem assert108 (fb : Nat) (w : World) : (Instr.typeAssert (.iface 108 (.pointer (some ⟨fb, 0, none⟩))) 105 108 true).run Tryz.prog w = .ok (.tuple #[.pointer (some ⟨fb, 0, none⟩), .bool true]) w := by kernel_rfl
theorem Tryz.c190 : (Tryz.prog.info? 190).map (·.comparable) = some true := by kernel_rfl
theorem Tryz.c192 : ((Tryz.prog.info? 192).map fun _ => true) = some true := by kernel_rfl
theorem eql_eof (ea : Addr) (w : World) : (binOp .eql 99 (eofV ea) (eofV ea)).run Tryz.prog w = .ok (.bool true) w := by
  have h1 := Tryz.c190
  have h2 := Tryz.c192
  cases h3 : Tryz.prog.info? 190 with
  | none => rw [h3] at h1; cases h1
  | some i =>
    rw [h3] at h1
    cases h4 : Tryz.prog.info? 192 with
    | none => rw [h4] at h2; cases h2
    | some j => exact run_eql_iface_ptr_same w ea Tryz.underlying99 Tryz.underlying190 h3 (by simpa using h1) h4
theorem guard_eof (x y : Operand) (ea : Addr) (w : World) : (eqGuard .eql 99 x y (eofV ea) (eofV ea)).run Tryz.prog w = .ok () w := rfl
theorem guard_nil (x y : Operand) (ea : Addr) (w : World) : (eqGuard .eql 99 x y .nilIface (eofV ea)).run Tryz.prog w = .ok () w := rfl
theorem seg_data {D data : Bs} {a z o m k : Nat} (hd : seg D a z = data) (hl : data.length = z) (hk : k = min (z - o) m) : seg D (a + o) k = (data.drop o).take m := by
  have h1 : (data.drop o).take k = (data.drop o).take m := by
    rcases Nat.le_total (z - o) m with h | h
    · rw [hk, Nat.min_eq_left h, List.take_of_length_le (by rw [List.length_drop]; omega), List.take_of_length_le (by rw [List.length_drop]; omega)]
    · rw [hk, Nat.min_eq_right h]
  rw [← h1]
  rcases Nat.eq_zero_or_pos k with h0 | h0
  · rw [h0]; simp [seg]
  · rw [← hd, ← seg_seg D a z o k (by omega)]; rfl
theorem nil_eof (ea : Addr) (w : World) : (binOp .eql 99 .nilIface (eofV ea)).run Tryz.prog w = .ok (.bool false) w := run_eql_iface_nil_left w 190 _ Tryz.underlying99
def dataN (nd : Nat → Nd) (y : Nat) : Bs := (nd y).f.data.data.toList
def RdFPost (nd : Nat → Nd) (y o m : Nat) (w : World) (e : Ending) (w' : World) : Prop := e = .returned (.tuple #[.string ⟨(((dataN nd y).drop o).take m).toArray⟩, .bool true]) ∧ Below w.heap.size w w'
set_option maxHeartbeats 8000000 in
set_option maxRecDepth 100000 in
theorem fileRead_any {B fp mb pt rd n P : Nat} {D vol : Bs} {nd : Nat → Nd} {ks : Nat → List Nat} {ds : List Nat} (tr : Tr D nd ks n ds P vol) (y o m xv : Nat) (nn : Int) (s : ByteArray) (rr : RecE) (ea : Addr) (w : World) (hF : FsAt w B fp mb pt rd D (esOf nd ds)) (hE : EntAt w rd rr (.pointer (some ⟨fp, 0, none⟩))) (hrx : rr.ext = (nd 0).ext) (hrs : rr.size = 2048) (hrd : rd < B) (hEof : EofAt w ea) (hxv : w.cell? ⟨xv, 0, none⟩ = some (.pointer (some ⟨fp, 0, none⟩)))
    (hy1 : 1 ≤ y) (hy : y < n) (hp : s.data.toList = joinP (pth nd y)) (hfile : (nd y).f.dir = false) (ho : o ≤ 100000) (hm : (nn = -1 ∧ m = (dataN nd y).length - o) ∨ nn = m) (hm2 : m ≤ 16777216) :
    Calls Tryz.prog 53 #[.string s, .int .i64 (o : Int), .int .i64 nn, .pointer (some ⟨xv, 0, none⟩)] w fun e w' => RdFPost nd y o m w e w' := by
  have hta := assert108
  have hdl : (dataN nd y).length = (nd y).f.data.size := rfl
  have hzs := tr.small y hy
  obtain ⟨z, hz⟩ : ∃ z, (nd y).f.data.size = z := ⟨_, rfl⟩
  have hext := tr.ext y hy
  obtain ⟨x, hx⟩ : ∃ x : Nat, (nd y).ext = x := ⟨(nd y).ext.toNat, by omega⟩
  have hxt : ((x : Int)).toNat = x := by omega
  have hseg := tr.file y hy hfile
  have hfit := tr.fit y hy
  have hsz : sizeOfN nd y = z := by unfold sizeOfN; rw [if_neg (by rw [hfile]; simp), hz]
  rw [hx, hxt, hz] at hseg
  rw [hx, hxt, hsz] at hfit
  have hzt : ((z : Int)).toNat = z := by omega
  rw [hzt] at hfit
  rw [hz] at hzs hdl
  rw [hx] at hext
  have hD3 := tr.len.2
  have hsize := tr.size y hy
  rw [hsz] at hsize
  rw [hdl] at hm
  have HSEG := Lib.hid hseg
  have HDL := Lib.hid hdl
  have HF := Lib.hid hF
  have HE := Lib.hid hE
  have HEOF := Lib.hid hEof
  have HOP := Lib.hid (open_any tr y s rr w hF hE hrx hrs hrd hy1 hy hp hfile)
  have hFhi := hF.hi
  have h6 := hF.b6
  clear hF hE hEof hp hseg hdl hz
  go_enter Tryz.func53, Tryz.ntmps53
  go_upto_region 7 with (first
    | (go_at_call 54
       refine HOP.out.mono ?_
       rintro e w1 ⟨fb, p, r, rfl, hfb, hrow, hEp, hpfb, hri, hb1⟩
       have hR1 : FileRow w1 fb p 0 false := hrow
       have HR1 := Lib.hid hR1
       have c0 := hR1.cells.1
       have hre : r.ext = x := by rw [hri.ext, hx]
       have hrz : r.size = z := by rw [hri.size, hsize]
       have HEP := Lib.hid hEp
       have HB1 := Lib.hid hb1
       have hs1 := hb1.size
       have hfl1 := hR1.cells.2.2.2.2.2
       clear hrow hEp hri hb1 hR1))
  have hFr := HF.out.below HB1.out
  have hw1 : IntKind.i64.wrap ((z : Int) - (o : Int)) = (z : Int) - (o : Int) := IntWalk.i64_in _ (by omega)
  have HF1 := Lib.hid hFr
  clear hFr
  rcases hm with ⟨rfl, hm⟩ | rfl
  · have hmx : max (0 : Int) ((z : Int) - (o : Int)) = (m : Int) := by omega
    have hmn : min (m : Int) 16777216 = (m : Int) := by omega
    have HM := Lib.hid hm
    clear hm
    go_upto_region 9 with (first
      | (go_at_call 55
         refine (size_any p fp r z w1 HEP.out hrz (by omega)).mono ?_
         rintro e w2 ⟨rfl, hw⟩
         rw [hw]
         clear hw))
    go_upto_region 12 with (first
      | (go_at_call 56
         refine (seek_any fb p 0 o w1 HR1.out (by omega)).mono ?_
         rintro e w2 ⟨rfl, hw2⟩
         have hR2 : FileRow w2 fb p (o : Int) false := by rw [hw2]; exact HR1.out.set3 _
         have hb12 : ∀ B, B ≤ fb → Below B w1 w2 := fun B hB => by rw [hw2]; exact (Below.refl _ _).setCell hB _
         have hs2 : w2.heap.size = w1.heap.size := by rw [hw2]; simp only [World.setCell]; rw [Array.size_modify]
         have HS2 := Lib.hid hs2
         have HR2 := Lib.hid hR2
         have HB12 := Lib.hid hb12
         clear hw2 hR2 hb12 hs2))
    have hs12 : w1.heap.size ≤ w2.heap.size := by rw [HS2.out]; exact Nat.le_refl _
    obtain ⟨w3, hmk, hblk, hb3, hsz3⟩ := run_make_blk w2 m (by omega)
    have HS3 := Lib.hid hsz3
    have hs23 : w2.heap.size < w3.heap.size := by omega
    clear hsz3
    have HBLK := Lib.hid hblk
    have HB3 := Lib.hid hb3
    clear hblk hb3 c0 hw1
    have hE3 : EntAt w3 p r (.pointer (some ⟨fp, 0, none⟩)) := (HEP.out.keepB (HB12.out fb (Nat.le_refl _)) hpfb).below HB3.out
    have hR3 : FileRow w3 fb p (o : Int) false := (HB3.out.block fb (by omega)).trans HR2.out
    have hF3 := HF1.out.keep ((HB12.out B (by omega)).trans (HB3.out.mono (by omega)))
    have heof3 : EofAt w3 ea := EofAt.keep (B := B) HEOF.out ((HB1.out.mono hFhi).trans ((HB12.out B (by omega)).trans (HB3.out.mono (by omega)))) (by omega)
    have HE3 := Lib.hid hE3
    have HR3 := Lib.hid hR3
    have HF3 := Lib.hid hF3
    have HEOF3 := Lib.hid heof3
    clear hE3 hR3 hF3 heof3
    go_upto_block 0 with (fail)
    have hb03 : Below w.heap.size w w3 := (HB1.out.trans (HB12.out w.heap.size hfb)).trans (HB3.out.mono (by omega))
    have HB03 := Lib.hid hb03
    clear hb03 hmk
    go_cut [16, 17, 18] from 55 to 81 (fun t16 t17 t18 wx => ∃ k q : Nat, t16 = .int .i64 (k : Int) ∧ k = min (z - o) m ∧ wx.rangeAt w2.heap.size 0 (bcs (seg D (x * 2048 + o) k)) ∧ FileRow wx fb p (q : Int) false ∧ w2.heap.size < wx.heap.size ∧ Below w.heap.size w wx)
    case first =>
      go_wp2
      go_loopw [16] (fun gv wr => (gv = .int .i64 0 ∧ wr = w3) ∨ (gv = .int .i64 (m : Int) ∧ m = min (z - o) m ∧ wr.rangeAt w2.heap.size 0 (bcs (seg D (x * 2048 + o) m)) ∧ (∃ q : Nat, FileRow wr fb p (q : Int) false) ∧ w2.heap.size < wr.heap.size ∧ Below w.heap.size w wr)) (fun gv _ => m - (intOf gv).toNat)
      case atStart => exact .inl ⟨rfl, rfl⟩
      case round =>
        rcases hrel with ⟨rfl, rfl⟩ | ⟨rfl, hmm, hrg, ⟨q, hrw⟩, hgl, hbl⟩
        · by_cases hm0 : ¬ 0 < m
          · have hmz0 : ¬ (0 : Int) < (m : Int) := by omega
            go_wp2
            go_meet
            exact ⟨0, o, rfl, by omega, fun j v hv => by simp [seg, bcs] at hv, HR3.out, by omega, HB03.out⟩
          · have hm0 : 0 < m := by omega
            have hmp : (0 : Int) < (m : Int) := by omega
            have hm00 : (0 : Int) ≤ (m : Int) := by omega
            have hmle : (m : Int) ≤ (m : Int) := Int.le_refl _
            have hF := fread_any x z o m w2.heap.size fb p (List.replicate m 0) ea r wr HF3.out HE3.out HR3.out HBLK.out HEOF3.out hre hrz (by simp) (by omega) (by omega) (by omega) (by omega) (by omega) (by omega) (by omega) (by omega) (by omega) (by omega) (by omega) (by omega)
            have HFR := Lib.hid hF
            clear hF
            by_cases hzo : z ≤ o
            · have h1 : Calls Tryz.prog 57 #[.pointer (some ⟨fb, 0, none⟩), .slice (some ⟨w2.heap.size, 0, none⟩) m m] wr fun e w' => e = .returned (.tuple #[.int .i64 0, eofV ea]) ∧ Below wr.heap.size wr w' := HFR.out.mono (fun e w' h => by
                rcases h with ⟨_, h1, h2⟩ | ⟨h1, _⟩
                · exact ⟨h1, h2⟩
                · omega)
              have H1 := Lib.hid h1
              have hee := eql_eof ea
              have hge := guard_eof (.tmp 69) (.tmp 70) ea
              clear h1
              have heo : wr.cell? ⟨0, 0, none⟩ = some (eofV ea) := HEOF3.out
              have h00 : 0 < wr.heap.size := by omega
              go_wp2_with (first
                | (go_at_call 57
                   refine H1.out.mono ?_
                   rintro e w4 ⟨rfl, hb4⟩
                   have heo4 : w4.cell? ⟨0, 0, none⟩ = some (eofV ea) := (hb4.cell (p := ⟨0, 0, none⟩) h00).trans heo
                   have HB4 := Lib.hid hb4
                   have hs4 := hb4.size
                   clear hb4))
              go_meet
              have hR4 : FileRow w4 fb p (o : Int) false := (HB4.out.block fb (by omega)).trans HR3.out
              exact ⟨0, o, rfl, by omega, fun j v hv => by simp [seg, bcs] at hv, hR4, by omega, HB03.out.trans (HB4.out.mono HB03.out.size)⟩
            · have hk0 : min (z - o) m ≤ m := by omega
              obtain ⟨k, hk⟩ : ∃ k, min (z - o) m = k := ⟨_, rfl⟩
              have hsl : (seg D (x * 2048 + o) k).length = k := seg_len _ _ _ (by omega)
              have hkle : k ≤ m := by omega
              by_cases hzk : z ≤ o + k
              · have h1 : Calls Tryz.prog 57 #[.pointer (some ⟨fb, 0, none⟩), .slice (some ⟨w2.heap.size, 0, none⟩) m m] wr fun e w' => e = .returned (.tuple #[.int .i64 (k : Int), eofV ea]) ∧ Blk w' w2.heap.size (splice (List.replicate m 0) 0 (seg D (x * 2048 + o) k)) ∧ FileRow w' fb p ((o : Int) + k) false ∧ ∀ B', B' ≤ w2.heap.size → B' ≤ fb → B' ≤ wr.heap.size → Below B' wr w' := HFR.out.mono (fun e w' h => by
                  rcases h with ⟨h1, _⟩ | ⟨_, k', hk', h2, h3, h4, h5⟩
                  · omega
                  · obtain rfl : k' = k := by omega
                    rw [if_pos hzk] at h2
                    exact ⟨h2, h3, h4, h5⟩)
                have H1 := Lib.hid h1
                have hee := eql_eof ea
                have hge := guard_eof (.tmp 69) (.tmp 70) ea
                have heo : wr.cell? ⟨0, 0, none⟩ = some (eofV ea) := HEOF3.out
                have HK := Lib.hid hk
                have HSL := Lib.hid hsl
                clear h1 hk hsl
                go_wp2_with (first
                  | (go_at_call 57
                     refine H1.out.mono ?_
                     rintro e w4 ⟨rfl, hK4, hR4, hb4⟩
                     have heo4 : w4.cell? ⟨0, 0, none⟩ = some (eofV ea) := ((hb4 B (by omega) (by omega) (by omega)).cell (p := ⟨0, 0, none⟩) (by show 0 < B; omega)).trans heo
                     have HK4 := Lib.hid hK4
                     have HR4 := Lib.hid hR4
                     have HB4 := Lib.hid hb4
                     have hs4 := (hb4 0 (by omega) (by omega) (by omega)).size
                     clear hK4 hR4 hb4))
                go_meet
                have hrg4 : w4.rangeAt w2.heap.size 0 (bcs (seg D (x * 2048 + o) k)) := blk_range (o := 0) HK4.out (fun j hj => splice_get_in _ _ _ _ (by rw [HSL.out]; simp; omega) hj)
                have hR4 : FileRow w4 fb p ((o + k : Nat) : Int) false := by have h := HR4.out; rw [← Int.natCast_add] at h; exact h
                exact ⟨k, o + k, by first | rfl | go_num, HK.out.symm, hrg4, hR4, by omega, HB03.out.trans (HB4.out w.heap.size (by omega) hfb (by omega))⟩
              · have hkm : k = m := by omega
                have h1 : Calls Tryz.prog 57 #[.pointer (some ⟨fb, 0, none⟩), .slice (some ⟨w2.heap.size, 0, none⟩) m m] wr fun e w' => e = .returned (.tuple #[.int .i64 (m : Int), .nilIface]) ∧ Blk w' w2.heap.size (splice (List.replicate m 0) 0 (seg D (x * 2048 + o) m)) ∧ FileRow w' fb p ((o : Int) + m) false ∧ ∀ B', B' ≤ w2.heap.size → B' ≤ fb → B' ≤ wr.heap.size → Below B' wr w' := HFR.out.mono (fun e w' h => by
                  rcases h with ⟨h1, _⟩ | ⟨_, k', hk', h2, h3, h4, h5⟩
                  · omega
                  · obtain rfl : k' = m := by omega
                    rw [if_neg (by omega)] at h2
                    exact ⟨h2, h3, h4, h5⟩)
                have H1 := Lib.hid h1
                have hee := nil_eof ea
                have hge := guard_nil (.tmp 69) (.tmp 70) ea
                have heo : wr.cell? ⟨0, 0, none⟩ = some (eofV ea) := HEOF3.out
                have hmm : m = min (z - o) m := by omega
                have hsl2 : (seg D (x * 2048 + o) m).length = m := by rw [← hkm]; exact hsl
                have HMM := Lib.hid hmm
                have HSL := Lib.hid hsl2
                have hmne : ¬ m = 0 := by omega
                have hmne2 : ((m : Int) == 0) = false := by simp; omega
                clear h1 hk hsl hkm hmm hsl2 hk0
                go_wp2_with (first
                  | (go_at_call 57
                     refine H1.out.mono ?_
                     rintro e w4 ⟨rfl, hK4, hR4, hb4⟩
                     have heo4 : w4.cell? ⟨0, 0, none⟩ = some (eofV ea) := ((hb4 B (by omega) (by omega) (by omega)).cell (p := ⟨0, 0, none⟩) (by show 0 < B; omega)).trans heo
                     have HK4 := Lib.hid hK4
                     have HR4 := Lib.hid hR4
                     have HB4 := Lib.hid hb4
                     have hs4 := (hb4 0 (by omega) (by omega) (by omega)).size
                     clear hK4 hR4 hb4))
                have hrg4 : w4.rangeAt w2.heap.size 0 (bcs (seg D (x * 2048 + o) m)) := blk_range (o := 0) HK4.out (fun j hj => splice_get_in _ _ _ _ (by rw [HSL.out]; simp) hj)
                have hR4 : FileRow w4 fb p ((o + m : Nat) : Int) false := by have h := HR4.out; rw [← Int.natCast_add] at h; exact h
                exact ⟨.inr ⟨rfl, HMM.out, hrg4, ⟨o + m, hR4⟩, by omega, HB03.out.trans (HB4.out w.heap.size (by omega) hfb (by omega))⟩, by simp [intOf]; omega⟩
        · have hmz0 : ¬ (m : Int) < (m : Int) := by omega
          have HRG := Lib.hid hrg
          have HRW := Lib.hid hrw
          have HMM := Lib.hid hmm
          clear hrg hrw hmm
          go_wp2
          go_meet
          exact ⟨m, q, rfl, HMM.out, HRG.out, HRW.out, hgl, hbl⟩
    obtain ⟨k, q, rfl, hk, hrg, hrw, hgl, hbl⟩ := hcut
    obtain ⟨w5, rfl⟩ : ∃ w5 : World, w5 = wc := ⟨_, rfl⟩
    have hkm : k ≤ m := by omega
    have hsl : (seg D (x * 2048 + o) k).length = k := by
      rcases Nat.eq_zero_or_pos k with h0 | h0
      · rw [h0]; simp [seg]
      · exact seg_len _ _ _ (by omega)
    have hdat : seg D (x * 2048 + o) k = ((dataN nd y).drop o).take m := seg_data HSEG.out HDL.out hk
    obtain ⟨SG, hSG⟩ : ∃ SG, seg D (x * 2048 + o) k = SG := ⟨_, rfl⟩
    rw [hSG] at hdat hrg hsl
    have hcvS : ∀ w', w'.rangeAt w2.heap.size 0 (bcs SG) → (convert 26 9 (.slice (some ⟨w2.heap.size, 0, none⟩) k m)).run Tryz.prog w' = .ok (.string ⟨SG.toArray⟩) w' := fun w' h => bytes_str h hsl m
    have HCV := Lib.hid hcvS
    have HDAT := Lib.hid hdat
    have HRW := Lib.hid hrw
    have HBL := Lib.hid hbl
    have hk00 : (0 : Int) ≤ (k : Int) := by omega
    have hkmz : (k : Int) ≤ (m : Int) := by omega
    have hfb5 := hrw.cells.2.2.2.2.2
    have hS2' : ∀ w', (∃ v, w' = w5.drew.setCell ⟨fb, 4, none⟩ v) → w'.rangeAt w2.heap.size 0 (bcs SG) := fun w' ⟨v, h⟩ j u hu => by
      rw [h, World.cell?_of_block (w := w5.drew) (Below.heap_setCell _ _ _ _ (by show w2.heap.size ≠ fb; omega))]
      exact hrg j u hu
    have HS2 := Lib.hid hS2'
    have HRG := Lib.hid hrg
    have hcl := close_any fb p (q : Int) w5.drew hrw
    have HCL := Lib.hid hcl
    clear hrg hdat hsl hrw hbl hcvS hS2' hSG hcl hk
    go_upto_region 20 with (fail)
    refine wp_region_noPanic ?_
    refine wp_region_held_drew (S := fun w' => w'.rangeAt w2.heap.size 0 (bcs SG)) (by kernel_rfl) HRG.out (fun hS0 => ?_)
    refine hTake (i := 0) (v := ?_) (some 82) rfl rfl (by kernel_rfl) (by kernel_rfl) (by kernel_rfl) (fun _ _ _ h => h) (Or.inl ⟨by rfl, ?hyA20x0⟩) hS0 ?hrA20x0
    case hyA20x0 => (intro w' hSw; clear hSw; go_simp; try with_reducible rfl)
    try simp only [Act.put, List.setIfInBounds_toArray, List.set_cons_zero, List.set_cons_succ]
    refine hTake (i := 1) (v := ?_) (some 83) rfl rfl (by kernel_rfl) (by kernel_rfl) (by kernel_rfl) (fun _ _ _ h => h) (Or.inl ⟨by rfl, ?hyA20x1⟩) hS0 ?hrA20x1
    case hyA20x1 => (intro w' hSw; clear hSw; go_simp; try with_reducible rfl)
    try simp only [Act.put, List.setIfInBounds_toArray, List.set_cons_zero, List.set_cons_succ]
    refine hTake (i := 2) (v := ?_) (some 84) rfl rfl (by kernel_rfl) (by kernel_rfl) (by kernel_rfl) (fun _ _ _ h => h) (Or.inl ⟨by rfl, ?hyA20x2⟩) hS0 ?hrA20x2
    case hyA20x2 => (intro w' hSw; clear hSw; go_simp; try with_reducible rfl)
    try simp only [Act.put, List.setIfInBounds_toArray, List.set_cons_zero, List.set_cons_succ]
    refine hTake (i := 3) (v := ?_) (some 85) rfl rfl (by kernel_rfl) (by kernel_rfl) (by kernel_rfl) (fun _ _ _ h => h) (Or.inl ⟨by rfl, ?hyA20x3⟩) hS0 ?hrA20x3
    case hyA20x3 => (intro w' hSw; have hq := HCV.out _ hSw; clear hSw; go_simp; try with_reducible rfl)
    try simp only [Act.put, List.setIfInBounds_toArray, List.set_cons_zero, List.set_cons_succ]
    refine hTake (i := 4) (v := ?_) (some 86) rfl rfl (by kernel_rfl) (by kernel_rfl) (by kernel_rfl) (fun _ _ _ h => h) (Or.inl ⟨by rfl, ?hyA20x4⟩) hS0 ?hrA20x4
    case hyA20x4 => (intro w' hSw; clear hSw; go_simp; try with_reducible rfl)
    try simp only [Act.put, List.setIfInBounds_toArray, List.set_cons_zero, List.set_cons_succ]
    refine wpAnyH_all (rs := [5]) (by kernel_rfl) (by simp) (rows1 ?_)
    refine hCall (f := 58) (args := #[.pointer (some ⟨fb, 0, none⟩)]) (some 87) rfl rfl rfl (by go_simp) ?_
    refine HCL.out.mono ?_
    rintro e w6 ⟨rfl, hw6⟩
    have hS2 : w6.rangeAt w2.heap.size 0 (bcs SG) := HS2.out w6 ⟨_, hw6⟩
    refine ⟨_, rfl, hS2, ?_⟩
    refine hTake (i := 6) (v := ?_) (some 88) rfl rfl (by kernel_rfl) (by kernel_rfl) (by kernel_rfl) (fun _ _ _ h => h) (Or.inl ⟨by rfl, ?hyA20x6⟩) hS2 ?hrA20x6
    case hyA20x6 => (intro w' hSw; clear hSw; go_simp; try with_reducible rfl)
    try simp only [Act.put, List.setIfInBounds_toArray, List.set_cons_zero, List.set_cons_succ]
    refine hTake (i := 7) (v := ?_) (some 7) rfl rfl (by kernel_rfl) (by kernel_rfl) (by kernel_rfl) (fun _ _ _ h => h) (Or.inl ⟨by rfl, ?hyA20x7⟩) hS2 ?hrA20x7
    case hyA20x7 => (intro w' hSw; clear hSw; go_simp; try with_reducible rfl)
    try simp only [Act.put, List.setIfInBounds_toArray, List.set_cons_zero, List.set_cons_succ]
    refine hTake (i := 8) (v := ?_) (some 8) rfl rfl (by kernel_rfl) (by kernel_rfl) (by kernel_rfl) (fun _ _ _ h => h) (Or.inl ⟨by rfl, ?hyA20x8⟩) hS2 ?hrA20x8
    case hyA20x8 => (intro w' hSw; clear hSw; go_simp; try with_reducible rfl)
    try simp only [Act.put, List.setIfInBounds_toArray, List.set_cons_zero, List.set_cons_succ]
    refine wpAnyH_done (by kernel_rfl) ?_ _
    refine NoPanic.normal ?_
    go_wp2_with fail
    go_ret2
    refine ⟨?_, ?_⟩
    · rw [← HDAT.out]; rfl
    · rw [hw6]; exact (HBL.out.drew).setCell (by exact hfb) _
  · have hmz : ¬ (m : Int) < 0 := by omega
    go_upto_region 9 with (fail)
    go_upto_region 12 with (first
      | (go_at_call 56
         refine (seek_any fb p 0 o w1 HR1.out (by omega)).mono ?_
         rintro e w2 ⟨rfl, hw2⟩
         have hR2 : FileRow w2 fb p (o : Int) false := by rw [hw2]; exact HR1.out.set3 _
         have hb12 : ∀ B, B ≤ fb → Below B w1 w2 := fun B hB => by rw [hw2]; exact (Below.refl _ _).setCell hB _
         have hs2 : w2.heap.size = w1.heap.size := by rw [hw2]; simp only [World.setCell]; rw [Array.size_modify]
         have HS2 := Lib.hid hs2
         have HR2 := Lib.hid hR2
         have HB12 := Lib.hid hb12
         clear hw2 hR2 hb12 hs2))
    have hs12 : w1.heap.size ≤ w2.heap.size := by rw [HS2.out]; exact Nat.le_refl _
    obtain ⟨w3, hmk, hblk, hb3, hsz3⟩ := run_make_blk w2 m (by omega)
    have HS3 := Lib.hid hsz3
    have hs23 : w2.heap.size < w3.heap.size := by omega
    clear hsz3
    have HBLK := Lib.hid hblk
    have HB3 := Lib.hid hb3
    clear hblk hb3 c0 hw1
    have hE3 : EntAt w3 p r (.pointer (some ⟨fp, 0, none⟩)) := (HEP.out.keepB (HB12.out fb (Nat.le_refl _)) hpfb).below HB3.out
    have hR3 : FileRow w3 fb p (o : Int) false := (HB3.out.block fb (by omega)).trans HR2.out
    have hF3 := HF1.out.keep ((HB12.out B (by omega)).trans (HB3.out.mono (by omega)))
    have heof3 : EofAt w3 ea := EofAt.keep (B := B) HEOF.out ((HB1.out.mono hFhi).trans ((HB12.out B (by omega)).trans (HB3.out.mono (by omega)))) (by omega)
    have HE3 := Lib.hid hE3
    have HR3 := Lib.hid hR3
    have HF3 := Lib.hid hF3
    have HEOF3 := Lib.hid heof3
    clear hE3 hR3 hF3 heof3
    go_upto_block 0 with (fail)
    have hb03 : Below w.heap.size w w3 := (HB1.out.trans (HB12.out w.heap.size hfb)).trans (HB3.out.mono (by omega))
    have HB03 := Lib.hid hb03
    clear hb03 hmk
    go_cut [16, 17, 18] from 55 to 81 (fun t16 t17 t18 wx => ∃ k q : Nat, t16 = .int .i64 (k : Int) ∧ k = min (z - o) m ∧ wx.rangeAt w2.heap.size 0 (bcs (seg D (x * 2048 + o) k)) ∧ FileRow wx fb p (q : Int) false ∧ w2.heap.size < wx.heap.size ∧ Below w.heap.size w wx)
    case first =>
      go_wp2
      go_loopw [16] (fun gv wr => (gv = .int .i64 0 ∧ wr = w3) ∨ (gv = .int .i64 (m : Int) ∧ m = min (z - o) m ∧ wr.rangeAt w2.heap.size 0 (bcs (seg D (x * 2048 + o) m)) ∧ (∃ q : Nat, FileRow wr fb p (q : Int) false) ∧ w2.heap.size < wr.heap.size ∧ Below w.heap.size w wr)) (fun gv _ => m - (intOf gv).toNat)
      case atStart => exact .inl ⟨rfl, rfl⟩
      case round =>
        rcases hrel with ⟨rfl, rfl⟩ | ⟨rfl, hmm, hrg, ⟨q, hrw⟩, hgl, hbl⟩
        · by_cases hm0 : ¬ 0 < m
          · have hmz0 : ¬ (0 : Int) < (m : Int) := by omega
            go_wp2
            go_meet
            exact ⟨0, o, rfl, by omega, fun j v hv => by simp [seg, bcs] at hv, HR3.out, by omega, HB03.out⟩
          · have hm0 : 0 < m := by omega
            have hmp : (0 : Int) < (m : Int) := by omega
            have hm00 : (0 : Int) ≤ (m : Int) := by omega
            have hmle : (m : Int) ≤ (m : Int) := Int.le_refl _
            have hF := fread_any x z o m w2.heap.size fb p (List.replicate m 0) ea r wr HF3.out HE3.out HR3.out HBLK.out HEOF3.out hre hrz (by simp) (by omega) (by omega) (by omega) (by omega) (by omega) (by omega) (by omega) (by omega) (by omega) (by omega) (by omega) (by omega)
            have HFR := Lib.hid hF
            clear hF
            by_cases hzo : z ≤ o
            · have h1 : Calls Tryz.prog 57 #[.pointer (some ⟨fb, 0, none⟩), .slice (some ⟨w2.heap.size, 0, none⟩) m m] wr fun e w' => e = .returned (.tuple #[.int .i64 0, eofV ea]) ∧ Below wr.heap.size wr w' := HFR.out.mono (fun e w' h => by
                rcases h with ⟨_, h1, h2⟩ | ⟨h1, _⟩
                · exact ⟨h1, h2⟩
                · omega)
              have H1 := Lib.hid h1
              have hee := eql_eof ea
              have hge := guard_eof (.tmp 69) (.tmp 70) ea
              clear h1
              have heo : wr.cell? ⟨0, 0, none⟩ = some (eofV ea) := HEOF3.out
              have h00 : 0 < wr.heap.size := by omega
              go_wp2_with (first
                | (go_at_call 57
                   refine H1.out.mono ?_
                   rintro e w4 ⟨rfl, hb4⟩
                   have heo4 : w4.cell? ⟨0, 0, none⟩ = some (eofV ea) := (hb4.cell (p := ⟨0, 0, none⟩) h00).trans heo
                   have HB4 := Lib.hid hb4
                   have hs4 := hb4.size
                   clear hb4))
              go_meet
              have hR4 : FileRow w4 fb p (o : Int) false := (HB4.out.block fb (by omega)).trans HR3.out
              exact ⟨0, o, rfl, by omega, fun j v hv => by simp [seg, bcs] at hv, hR4, by omega, HB03.out.trans (HB4.out.mono HB03.out.size)⟩
            · have hk0 : min (z - o) m ≤ m := by omega
              obtain ⟨k, hk⟩ : ∃ k, min (z - o) m = k := ⟨_, rfl⟩
              have hsl : (seg D (x * 2048 + o) k).length = k := seg_len _ _ _ (by omega)
              have hkle : k ≤ m := by omega
              by_cases hzk : z ≤ o + k
              · have h1 : Calls Tryz.prog 57 #[.pointer (some ⟨fb, 0, none⟩), .slice (some ⟨w2.heap.size, 0, none⟩) m m] wr fun e w' => e = .returned (.tuple #[.int .i64 (k : Int), eofV ea]) ∧ Blk w' w2.heap.size (splice (List.replicate m 0) 0 (seg D (x * 2048 + o) k)) ∧ FileRow w' fb p ((o : Int) + k) false ∧ ∀ B', B' ≤ w2.heap.size → B' ≤ fb → B' ≤ wr.heap.size → Below B' wr w' := HFR.out.mono (fun e w' h => by
                  rcases h with ⟨h1, _⟩ | ⟨_, k', hk', h2, h3, h4, h5⟩
                  · omega
                  · obtain rfl : k' = k := by omega
                    rw [if_pos hzk] at h2
                    exact ⟨h2, h3, h4, h5⟩)
                have H1 := Lib.hid h1
                have hee := eql_eof ea
                have hge := guard_eof (.tmp 69) (.tmp 70) ea
                have heo : wr.cell? ⟨0, 0, none⟩ = some (eofV ea) := HEOF3.out
                have HK := Lib.hid hk
                have HSL := Lib.hid hsl
                clear h1 hk hsl
                go_wp2_with (first
                  | (go_at_call 57
                     refine H1.out.mono ?_
                     rintro e w4 ⟨rfl, hK4, hR4, hb4⟩
                     have heo4 : w4.cell? ⟨0, 0, none⟩ = some (eofV ea) := ((hb4 B (by omega) (by omega) (by omega)).cell (p := ⟨0, 0, none⟩) (by show 0 < B; omega)).trans heo
                     have HK4 := Lib.hid hK4
                     have HR4 := Lib.hid hR4
                     have HB4 := Lib.hid hb4
                     have hs4 := (hb4 0 (by omega) (by omega) (by omega)).size
                     clear hK4 hR4 hb4))
                go_meet
                have hrg4 : w4.rangeAt w2.heap.size 0 (bcs (seg D (x * 2048 + o) k)) := blk_range (o := 0) HK4.out (fun j hj => splice_get_in _ _ _ _ (by rw [HSL.out]; simp; omega) hj)
                have hR4 : FileRow w4 fb p ((o + k : Nat) : Int) false := by have h := HR4.out; rw [← Int.natCast_add] at h; exact h
                exact ⟨k, o + k, by first | rfl | go_num, HK.out.symm, hrg4, hR4, by omega, HB03.out.trans (HB4.out w.heap.size (by omega) hfb (by omega))⟩
              · have hkm : k = m := by omega
                have h1 : Calls Tryz.prog 57 #[.pointer (some ⟨fb, 0, none⟩), .slice (some ⟨w2.heap.size, 0, none⟩) m m] wr fun e w' => e = .returned (.tuple #[.int .i64 (m : Int), .nilIface]) ∧ Blk w' w2.heap.size (splice (List.replicate m 0) 0 (seg D (x * 2048 + o) m)) ∧ FileRow w' fb p ((o : Int) + m) false ∧ ∀ B', B' ≤ w2.heap.size → B' ≤ fb → B' ≤ wr.heap.size → Below B' wr w' := HFR.out.mono (fun e w' h => by
                  rcases h with ⟨h1, _⟩ | ⟨_, k', hk', h2, h3, h4, h5⟩
                  · omega
                  · obtain rfl : k' = m := by omega
                    rw [if_neg (by omega)] at h2
                    exact ⟨h2, h3, h4, h5⟩)
                have H1 := Lib.hid h1
                have hee := nil_eof ea
                have hge := guard_nil (.tmp 69) (.tmp 70) ea
                have heo : wr.cell? ⟨0, 0, none⟩ = some (eofV ea) := HEOF3.out
                have hmm : m = min (z - o) m := by omega
                have hsl2 : (seg D (x * 2048 + o) m).length = m := by rw [← hkm]; exact hsl
                have HMM := Lib.hid hmm
                have HSL := Lib.hid hsl2
                have hmne : ¬ m = 0 := by omega
                have hmne2 : ((m : Int) == 0) = false := by simp; omega
                clear h1 hk hsl hkm hmm hsl2 hk0
                go_wp2_with (first
                  | (go_at_call 57
                     refine H1.out.mono ?_
                     rintro e w4 ⟨rfl, hK4, hR4, hb4⟩
                     have heo4 : w4.cell? ⟨0, 0, none⟩ = some (eofV ea) := ((hb4 B (by omega) (by omega) (by omega)).cell (p := ⟨0, 0, none⟩) (by show 0 < B; omega)).trans heo
                     have HK4 := Lib.hid hK4
                     have HR4 := Lib.hid hR4
                     have HB4 := Lib.hid hb4
                     have hs4 := (hb4 0 (by omega) (by omega) (by omega)).size
                     clear hK4 hR4 hb4))
                have hrg4 : w4.rangeAt w2.heap.size 0 (bcs (seg D (x * 2048 + o) m)) := blk_range (o := 0) HK4.out (fun j hj => splice_get_in _ _ _ _ (by rw [HSL.out]; simp) hj)
                have hR4 : FileRow w4 fb p ((o + m : Nat) : Int) false := by have h := HR4.out; rw [← Int.natCast_add] at h; exact h
                exact ⟨.inr ⟨rfl, HMM.out, hrg4, ⟨o + m, hR4⟩, by omega, HB03.out.trans (HB4.out w.heap.size (by omega) hfb (by omega))⟩, by simp [intOf]; omega⟩
        · have hmz0 : ¬ (m : Int) < (m : Int) := by omega
          have HRG := Lib.hid hrg
          have HRW := Lib.hid hrw
          have HMM := Lib.hid hmm
          clear hrg hrw hmm
          go_wp2
          go_meet
          exact ⟨m, q, rfl, HMM.out, HRG.out, HRW.out, hgl, hbl⟩
    obtain ⟨k, q, rfl, hk, hrg, hrw, hgl, hbl⟩ := hcut
    obtain ⟨w5, rfl⟩ : ∃ w5 : World, w5 = wc := ⟨_, rfl⟩
    have hkm : k ≤ m := by omega
    have hsl : (seg D (x * 2048 + o) k).length = k := by
      rcases Nat.eq_zero_or_pos k with h0 | h0
      · rw [h0]; simp [seg]
      · exact seg_len _ _ _ (by omega)
    have hdat : seg D (x * 2048 + o) k = ((dataN nd y).drop o).take m := seg_data HSEG.out HDL.out hk
    obtain ⟨SG, hSG⟩ : ∃ SG, seg D (x * 2048 + o) k = SG := ⟨_, rfl⟩
    rw [hSG] at hdat hrg hsl
    have hcvS : ∀ w', w'.rangeAt w2.heap.size 0 (bcs SG) → (convert 26 9 (.slice (some ⟨w2.heap.size, 0, none⟩) k m)).run Tryz.prog w' = .ok (.string ⟨SG.toArray⟩) w' := fun w' h => bytes_str h hsl m
    have HCV := Lib.hid hcvS
    have HDAT := Lib.hid hdat
    have HRW := Lib.hid hrw
    have HBL := Lib.hid hbl
    have hk00 : (0 : Int) ≤ (k : Int) := by omega
    have hkmz : (k : Int) ≤ (m : Int) := by omega
    have hfb5 := hrw.cells.2.2.2.2.2
    have hS2' : ∀ w', (∃ v, w' = w5.drew.setCell ⟨fb, 4, none⟩ v) → w'.rangeAt w2.heap.size 0 (bcs SG) := fun w' ⟨v, h⟩ j u hu => by
      rw [h, World.cell?_of_block (w := w5.drew) (Below.heap_setCell _ _ _ _ (by show w2.heap.size ≠ fb; omega))]
      exact hrg j u hu
    have HS2 := Lib.hid hS2'
    have HRG := Lib.hid hrg
    have hcl := close_any fb p (q : Int) w5.drew hrw
    have HCL := Lib.hid hcl
    clear hrg hdat hsl hrw hbl hcvS hS2' hSG hcl hk
    go_upto_region 20 with (fail)
    refine wp_region_noPanic ?_
    refine wp_region_held_drew (S := fun w' => w'.rangeAt w2.heap.size 0 (bcs SG)) (by kernel_rfl) HRG.out (fun hS0 => ?_)
    refine hTake (i := 0) (v := ?_) (some 82) rfl rfl (by kernel_rfl) (by kernel_rfl) (by kernel_rfl) (fun _ _ _ h => h) (Or.inl ⟨by rfl, ?hyB20x0⟩) hS0 ?hrB20x0
    case hyB20x0 => (intro w' hSw; clear hSw; go_simp; try with_reducible rfl)
    try simp only [Act.put, List.setIfInBounds_toArray, List.set_cons_zero, List.set_cons_succ]
    refine hTake (i := 1) (v := ?_) (some 83) rfl rfl (by kernel_rfl) (by kernel_rfl) (by kernel_rfl) (fun _ _ _ h => h) (Or.inl ⟨by rfl, ?hyB20x1⟩) hS0 ?hrB20x1
    case hyB20x1 => (intro w' hSw; clear hSw; go_simp; try with_reducible rfl)
    try simp only [Act.put, List.setIfInBounds_toArray, List.set_cons_zero, List.set_cons_succ]
    refine hTake (i := 2) (v := ?_) (some 84) rfl rfl (by kernel_rfl) (by kernel_rfl) (by kernel_rfl) (fun _ _ _ h => h) (Or.inl ⟨by rfl, ?hyB20x2⟩) hS0 ?hrB20x2
    case hyB20x2 => (intro w' hSw; clear hSw; go_simp; try with_reducible rfl)
    try simp only [Act.put, List.setIfInBounds_toArray, List.set_cons_zero, List.set_cons_succ]
    refine hTake (i := 3) (v := ?_) (some 85) rfl rfl (by kernel_rfl) (by kernel_rfl) (by kernel_rfl) (fun _ _ _ h => h) (Or.inl ⟨by rfl, ?hyB20x3⟩) hS0 ?hrB20x3
    case hyB20x3 => (intro w' hSw; have hq := HCV.out _ hSw; clear hSw; go_simp; try with_reducible rfl)
    try simp only [Act.put, List.setIfInBounds_toArray, List.set_cons_zero, List.set_cons_succ]
    refine hTake (i := 4) (v := ?_) (some 86) rfl rfl (by kernel_rfl) (by kernel_rfl) (by kernel_rfl) (fun _ _ _ h => h) (Or.inl ⟨by rfl, ?hyB20x4⟩) hS0 ?hrB20x4
    case hyB20x4 => (intro w' hSw; clear hSw; go_simp; try with_reducible rfl)
    try simp only [Act.put, List.setIfInBounds_toArray, List.set_cons_zero, List.set_cons_succ]
    refine wpAnyH_all (rs := [5]) (by kernel_rfl) (by simp) (rows1 ?_)
    refine hCall (f := 58) (args := #[.pointer (some ⟨fb, 0, none⟩)]) (some 87) rfl rfl rfl (by go_simp) ?_
    refine HCL.out.mono ?_
    rintro e w6 ⟨rfl, hw6⟩
    have hS2 : w6.rangeAt w2.heap.size 0 (bcs SG) := HS2.out w6 ⟨_, hw6⟩
    refine ⟨_, rfl, hS2, ?_⟩
    refine hTake (i := 6) (v := ?_) (some 88) rfl rfl (by kernel_rfl) (by kernel_rfl) (by kernel_rfl) (fun _ _ _ h => h) (Or.inl ⟨by rfl, ?hyB20x6⟩) hS2 ?hrB20x6
    case hyB20x6 => (intro w' hSw; clear hSw; go_simp; try with_reducible rfl)
    try simp only [Act.put, List.setIfInBounds_toArray, List.set_cons_zero, List.set_cons_succ]
    refine hTake (i := 7) (v := ?_) (some 7) rfl rfl (by kernel_rfl) (by kernel_rfl) (by kernel_rfl) (fun _ _ _ h => h) (Or.inl ⟨by rfl, ?hyB20x7⟩) hS2 ?hrB20x7
    case hyB20x7 => (intro w' hSw; clear hSw; go_simp; try with_reducible rfl)
    try simp only [Act.put, List.setIfInBounds_toArray, List.set_cons_zero, List.set_cons_succ]
    refine hTake (i := 8) (v := ?_) (some 8) rfl rfl (by kernel_rfl) (by kernel_rfl) (by kernel_rfl) (fun _ _ _ h => h) (Or.inl ⟨by rfl, ?hyB20x8⟩) hS2 ?hrB20x8
    case hyB20x8 => (intro w' hSw; clear hSw; go_simp; try with_reducible rfl)
    try simp only [Act.put, List.setIfInBounds_toArray, List.set_cons_zero, List.set_cons_succ]
    refine wpAnyH_done (by kernel_rfl) ?_ _
    refine NoPanic.normal ?_
    go_wp2_with fail
    go_ret2
    refine ⟨?_, ?_⟩
    · rw [← HDAT.out]; rfl
    · rw [hw6]; exact (HBL.out.drew).setCell (by exact hfb) _

end Go.Proofs.YtfppgplboomdbaaGreatDoor
