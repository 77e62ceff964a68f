/- Part of the proofs of laws.FnIsoTree and laws.FnIsoAt: lemmas and contracts of functions that the two laws reach, each under the hypotheses that its own statement names. -/
import Derived.Test.YtfppgplboomdbaaGreatDoorMV5
import Derived.Laws.EntriesVeiled
namespace Go.Proofs.YtfppgplboomdbaaGreatDoor
open Go.RowKit

theorem TabAt.more {w : World} {B B' pt : Nat} {es : List PEnt} (h : TabAt w B pt es) (hB : B ≤ B') : TabAt w B' pt es := by
  obtain ⟨tb, cap, ps, h1, h2, h3, h4, h5⟩ := h.ex
  exact ⟨Nat.lt_of_lt_of_le h.lt hB, tb, cap, ps, h1, by omega, h3, fun j p hp => ⟨Nat.lt_of_lt_of_le (h4 j p hp).1 hB, (h4 j p hp).2⟩, h5⟩
theorem FsAt.more {w : World} {B B' fp mb pt rd : Nat} {D : Bs} {es : List PEnt} (h : FsAt w B fp mb pt rd D es) (hB : B ≤ B') (hB2 : B' ≤ w.heap.size) : FsAt w B' fp mb pt rd D es := by
  have h1 := h.fl
  have h2 := h.b6
  exact ⟨hB2, h.mem.more hB hB2, by omega, by omega, h.ws, h.be, h.bs, h.ptc, h.rdc, h.se, h.ex, h.je, h.tab.more hB, h.tabs⟩
/-- A block of four empty function variables. -/
def NilB (w : World) (b : Nat) : Prop := w.heap[b]? = some (.cells #[.nilFunc, .nilFunc, .nilFunc, .nilFunc] 73 (0, 0))
theorem NilB.ne {w : World} {b x k : Nat} {v : Value} (h : NilB w b) (hc : w.cell? ⟨x, k, none⟩ = some v) (hv : v ≠ .nilFunc) : x ≠ b := fun e => by
  subst e
  have h1 := (cell_of_row _ _ k _ _ _ h).symm.trans hc
  match k, h1 with
  | 0, h1 => exact hv (by simpa using h1.symm)
  | 1, h1 => exact hv (by simpa using h1.symm)
  | 2, h1 => exact hv (by simpa using h1.symm)
  | 3, h1 => exact hv (by simpa using h1.symm)
  | k + 4, h1 => simp at h1
theorem NilB.type {w : World} {b x : Nat} {cs : Array Value} {t : TypeId} {z : Nat × Nat} (h : NilB w b) (hc : w.heap[x]? = some (.cells cs t z)) (ht : t ≠ 73) : x ≠ b := fun e => by
  subst e
  unfold NilB at h
  rw [h] at hc
  injection hc with h1
  injection h1 with _ h2 _
  exact ht h2.symm
theorem FsAt.but {w w' : World} {B fp mb pt rd b : Nat} {D : Bs} {es : List PEnt} (h : FsAt w B fp mb pt rd D es) (hn : NilB w b) (hb : ∀ k, k ≠ b → w'.heap[k]? = w.heap[k]?) (hs : w'.heap.size = w.heap.size) (h6 : 6 ≤ b) (hD : 0 < D.length) (hes : 0 < es.length) : FsAt w' B fp mb pt rd D es := by
  have hfp := hn.ne h.ws (by simp)
  have hc := fun (k : Nat) => World.cell?_of_block (w := w) (w' := w') (a := ⟨fp, k, none⟩) (hb fp hfp)
  have hmem : Mem w' B mb D := by
    obtain ⟨gb, cap, h1, h2, h3, h4⟩ := h.mem.ex
    have hg : gb ≠ b := hn.ne (h4 0 hD) (by simp)
    exact ⟨h.mem.lo, by rw [hs]; exact h.mem.hi, gb, cap, (hb mb (hn.type h1 (by decide))).trans h1, h2, h3, fun j hj => (World.cell?_of_block (a := ⟨gb, j, none⟩) (hb gb hg)).trans (h4 j hj)⟩
  have htab : TabAt w' B pt es := by
    obtain ⟨tb, cap, ps, h1, h2, h3, h4, h5⟩ := h.tab.ex
    have hp := hn.ne h1 (by simp)
    have ht : tb ≠ b := by
      obtain ⟨q, hq⟩ : ∃ q, ps[0]? = some q := ⟨ps[0]'(by omega), List.getElem?_eq_getElem _⟩
      exact hn.ne (h4 0 q hq).2 (by simp [ptrV])
    exact ⟨h.tab.lt, tb, cap, ps, (World.cell?_of_block (a := ⟨pt, 0, none⟩) (hb pt hp)).trans h1, h2, h3, fun j p hq => ⟨(h4 j p hq).1, (World.cell?_of_block (a := ⟨tb, j, none⟩) (hb tb ht)).trans (h4 j p hq).2⟩, fun j p e hq he => by
      obtain ⟨sz, h6⟩ := h5 j p e hq he
      exact ⟨sz, (hb p (hn.type h6 (by decide))).trans h6⟩⟩
  refine ⟨by rw [hs]; exact h.hi, hmem, h.fl, h.b6, (hc _).trans h.ws, (hc _).trans h.be, (hc _).trans h.bs, (hc _).trans h.ptc, (hc _).trans h.rdc, (hc _).trans h.se, (hc _).trans h.ex, (hc _).trans h.je, htab, fun c hc => ?_, fun i hi => ?_⟩
  · exact (World.cell?_of_block (a := ⟨4, c, none⟩) (hb 4 (by omega))).trans (h.tabs.1 c hc)
  · exact ⟨(World.cell?_of_block (a := ⟨5, 2 * i, none⟩) (hb 5 (by omega))).trans (h.tabs.2 i hi).1, (World.cell?_of_block (a := ⟨5, 2 * i + 1, none⟩) (hb 5 (by omega))).trans (h.tabs.2 i hi).2⟩
/-- The calls of an image's reader. -/
def RoPost {n P : Nat} {D vol : Bs} {nd : Nat → Nd} {ks : Nat → List Nat} {ds : List Nat} (_tr : Tr D nd ks n ds P vol) (ea : Addr) (w : World) (e : Ending) (w' : World) : Prop :=
  ∃ fp mb pt rd xv pv rr, e = .returned (.tuple #[roadsV fp xv, .bool true]) ∧ RdAt w' w'.heap.size fp mb pt rd xv ea D (esOf nd ds) rr ∧ rr.ext = (nd 0).ext ∧ rr.size = 2048 ∧ LabAt w' fp pv (vidOf vol) ∧ Below w.heap.size w w'
set_option maxHeartbeats 8000000 in
set_option maxRecDepth 100000 in
theorem isoRoads_any {n P : Nat} {D vol : Bs} {nd : Nat → Nd} {ks : Nat → List Nat} {ds : List Nat} (tr : Tr D nd ks n ds P vol) (I L : Nat) (ea : Addr) (w : World) (hL : D.length = L) (hb : Blk w I D) (hv32 : vol.length ≤ 32) (heof : EofAt w ea) (htabs : Lib.Utf8Tabs 4 5 w) (h6 : 6 ≤ w.heap.size) :
    Calls Tryz.prog 28 #[.slice (some ⟨I, 0, none⟩) L L, .int .i64 2048] w fun e w' => RoPost tr ea w e w' := by
  have hDl := tr.len.2
  rw [hL] at hDl
  obtain ⟨S, hS⟩ : ∃ S : ByteArray, (⟨D.toArray⟩ : ByteArray) = S := ⟨_, rfl⟩
  have hSd : S.data.toList = D := by rw [← hS]
  have hSs : S.size ≤ 100000000 := by
    have : S.size = S.data.toList.length := rfl
    rw [this, hSd, hL]; omega
  have hIl := hb.lt
  have HBLK := Lib.hid hb
  have HL := Lib.hid hL
  have HE := Lib.hid heof
  have HT := Lib.hid htabs
  have HSD := Lib.hid hSd
  have HSX := Lib.hid hS
  clear hb hL heof htabs hS hSd
  go_enter Tryz.func28, Tryz.ntmps28
  go_upto_region 1 with (fail)
  generalize hw1 : w.alloc _ = w1
  have hth : w1.there w.heap.size 0 4 := by rw [← hw1]; exact there_alloc_new w _ _ _ rfl
  have hrow1 : NilB w1 w.heap.size := by rw [← hw1]; exact heap_alloc_new w _
  have HROW1 := Lib.hid hrow1
  clear hrow1
  have hb1 : Below w.heap.size w w1 := by rw [← hw1]; exact (Below.refl _ _).alloc (Nat.le_refl _) _
  have hsz1 : w1.heap.size = w.heap.size + 1 := by rw [← hw1]; simp
  have hcv : (convert 26 9 (.slice (some ⟨I, 0, none⟩) L L)).run Tryz.prog w1 = .ok (.string S) w1 := by
    have h := bytes_str (w := w1) (g := I) (o := 0) (l := D) (il := L) (blk_range (HBLK.out.same (hb1.block I hIl)) (fun j _ => by rw [Nat.zero_add])) HL.out L
    rw [HSX.out] at h
    exact h
  have HTH := Lib.hid hth
  have HB1 := Lib.hid hb1
  have HS1 := Lib.hid hsz1
  clear hth hb1 hsz1 hw1
  go_upto_region 2 with (first
    | (go_at_call 49
       refine (memoryOf_any S w1 hSs).mono ?_
       rintro e w2 ⟨⟨mb, rfl, hmb, hmem⟩, hb2⟩
       rw [HSD.out] at hmem
       have HMEM := Lib.hid hmem
       have HB2 := Lib.hid (HB1.out.trans (hb2.mono HB1.out.size))
       have HB12 := Lib.hid hb2
       clear hmem hb2)
    | (go_at_call 48
       refine (read_any tr mb L w2 HL.out HMEM.out hv32 (tabs_keep HT.out HB2.out h6) (by have := HB2.out.size; omega)).mono ?_
       rintro e w3 ⟨fp, pt, rd, pv, rr, rfl, hfs, hent, hrx, hrs, hlab, hb3⟩
       have HFS := Lib.hid hfs
       have HENT := Lib.hid hent
       have HRX := Lib.hid hrx
       have HRS := Lib.hid hrs
       have HLAB := Lib.hid hlab
       have HB3 := Lib.hid (HB2.out.trans (hb3.mono HB2.out.size))
       have HB23 := Lib.hid hb3
       clear hfs hent hrx hrs hlab hb3))
  have hs2 := HB12.out.size
  have hs3 := HB23.out.size
  have hs1 : w.heap.size < w1.heap.size := by rw [HS1.out]; exact Nat.lt_succ_self _
  generalize hw4 : w3.alloc _ = w4
  have hc4 : w4.cell? ⟨w3.heap.size, 0, none⟩ = some (.pointer (some ⟨fp, 0, none⟩)) := by rw [← hw4]; exact (cell_of_row _ _ 0 _ _ _ (heap_alloc_new w3 _)).trans rfl
  have hb4 : Below w3.heap.size w3 w4 := by rw [← hw4]; exact (Below.refl _ _).alloc (Nat.le_refl _) _
  have hs4 : w3.heap.size < w4.heap.size := by rw [← hw4]; simp
  have HB4 := Lib.hid hb4
  clear hw4 hcv
  have hth4 : w4.there w.heap.size 0 4 := there_same HTH.out ((hb4.block _ (by omega)).trans ((HB23.out.block _ (by omega)).trans (HB12.out.block _ (by omega))))
  have hzz := fun (k : Nat) (hk : k < 4) => hth4 k hk
  obtain ⟨z0, hz0⟩ := Option.isSome_iff_exists.1 (hzz 0 (by omega)).1
  obtain ⟨z1, hz1⟩ := Option.isSome_iff_exists.1 (hzz 1 (by omega)).1
  obtain ⟨z2, hz2⟩ := Option.isSome_iff_exists.1 (hzz 2 (by omega)).1
  obtain ⟨z3, hz3⟩ := Option.isSome_iff_exists.1 (hzz 3 (by omega)).1
  have hf0 := (hzz 0 (by omega)).2
  have hf1 := (hzz 1 (by omega)).2
  have hf2 := (hzz 2 (by omega)).2
  have hf3 := (hzz 3 (by omega)).2
  simp only [Nat.zero_add] at hz0 hz1 hz2 hz3 hf0 hf1 hf2 hf3
  have HTH4 := Lib.hid hth4
  have hbne : w3.heap.size ≠ w.heap.size := by omega
  clear hb4 hth4 hzz
  have hmf := fun (fn : Fn) (a b : Array Value) (w : World) => make_fn fn a b w
  go_wp2_with (fail)
  have hR : RowLeft w4 w.heap.size [fnV 50 fp, fnV 51 fp, fnV 52 fp, .func (.func 53) #[] #[.pointer (some ⟨w3.heap.size, 0, none⟩)]] (w4.setCells w.heap.size 0 [fnV 50 fp, fnV 51 fp, fnV 52 fp, .func (.func 53) #[] #[.pointer (some ⟨w3.heap.size, 0, none⟩)]]) :=
    ⟨World.rangeAt_setCells_same _ _ _ _ HTH4.out, fun k hk => setCells_block _ _ _ _ _ hk, setCells_size _ _ _ _, setCells_rest _ _ _ _⟩
  show bodyPost _ _ _ _ _ (w4.setCells w.heap.size 0 [fnV 50 fp, fnV 51 fp, fnV 52 fp, .func (.func 53) #[] #[.pointer (some ⟨w3.heap.size, 0, none⟩)]])
  generalize w4.setCells w.heap.size 0 [fnV 50 fp, fnV 51 fp, fnV 52 fp, .func (.func 53) #[] #[.pointer (some ⟨w3.heap.size, 0, none⟩)]] = w9 at hR ⊢
  have e0 := hR.range 0 _ rfl
  have e1 := hR.range 1 _ rfl
  have e2 := hR.range 2 _ rfl
  have e3 := hR.range 3 _ rfl
  simp only [Nat.zero_add] at e0 e1 e2 e3
  refine bodyPost_ret (v := .tuple #[roadsV fp w3.heap.size, .bool true]) (by simp [results, Tryz.results28, go_sem, roadsV, e0, e1, e2, e3]) rfl ?_
  have hn4 : NilB w4 w.heap.size := (HB4.out.block _ (by omega)).trans ((HB23.out.block _ (by omega)).trans ((HB12.out.block _ (by omega)).trans HROW1.out))
  have hes : 0 < (esOf nd ds).length := by
    obtain ⟨e0, h2, _⟩ := esOf_head tr.dirs
    exact (List.getElem?_eq_some_iff.1 h2).1
  have hfs4 : FsAt w4 w4.heap.size fp mb pt rd D (esOf nd ds) := ((HFS.out.below HB4.out).more (Nat.le_of_lt hs4) (Nat.le_refl _))
  have hfs9 := hfs4.but hn4 (fun k hk => hR.other k hk) hR.size h6 (by have := tr.len.1; omega) hes
  have hent4 := HENT.out.below HB4.out
  have hrdl := hent4.full.2.2.2.2.2.2.2
  have hrdn : rd ≠ w.heap.size := by
    obtain ⟨_, _, _, _, h1⟩ := hent4
    exact hn4.type h1 (by decide)
  have hent9 := hent4.same (hR.other rd hrdn)
  obtain ⟨hl1, hl2⟩ := HLAB.out.below HB4.out
  have hfn : fp ≠ w.heap.size := hn4.ne hl1 (by simp)
  have hpn : pv ≠ w.heap.size := hn4.ne hl2 (by simp)
  refine ⟨fp, mb, pt, rd, w3.heap.size, pv, rr, rfl, ⟨by rw [hR.size]; exact hfs9, hent9, ?_, (World.cell?_of_block (a := ⟨w3.heap.size, 0, none⟩) (hR.other _ hbne)).trans hc4, by rw [hR.size]; exact hrdl, by rw [hR.size]; exact hs4⟩, HRX.out, HRS.out, ⟨(World.cell?_of_block (a := ⟨fp, 7, none⟩) (hR.other _ hfn)).trans hl1, (World.cell?_of_block (a := ⟨pv, 1, none⟩) (hR.other _ hpn)).trans hl2⟩, hR.below (HB3.out.trans (HB4.out.mono (by omega))) (Nat.le_refl _)⟩
  have hbf : Below w.heap.size w w9 := hR.below (HB3.out.trans (HB4.out.mono (by omega))) (Nat.le_refl _)
  exact HE.out.keep hbf (by omega)

end Go.Proofs.YtfppgplboomdbaaGreatDoor

namespace Go.Proofs.YtfppgplboomdbaaGreatDoor
open Go.RowKit

def AtPost (nd : Nat → Nd) (y o m : Nat) (w : World) (e : Ending) (w' : World) : Prop := e = .returned (.tuple #[.string ⟨(((dataN nd y).drop o).take m).toArray⟩, .bool true]) ∧ Below w.heap.size w w'
set_option maxHeartbeats 4000000 in
set_option maxRecDepth 100000 in
theorem roadsAt_any {n P : Nat} {D vol : Bs} {nd : Nat → Nd} {ks : Nat → List Nat} {ds : List Nat} (tr : Tr D nd ks n ds P vol) (fp mb pt rd xv B y o m : Nat) (rr : RecE) (ea : Addr) (s : ByteArray) (w : World) (hR : RdAt w B fp mb pt rd xv ea D (esOf nd ds) rr) (hrx : rr.ext = (nd 0).ext) (hrs : rr.size = 2048)
    (hy1 : 1 ≤ y) (hy : y < n) (hp : s.data.toList = joinP (pth nd y)) (hfile : (nd y).f.dir = false) (ho : o ≤ 100000) (hm : m ≤ 16777216) :
    Calls Tryz.prog 31 #[roadsV fp xv, .string s, .int .i64 (o : Int), .int .i64 (m : Int)] w fun e w' => AtPost nd y o m w e w' := by
  have HC := fun (w' : World) (hb : Below w.heap.size w w') => fileRead_any tr y o m xv m s rr ea w' (hR.below hb).fs (hR.below hb).ent hrx hrs (hR.below hb).rdl (hR.below hb).eof (hR.below hb).cap hy1 hy hp hfile ho (.inr rfl) hm
  have HCC := Lib.hid HC
  clear HC hR hrx hrs hp
  have hrv : roadsV fp xv = .agg #[fnV 50 fp, fnV 51 fp, fnV 52 fp, .func (.func 53) #[] #[.pointer (some ⟨xv, 0, none⟩)]] := rfl
  rw [hrv]
  go_enter Tryz.func31, Tryz.ntmps31
  go_upto_region 3 with (fail)
  generalize hw1 : w.alloc _ = w1
  have hrow1 : w1.heap[w.heap.size]? = some (.cells #[fnV 50 fp, fnV 51 fp, fnV 52 fp, .func (.func 53) #[] #[.pointer (some ⟨xv, 0, none⟩)]] 73 (0, 0)) := by rw [← hw1]; exact heap_alloc_new w _
  have hb1 : Below w.heap.size w w1 := by rw [← hw1]; exact (Below.refl _ _).alloc (Nat.le_refl _) _
  have f3 : w1.cell? ⟨w.heap.size, 3, none⟩ = some (.func (.func 53) #[] #[.pointer (some ⟨xv, 0, none⟩)]) := (cell_of_row _ _ 3 _ _ _ hrow1).trans rfl
  have HB1 := Lib.hid hb1
  clear hw1 hrow1 hb1
  go_wp2_with (first
    | (go_at_call 53
       refine (HCC.out w1 HB1.out).mono ?_
       rintro e w2 ⟨rfl, hb2⟩
       have HB2 := Lib.hid hb2
       clear hb2))
  go_ret2
  exact ⟨rfl, HB1.out.trans (HB2.out.mono HB1.out.size)⟩
theorem roads_all {fp xv : Nat} {RC : List Value} (h : RC = [fnV 50 fp, fnV 51 fp, fnV 52 fp, .func (.func 53) #[] #[.pointer (some ⟨xv, 0, none⟩)]]) : RC.toArray.all (·.oneCell') = true := by rw [h]; simp [fnV, Value.oneCell']
/-- What IsoOpen tells. -/
def IoPost (nd : Nat → Nd) (ks : Nat → List Nat) (vol : Bs) (w : World) (e : Ending) (w' : World) : Prop := ∃ v ls, e = .returned (.tuple #[.string (vidOf vol), v, .bool true, .bool true]) ∧ Leaves nd (pre nd ks 7 0) ls ∧ OwnS w' w.heap.size 15 v ls.length (lsC ls) ∧ Below w.heap.size w w'
set_option maxHeartbeats 4000000 in
set_option maxRecDepth 100000 in
theorem isoOpen_any {n P : Nat} {D vol : Bs} {nd : Nat → Nd} {ks : Nat → List Nat} {ds : List Nat} (tr : Tr D nd ks n ds P vol) (I L : Nat) (ea : Addr) (w : World) (hL : D.length = L) (hb : Blk w I D) (hv32 : vol.length ≤ 32) (heof : EofAt w ea) (htabs : Lib.Utf8Tabs 4 5 w) (h6 : 6 ≤ w.heap.size) :
    Calls Tryz.prog 10 #[.slice (some ⟨I, 0, none⟩) L L, .int .i64 2048] w fun e w' => IoPost nd ks vol w e w' := by
  have HRO := Lib.hid (isoRoads_any tr I L ea w hL hb hv32 heof htabs h6)
  have hlen : (pre nd ks 7 0).length ≤ 499 := by
    have hf := tr.few
    have ht := tr.tree
    have hg := tr.good
    obtain ⟨k, rfl⟩ : ∃ k, n = k + 1 := ⟨n - 1, by have := ht.pos; omega⟩
    rw [pre_len ht hg]; omega
  have HLEN := Lib.hid hlen
  clear hb heof htabs hL hlen
  go_enter Tryz.func10, Tryz.ntmps10
  go_upto_region 2 with (first
    | (go_at_call 28
       refine HRO.out.mono ?_
       rintro e w1 ⟨fp, mb, pt, rd, xv, pv, rr, rfl, hR, hrx, hrs, hlab, hb1⟩
       have HR := Lib.hid hR
       have HRX := Lib.hid hrx
       have HRS := Lib.hid hrs
       have HLAB := Lib.hid hlab
       have HB1 := Lib.hid hb1
       obtain ⟨RC, hRC, hrv, hi4, _⟩ := roads_row fp xv
       have hall := roads_all hRC
       have HRV := Lib.hid hrv
       have HI4 := Lib.hid hi4
       have HI5 := Lib.hid (show (Tryz.prog.info? 73).map (·.size) = some RC.toArray.size by rw [hi4]; simp)
       have HSZ := Lib.hid (show RC.toArray.size = 4 by rw [hRC]; rfl)
       have HALL := Lib.hid hall
       rw [HRV.out]
       clear hR hrx hrs hlab hb1 hRC hrv hi4 hall)
    | (refine wpList_store_fresh rfl 73 (.tmp 8) (.tmp 13) rfl _ 73 RC.toArray rfl rfl HSZ.out HI5.out HALL.out ?_
       intro w2 hF
       have HF := Lib.hid hF
       clear hF))
  have hb2 := HF.out.below
  have hs2 : w1.heap.size < w2.heap.size := by rw [HF.out.size]; exact Nat.lt_succ_self _
  have hcall := opened_any (B := w1.heap.size) tr xv pv (vidOf vol) rr ea HRX.out HRS.out w2 (HR.out.below hb2) (HLAB.out.below hb2) HLEN.out
  rw [HRV.out] at hcall
  have HCALL := Lib.hid hcall
  have hrg : w2.rangeAt w1.heap.size 0 RC := HF.out.range
  have HRG := Lib.hid hrg
  have HB2 := Lib.hid hb2
  clear hb2 hcall hrg
  go_wp2_with (first
    | (refine wpList_load_mid rfl 73 (.tmp 8) rfl w1.heap.size 0 rfl RC _ HRG.out Tryz.underlying73 rfl HI4.out ?_)
    | (go_at_call 29
       refine HCALL.out.mono ?_
       rintro e w3 ⟨v, ls, rfl, hls, hown, hb3⟩
       have HLS := Lib.hid hls
       have HOWN := Lib.hid hown
       have HB3 := Lib.hid hb3
       clear hls hown hb3))
  refine bodyPost_ret (v := .tuple #[.string (vidOf vol), v, .bool true, .bool true]) (by simp [results, Tryz.results10, go_sem]) rfl ?_
  exact ⟨v, ls, rfl, HLS.out, HOWN.out.mono HB1.out.size, (HB1.out.trans (HB2.out.mono HB1.out.size)).trans (HB3.out.mono (by have := HB1.out.size; omega))⟩
set_option maxHeartbeats 4000000 in
set_option maxRecDepth 100000 in
theorem isoAt_any {n P : Nat} {D vol : Bs} {nd : Nat → Nd} {ks : Nat → List Nat} {ds : List Nat} (tr : Tr D nd ks n ds P vol) (I L y o m : Nat) (ea : Addr) (s : ByteArray) (w : World) (hL : D.length = L) (hb : Blk w I D) (hv32 : vol.length ≤ 32) (heof : EofAt w ea) (htabs : Lib.Utf8Tabs 4 5 w) (h6 : 6 ≤ w.heap.size)
    (hy1 : 1 ≤ y) (hy : y < n) (hp : s.data.toList = joinP (pth nd y)) (hfile : (nd y).f.dir = false) (ho : o ≤ 100000) (hm : m ≤ 16777216) :
    Calls Tryz.prog 14 #[.slice (some ⟨I, 0, none⟩) L L, .int .i64 2048, .string s, .int .i64 (o : Int), .int .i64 (m : Int)] w fun e w' => AtPost nd y o m w e w' := by
  have HRO := Lib.hid (isoRoads_any tr I L ea w hL hb hv32 heof htabs h6)
  have HP := Lib.hid hp
  have HFI := Lib.hid hfile
  clear hb heof htabs hL hp hfile
  go_enter Tryz.func14, Tryz.ntmps14
  go_upto_region 2 with (first
    | (go_at_call 28
       refine HRO.out.mono ?_
       rintro e w1 ⟨fp, mb, pt, rd, xv, pv, rr, rfl, hR, hrx, hrs, hlab, hb1⟩
       have HR := Lib.hid hR
       have HRX := Lib.hid hrx
       have HRS := Lib.hid hrs
       have HB1 := Lib.hid hb1
       obtain ⟨RC, hRC, hrv, hi4, _⟩ := roads_row fp xv
       have hall := roads_all hRC
       have HRV := Lib.hid hrv
       have HI4 := Lib.hid hi4
       have HI5 := Lib.hid (show (Tryz.prog.info? 73).map (·.size) = some RC.toArray.size by rw [hi4]; simp)
       have HSZ := Lib.hid (show RC.toArray.size = 4 by rw [hRC]; rfl)
       have HALL := Lib.hid hall
       rw [HRV.out]
       clear hR hrx hrs hlab hb1 hRC hrv hi4 hall)
    | (refine wpList_store_fresh rfl 73 (.tmp 12) (.tmp 17) rfl _ 73 RC.toArray rfl rfl HSZ.out HI5.out HALL.out ?_
       intro w2 hF
       have HF := Lib.hid hF
       clear hF))
  have hb2 := HF.out.below
  have hs2 : w1.heap.size < w2.heap.size := by rw [HF.out.size]; exact Nat.lt_succ_self _
  have hcall := roadsAt_any tr fp mb pt rd xv w1.heap.size y o m rr ea s w2 (HR.out.below hb2) HRX.out HRS.out hy1 hy HP.out HFI.out ho hm
  rw [HRV.out] at hcall
  have HCALL := Lib.hid hcall
  have hrg : w2.rangeAt w1.heap.size 0 RC := HF.out.range
  have HRG := Lib.hid hrg
  have HB2 := Lib.hid hb2
  clear hb2 hcall hrg
  go_wp2_with (first
    | (refine wpList_load_mid rfl 73 (.tmp 12) rfl w1.heap.size 0 rfl RC _ HRG.out Tryz.underlying73 rfl HI4.out ?_)
    | (go_at_call 31
       refine HCALL.out.mono ?_
       rintro e w3 ⟨rfl, hb3⟩
       have HB3 := Lib.hid hb3
       clear hb3))
  go_ret2
  exact ⟨rfl, (HB1.out.trans (HB2.out.mono HB1.out.size)).trans (HB3.out.mono (by have := HB1.out.size; omega))⟩

end Go.Proofs.YtfppgplboomdbaaGreatDoor
