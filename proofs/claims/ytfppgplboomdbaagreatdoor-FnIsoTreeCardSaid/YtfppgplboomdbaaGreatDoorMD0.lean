/- Part of the proofs of laws.FnIsoTree and laws.FnIsoAt: lemmas and contracts of functions that the two laws reach, each under the hypotheses that its own statement names. -/
import Derived.Test.YtfppgplboomdbaaGreatDoorMPart04
import Derived.Deep.DeepCutAuto
import Derived.Outline
namespace Go.Proofs.YtfppgplboomdbaaGreatDoor
open Go.RowKit

/-- What the nodes' numbers are within. -/
structure NdB (nd : Nat → Nd) (n : Nat) : Prop where
  ext : ∀ i, i < n → 0 ≤ (nd i).ext ∧ (nd i).ext ≤ 4294967295
  size : ∀ i, i < n → 0 ≤ (nd i).size ∧ (nd i).size ≤ 4294967295
def RecsPost (w w' : World) (nd : Nat → Nd) (ks : List Nat) (i : Nat) (e : Ending) : Prop :=
  ∃ v D, e = .returned v ∧ D.length = 2048 ∧ DirIs nd ks i D ∧ OwnS w' w.heap.size 1 v 2048 (bcs D) ∧ Below w.heap.size w w'

set_option maxHeartbeats 8000000 in
set_option maxRecDepth 100000 in
theorem isoRecords_any (g n cap : Nat) (nd : Nat → Nd) (ks : Nat → List Nat) (kv : Nat → Value) (w : World) (B i : Nat) (area : Int) (hown : OwnS w B 18 (.slice (some ⟨g, 0, none⟩) n cap) n (nodesL nd kv n)) (hkids : KidsOwn w B g n ks kv) (ht : Tree nd ks n) (hi : i < n) (hN : NdB nd n) (hid : ∀ k ∈ ks i, 1 ≤ (nd k).id.size ∧ (nd k).id.size ≤ 14) (hfew : (ks i).length ≤ 40) :
    Calls Tryz.prog 25 #[.slice (some ⟨g, 0, none⟩) n cap, .int .i64 i, .bool false, .int .u32 area] w fun e w' => RecsPost w w' nd (ks i) i e := by
  have HO := Lib.hid hown
  have HK := Lib.hid hkids
  have HT := Lib.hid ht
  have hg := hown.lt.1
  have hpn : (nd i).parent < n := by
    rcases Nat.eq_zero_or_pos i with rfl | h0
    · rw [ht.par0]; exact ht.pos
    · have := (ht.par i h0 hi).1; omega
  have hn := ht.le
  have hiz : (i : Int) < n := by omega
  have hpz : ((nd i).parent : Int) < n := by omega
  clear hown hkids ht
  go_enter Tryz.func25, Tryz.ntmps25
  go_upto_region 4 with (fail)
  generalize hw2 : (w.alloc (.cells #[.int .u32 area] 36)).alloc (.cells #[.slice none 0 0] 26) = w2
  have hO2 : OwnS w2 B 18 (.slice (some ⟨g, 0, none⟩) n cap) n (nodesL nd kv n) := by rw [← hw2]; exact (HO.out.alloc _).alloc _
  have hg2 := hO2.lt.1
  have HW2 := Lib.hid hw2
  clear hw2
  have R0 := Lib.hid (hO2.node hi)
  have R1 := Lib.hid (hO2.node hpn)
  have hcp : w2.cell? ⟨g, i * 18 + 9, none⟩ = some (.int .i64 (nd i).parent) := hO2.node hi 9 _ rfl
  have HO2 := Lib.hid hO2
  clear hO2
  have hu61 := Tryz.underlying61
  have hi61 : ∀ (d : Nd) (v : Value), (Tryz.prog.info? 61).map (·.size) = some (ncells d v).length := fun _ _ => rfl
  have hia := hi61 (nd i) (kv i)
  have hib := hi61 (nd (nd i).parent) (kv (nd i).parent)
  have hla : (ncells (nd i) (kv i)).length = 18 := rfl
  have hlb : (ncells (nd (nd i).parent) (kv (nd i).parent)).length = 18 := rfl
  clear hi61
  have h1a := ncells_one (nd i) (kv i) (HK.out.own i hi).one
  have h1b := ncells_one (nd (nd i).parent) (kv (nd i).parent) (HK.out.own _ hpn).one
  generalize hca : ncells (nd i) (kv i) = ca at *
  generalize hcb : ncells (nd (nd i).parent) (kv (nd i).parent) = cb at *
  have HCA := Lib.hid hca
  have HCB := Lib.hid hcb
  clear hca hcb
  have r0 := R0.out
  have r1 := R1.out
  go_cut [12, 13] from 21 to 32 (fun t12 t13 wx => Two w2.drew ca cb t12 t13 wx)
  case first =>
    refine wp_region_noPanic ?_
    refine wp_region_held_drew (S := Held2 g i (nd i).parent ca cb (.int .i64 (nd i).parent)) (by kernel_rfl) ⟨r0, r1, hcp⟩ (fun hS0 => ?_)
    refine hTake (i := 0) (v := ?_) (some 21) rfl rfl (by kernel_rfl) (by kernel_rfl) (by kernel_rfl) (fun _ _ _ h => h) (Or.inl ⟨by rfl, ?hy0⟩) hS0 ?hr0
    case hy0 => (intro w' hSw; have hSx := hSw.2.2; clear hSw; go_simp; try with_reducible rfl)
    simp only [Act.put, List.setIfInBounds_toArray, List.set_cons_zero, List.set_cons_succ]
    refine hTake (i := 1) (v := ?_) (some 22) rfl rfl (by kernel_rfl) (by kernel_rfl) (by kernel_rfl) (fun _ _ _ h => h) (Or.inl ⟨by rfl, ?hy1⟩) hS0 ?hr1
    case hy1 => (intro w' hSw; have hSx := hSw.2.2; clear hSw; go_simp; try with_reducible rfl)
    simp only [Act.put, List.setIfInBounds_toArray, List.set_cons_zero, List.set_cons_succ]
    refine hTake (i := 2) (v := ?_) (some 23) rfl rfl (by kernel_rfl) (by kernel_rfl) (by kernel_rfl) (fun _ _ _ h => h) (Or.inl ⟨by rfl, ?hy2⟩) hS0 ?hr2
    case hy2 => (intro w' hSw; have hSx := hSw.2.2; clear hSw; go_simp; try with_reducible rfl)
    simp only [Act.put, List.setIfInBounds_toArray, List.set_cons_zero, List.set_cons_succ]
    refine hTake (i := 3) (v := _) (some 24) rfl rfl (by kernel_rfl) (by kernel_rfl) (by kernel_rfl) (fun _ _ _ h => h) (yieldsIf_load_mid (by rfl) _ _ rfl g (i * 18) rfl ca _ (fun w' h => h.1) hu61 rfl hia) hS0 ?_
    simp only [Act.put, List.setIfInBounds_toArray, List.set_cons_zero, List.set_cons_succ]
    refine hTake (i := 4) (v := ?_) (some 25) rfl rfl (by kernel_rfl) (by kernel_rfl) (by kernel_rfl) (fun _ _ _ h => h) (Or.inl ⟨by rfl, ?hy4⟩) hS0 ?hr4
    case hy4 => (intro w' hSw; have hSx := hSw.2.2; clear hSw; go_simp; try with_reducible rfl)
    simp only [Act.put, List.setIfInBounds_toArray, List.set_cons_zero, List.set_cons_succ]
    refine hTake (i := 5) (v := ?_) (some 26) rfl rfl (by kernel_rfl) (by kernel_rfl) (by kernel_rfl) (fun _ _ _ h => h) (Or.inl ⟨by rfl, ?hy5⟩) hS0 ?hr5
    case hy5 => (intro w' hSw; have hSx := hSw.2.2; clear hSw; go_simp; try with_reducible rfl)
    simp only [Act.put, List.setIfInBounds_toArray, List.set_cons_zero, List.set_cons_succ]
    refine hTake (i := 6) (v := ?_) (some 27) rfl rfl (by kernel_rfl) (by kernel_rfl) (by kernel_rfl) (fun _ _ _ h => h) (Or.inl ⟨by rfl, ?hy6⟩) hS0 ?hr6
    case hy6 => (intro w' hSw; have hSx := hSw.2.2; clear hSw; go_simp; try with_reducible rfl)
    simp only [Act.put, List.setIfInBounds_toArray, List.set_cons_zero, List.set_cons_succ]
    refine hTake (i := 7) (v := ?_) (some 28) rfl rfl (by kernel_rfl) (by kernel_rfl) (by kernel_rfl) (fun _ _ _ h => h) (Or.inl ⟨by rfl, ?hy7⟩) hS0 ?hr7
    case hy7 => (intro w' hSw; have hSx := hSw.2.2; clear hSw; go_simp; try with_reducible rfl)
    simp only [Act.put, List.setIfInBounds_toArray, List.set_cons_zero, List.set_cons_succ]
    refine hTake (i := 8) (v := ?_) (some 29) rfl rfl (by kernel_rfl) (by kernel_rfl) (by kernel_rfl) (fun _ _ _ h => h) (Or.inl ⟨by rfl, ?hy8⟩) hS0 ?hr8
    case hy8 => (intro w' hSw; have hSx := hSw.2.2; clear hSw; go_simp; try with_reducible rfl)
    simp only [Act.put, List.setIfInBounds_toArray, List.set_cons_zero, List.set_cons_succ]
    refine hTake (i := 9) (v := ?_) (some 30) rfl rfl (by kernel_rfl) (by kernel_rfl) (by kernel_rfl) (fun _ _ _ h => h) (Or.inl ⟨by rfl, ?hy9⟩) hS0 ?hr9
    case hy9 => (intro w' hSw; have hSx := hSw.2.2; clear hSw; go_simp; try with_reducible rfl)
    simp only [Act.put, List.setIfInBounds_toArray, List.set_cons_zero, List.set_cons_succ]
    refine hTake (i := 10) (v := ?_) (some 31) rfl rfl (by kernel_rfl) (by kernel_rfl) (by kernel_rfl) (fun _ _ _ h => h) (Or.inl ⟨by rfl, ?hy10⟩) hS0 ?hr10
    case hy10 => (intro w' hSw; have hSx := hSw.2.2; clear hSw; go_simp; try with_reducible rfl)
    simp only [Act.put, List.setIfInBounds_toArray, List.set_cons_zero, List.set_cons_succ]
    refine hTake (i := 11) (v := _) (some 32) rfl rfl (by kernel_rfl) (by kernel_rfl) (by kernel_rfl) (fun _ _ _ h => h) (yieldsIf_load_mid (by rfl) _ _ rfl g ((nd i).parent * 18) rfl cb _ (fun w' h => h.2.1) hu61 rfl hib) hS0 ?_
    simp only [Act.put, List.setIfInBounds_toArray, List.set_cons_zero, List.set_cons_succ]
    have hz61 : ∀ w : World, (Instr.alloc 61 true (.tuple #[])).run Tryz.prog w = .ok (.pointer (some ⟨w.heap.size, 0, none⟩)) (w.alloc (.cells Zc 61)) := fun _ => by kernel_rfl
    have hga : g ≠ w2.drew.heap.size := by show g ≠ w2.heap.size; omega
    have hgb : g ≠ (w2.drew.alloc (Obj.cells Zc 61)).heap.size := by (have h9 : (w2.drew.alloc (Obj.cells Zc 61)).heap.size = w2.heap.size + 1 := by simp); omega
    refine wpAnyH_all (rs := [12, 13]) (by kernel_rfl) (by simp) (rows2 ?o1 ?o2)
    case o1 =>
      refine hAlloc (some 12) 61 Zc rfl rfl rfl rfl hz61 ⟨hS0.alloc _, ?_⟩
      simp only [Act.put, List.setIfInBounds_toArray, List.set_cons_zero, List.set_cons_succ]
      refine wpAnyH_all (rs := [13]) (by kernel_rfl) (by simp) (rows1 ?_)
      refine hAlloc (some 13) 61 Zc rfl rfl rfl rfl hz61 ⟨(hS0.alloc _).alloc _, ?_⟩
      simp only [Act.put, List.setIfInBounds_toArray, List.set_cons_zero, List.set_cons_succ]
      refine wpAnyH_all (rs := [14]) (by kernel_rfl) (by simp) (rows1 ?_)
      refine hStoreRow 61 (.tmp 12) (.tmp 24) rfl rfl rfl rfl (w2.drew.heap.size) ca.toArray rfl rfl (by (have e : ca.toArray.size = 18 := hla); rw [e]; exact two_there1 _) hia h1a (fun w5 h5 => ⟨((hS0.alloc _).alloc _).left h5 hga, ?_⟩)
      refine wpAnyH_all (rs := [15]) (by kernel_rfl) (by simp) (rows1 ?_)
      refine hStoreRow 61 (.tmp 13) (.tmp 32) rfl rfl rfl rfl ((w2.drew.alloc (Obj.cells Zc 61)).heap.size) cb.toArray rfl rfl (by (have e : cb.toArray.size = 18 := hlb); rw [e]; exact two_there2 h5) hib h1b (fun w6 h6 => ⟨(((hS0.alloc _).alloc _).left h5 hga).left h6 hgb, ?_⟩)
      refine wpAnyH_done (by kernel_rfl) ?_ _
      refine NoPanic.normal ?_
      have H2 : Two w2.drew ca cb _ _ w6 := two_a h5 h6
      go_wp2_with fail
      go_meet
      exact (by simpa using H2)
    case o2 =>
      refine hAlloc (some 13) 61 Zc rfl rfl rfl rfl hz61 ⟨hS0.alloc _, ?_⟩
      simp only [Act.put, List.setIfInBounds_toArray, List.set_cons_zero, List.set_cons_succ]
      refine wpAnyH_all (rs := [12]) (by kernel_rfl) (by simp) (rows1 ?_)
      refine hAlloc (some 12) 61 Zc rfl rfl rfl rfl hz61 ⟨(hS0.alloc _).alloc _, ?_⟩
      simp only [Act.put, List.setIfInBounds_toArray, List.set_cons_zero, List.set_cons_succ]
      refine wpAnyH_all (rs := [14]) (by kernel_rfl) (by simp) (rows1 ?_)
      refine hStoreRow 61 (.tmp 12) (.tmp 24) rfl rfl rfl rfl ((w2.drew.alloc (Obj.cells Zc 61)).heap.size) ca.toArray rfl rfl (by (have e : ca.toArray.size = 18 := hla); rw [e]; exact there_alloc_new _ Zc 61 18 rfl) hia h1a (fun w5 h5 => ⟨((hS0.alloc _).alloc _).left h5 hgb, ?_⟩)
      refine wpAnyH_all (rs := [15]) (by kernel_rfl) (by simp) (rows1 ?_)
      refine hStoreRow 61 (.tmp 13) (.tmp 32) rfl rfl rfl rfl (w2.drew.heap.size) cb.toArray rfl rfl (by (have e : cb.toArray.size = 18 := hlb); rw [e]; exact two_there3 h5) hib h1b (fun w6 h6 => ⟨(((hS0.alloc _).alloc _).left h5 hgb).left h6 hga, ?_⟩)
      refine wpAnyH_done (by kernel_rfl) ?_ _
      refine NoPanic.normal ?_
      have H2 : Two w2.drew ca cb _ _ w6 := two_b h5 h6
      go_wp2_with fail
      go_meet
      exact (by simpa using H2)

  case rest =>
    obtain ⟨bm, bu, rfl, rfl, hm, hu, hms, hus, hrm, hru, hbx⟩ := hcut
    have hbx2 : Below w2.heap.size w2 wc := below_of_drew hbx
    have hb0 : Below w.heap.size w w2 := by rw [← HW2.out]; exact ((Below.refl _ _).alloc (Nat.le_refl _) _).alloc (by simp) _
    have hsz2 : w2.heap.size = w.heap.size + 2 := by rw [← HW2.out]; simp
    have hb1 : Below w.heap.size w wc := hb0.trans (hbx2.mono (by omega))
    have hwc := hbx2.size
    have hov : OutG wc wc.heap.size (w.heap.size + 1) [] := by
      refine ⟨⟨.slice none 0 0, ?_, OwnS.nil _ _ _⟩, ?_, by omega, Nat.le_refl _⟩
      · rw [hbx2.cell (p := ⟨w.heap.size + 1, 0, none⟩) (by show w.heap.size + 1 < _; omega), ← HW2.out]
        simp
      · rw [World.frozen?_of_block (w := w2) (a := ⟨w.heap.size + 1, 0, none⟩) (hbx2.block _ (by show w.heap.size + 1 < w2.heap.size; omega)), ← HW2.out]
        simp
    have m7 : wc.cell? ⟨bm, 7, none⟩ = some (.int .i64 (nd i).f.time) := by (have h := hrm 7 _ (by rw [← HCA.out]; rfl)); simpa using h
    have m10 : wc.cell? ⟨bm, 10, none⟩ = some (kv i) := by (have h := hrm 10 _ (by rw [← HCA.out]; rfl)); simpa using h
    have m11 : wc.cell? ⟨bm, 11, none⟩ = some (.int .u32 (nd i).ext) := by (have h := hrm 11 _ (by rw [← HCA.out]; rfl)); simpa using h
    have m12 : wc.cell? ⟨bm, 12, none⟩ = some (.int .u32 (nd i).size) := by (have h := hrm 12 _ (by rw [← HCA.out]; rfl)); simpa using h
    have q7 : wc.cell? ⟨bu, 7, none⟩ = some (.int .i64 (nd (nd i).parent).f.time) := by (have h := hru 7 _ (by rw [← HCB.out]; rfl)); simpa using h
    have q11 : wc.cell? ⟨bu, 11, none⟩ = some (.int .u32 (nd (nd i).parent).ext) := by (have h := hru 11 _ (by rw [← HCB.out]; rfl)); simpa using h
    have q12 : wc.cell? ⟨bu, 12, none⟩ = some (.int .u32 (nd (nd i).parent).size) := by (have h := hru 12 _ (by rw [← HCB.out]; rfl)); simpa using h
    obtain ⟨adk, capk, hki⟩ := (HK.out.own i hi).slice
    generalize hML : (ks i).length = M at hki hfew
    rw [hki] at m10
    have HKI := Lib.hid hki
    have HML := Lib.hid hML
    have HOV := Lib.hid hov
    have HB1 := Lib.hid hb1
    have HBX := Lib.hid hbx2
    have HID := Lib.hid hid
    clear hov hb1 hbx hbx2 hrm hru hb0 hki hML hid
    have HN := Lib.hid hN
    clear hN
    go_upto_region 14 with (first
      | (go_at_call 44
         refine (isoRecord_any _ _ _ _ _ _ _ _ 34 rfl (by decide) (by decide) (HN.out.ext i hi).1 (HN.out.ext i hi).2 (HN.out.size i hi).1 (HN.out.size i hi).2).mono ?_
         rintro e w4 ⟨rfl, ⟨tm0, htm, hblk⟩, hb4⟩
         have HB4 := Lib.hid hb4
         have HBL := Lib.hid hblk
         have HTM0 := Lib.hid htm
         clear hb4 hblk htm)
      | (go_at_call 41
         refine (isoRecords1_g wc.heap.size (w.heap.size + 1) [] (recL [0] (nd i).ext (nd i).size tm0 true) _ _ 34 _ (by rw [recD_len _ _ _ _ _ HTM0.out]; rfl) (by decide) (by simp) (rec_out HOV.out HB4.out) (by simpa using HBL.out)).mono ?_
         rintro e w5 ⟨rfl, ho5, hb5⟩
         have HO5 := Lib.hid ho5
         have HB5 := Lib.hid (rec_but HB4.out hb5)
         clear ho5 hb5))
    have hm2 : w2.heap.size ≤ bm := hm
    have hu2 : w2.heap.size ≤ bu := hu
    have hg5 : g ≠ w.heap.size + 1 := by omega
    have q5 := HB5.out
    have hw5 := q5.size
    replace q7 := (q5.cell (o := 7) hus (by omega)).trans q7
    replace q11 := (q5.cell (o := 11) hus (by omega)).trans q11
    replace q12 := (q5.cell (o := 12) hus (by omega)).trans q12
    replace m10 := (q5.cell (o := 10) hms (by omega)).trans m10
    have m10c := (HB5.out.cell (o := 10) hms (by omega)).symm.trans m10
    clear q5 m7 m11 m12
    have HPN := Lib.hid hpn
    go_upto_region 15 with (first
      | (go_at_call 44
         refine (isoRecord_any _ _ _ _ _ _ _ _ 34 rfl (by decide) (by decide) (HN.out.ext _ HPN.out).1 (HN.out.ext _ HPN.out).2 (HN.out.size _ HPN.out).1 (HN.out.size _ HPN.out).2).mono ?_
         rintro e w6 ⟨rfl, ⟨tm1, htm, hblk⟩, hb6⟩
         have HB6 := Lib.hid hb6
         have HBL1 := Lib.hid hblk
         have HTM1 := Lib.hid htm
         clear hb6 hblk htm)
      | (go_at_call 41
         refine (isoRecords1_g wc.heap.size (w.heap.size + 1) _ (recL [1] (nd (nd i).parent).ext (nd (nd i).parent).size tm1 true) _ _ 34 _ (by rw [recD_len _ _ _ _ _ HTM1.out]; rfl) (by decide) (by rw [List.nil_append, recD_len _ _ _ _ _ HTM0.out]; decide) (HO5.out.below HB6.out) (by simpa using HBL1.out)).mono ?_
         rintro e w7 ⟨rfl, ho7, hb7⟩
         have HO7 := Lib.hid ho7
         have HB7 := Lib.hid (HB5.out.trans ((But.of (HB6.out.mono hw5)).trans hb7))
         clear ho7 hb7))
    replace m10 := (HB6.out.cell (p := ⟨bm, 10, none⟩) (by show bm < _; omega)).trans m10
    have hw7 := HB7.out.size
    have m10' : w7.cell? ⟨bm, 10, none⟩ = some (.slice adk M capk) := by
      rw [HB7.out.cell (o := 10) hms (by omega)]; exact m10c
    clear q7 q11 q12 m10
    have hov7 : OutG w7 wc.heap.size (w.heap.size + 1) (recsB [⟨[0], (nd i).ext, (nd i).size, tm0, true⟩, ⟨[1], (nd (nd i).parent).ext, (nd (nd i).parent).size, tm1, true⟩]) := by
      have h := HO7.out
      rw [recL_eq _ _ _ _ _ HTM0.out, recL_eq _ _ _ _ _ HTM1.out] at h
      simpa [recsB, recB] using h
    have HOV7 := Lib.hid hov7
    clear hov7
    have e68 : (recsB [⟨[0], (nd i).ext, (nd i).size, tm0, true⟩, ⟨[1], (nd (nd i).parent).ext, (nd (nd i).parent).size, tm1, true⟩]).length = 68 := by
      simp [recsB, recB, recC_len _ _ _ _ _ HTM0.out, recC_len _ _ _ _ _ HTM1.out]
    have HE68 := Lib.hid e68
    clear e68
    generalize hr01 : ([⟨[0], (nd i).ext, (nd i).size, tm0, true⟩, ⟨[1], (nd (nd i).parent).ext, (nd (nd i).parent).size, tm1, true⟩] : List RecE) = r01 at HOV7 HE68
    have HR01 := Lib.hid hr01
    clear hr01
    go_wp2
    go_loopw [91] (fun iv wr => ∃ (k : Nat) (rs : List RecE), k ≤ M ∧ iv = .int .i64 k ∧ RecsIs nd ((ks i).take k) rs ∧ OutG wr wc.heap.size (w.heap.size + 1) (recsB r01 ++ recsB rs) ∧ But wc.heap.size (w.heap.size + 1) wc wr) (fun iv _ => M - (intOf iv).toNat)
    case atStart => exact ⟨0, [], Nat.zero_le _, rfl, by simp [RecsIs], by simpa [recsB] using HOV7.out, HB7.out⟩
    case round =>
      obtain ⟨k, rs, hk, rfl, hri, hog, hbt⟩ := hrel
      have hwr := hbt.size
      by_cases hlt : k < M
      · obtain ⟨x, hx⟩ : ∃ x, (ks i)[k]? = some x := ⟨(ks i)[k]'(by rw [HML.out]; exact hlt), List.getElem?_eq_getElem _⟩
        have hxk : x ∈ ks i := List.mem_of_getElem? hx
        have hxn : x < n := ((HT.out.mem i hi x).1 hxk).2.1
        have hgk : ∃ gk, adk = some ⟨gk, 0, none⟩ ∧ gk < w.heap.size ∧ w.cell? ⟨gk, k, none⟩ = some (.int .i64 x) := by
          have h := HK.out.own i hi
          rw [HKI.out, HML.out] at h
          obtain ⟨gk, ck, e⟩ := h.pos (by omega)
          cases e
          exact ⟨gk, rfl, h.lt.1, h.cell (by rw [List.getElem?_map, hx]; rfl)⟩
        obtain ⟨gk, rfl, hgkl, hgkc⟩ := hgk
        have ek := hbt.old (b := gk) HB1.out hgkl (by omega) (by omega)
        have hck : wr.cell? ⟨gk, k, none⟩ = some (.int .i64 x) := (World.cell?_of_block ek).trans hgkc
        clear ek
        have hrow : wr.rangeAt g (x * 18) (ncells (nd x) (kv x)) := rangeAt_same (HO.out.node hxn) (hbt.old HB1.out hg (by omega) (by omega))
        have hxz : (x : Int) < n := by omega
        have HROW := Lib.hid hrow
        have HRI := Lib.hid hri
        have HOG := Lib.hid hog
        have HBT := Lib.hid hbt
        have HX := Lib.hid hx
        have HXK := Lib.hid hxk
        have HXN := Lib.hid hxn
        clear hrow hri hog hbt hx hxk hgkc hxn
        go_wp2
        refine wp_region_noPanic ?_
        refine wp_region_held_drew (S := fun w' => w'.rangeAt g (x * 18) (ncells (nd x) (kv x))) (by kernel_rfl) HROW.out (fun hS0 => ?_)
        refine hTake (i := 0) (v := ?_) (some 95) rfl rfl (by kernel_rfl) (by kernel_rfl) (by kernel_rfl) (fun _ _ _ h => h) (Or.inl ⟨by rfl, ?hy18x0⟩) hS0 ?hr18x0
        case hy18x0 => (intro w' hSw; clear hSw; go_simp; try with_reducible rfl)
        try simp only [Act.put, List.setIfInBounds_toArray, List.set_cons_zero, List.set_cons_succ]
        refine hTake (i := 1) (v := ?_) (some 96) rfl rfl (by kernel_rfl) (by kernel_rfl) (by kernel_rfl) (fun _ _ _ h => h) (Or.inl ⟨by rfl, ?hy18x1⟩) hS0 ?hr18x1
        case hy18x1 => (intro w' hSw; clear hSw; go_simp; try with_reducible rfl)
        try simp only [Act.put, List.setIfInBounds_toArray, List.set_cons_zero, List.set_cons_succ]
        refine hTake (i := 2) (v := ?_) (some 97) rfl rfl (by kernel_rfl) (by kernel_rfl) (by kernel_rfl) (fun _ _ _ h => h) (Or.inl ⟨by rfl, ?hy18x2⟩) hS0 ?hr18x2
        case hy18x2 => (intro w' hSw; clear hSw; go_simp; try with_reducible rfl)
        try simp only [Act.put, List.setIfInBounds_toArray, List.set_cons_zero, List.set_cons_succ]
        refine hTake (i := 3) (v := ?_) (some 98) rfl rfl (by kernel_rfl) (by kernel_rfl) (by kernel_rfl) (fun _ _ _ h => h) (Or.inl ⟨by rfl, ?hy18x3⟩) hS0 ?hr18x3
        case hy18x3 => (intro w' hSw; clear hSw; go_simp; try with_reducible rfl)
        try simp only [Act.put, List.setIfInBounds_toArray, List.set_cons_zero, List.set_cons_succ]
        refine hTake (i := 4) (v := ?_) (some 99) rfl rfl (by kernel_rfl) (by kernel_rfl) (by kernel_rfl) (fun _ _ _ h => h) (Or.inl ⟨by rfl, ?hy18x4⟩) hS0 ?hr18x4
        case hy18x4 => (intro w' hSw; clear hSw; go_simp; try with_reducible rfl)
        try simp only [Act.put, List.setIfInBounds_toArray, List.set_cons_zero, List.set_cons_succ]
        refine hTake (i := 5) (v := ?_) (some 100) rfl rfl (by kernel_rfl) (by kernel_rfl) (by kernel_rfl) (fun _ _ _ h => h) (Or.inl ⟨by rfl, ?hy18x5⟩) hS0 ?hr18x5
        case hy18x5 => (intro w' hSw; have hSx := hSw 8 _ rfl; clear hSw; go_simp; try with_reducible rfl)
        try simp only [Act.put, List.setIfInBounds_toArray, List.set_cons_zero, List.set_cons_succ]
        refine hTake (i := 6) (v := ?_) (some 101) rfl rfl (by kernel_rfl) (by kernel_rfl) (by kernel_rfl) (fun _ _ _ h => h) (Or.inl ⟨by rfl, ?hy18x6⟩) hS0 ?hr18x6
        case hy18x6 => (intro w' hSw; clear hSw; go_simp; try with_reducible rfl)
        try simp only [Act.put, List.setIfInBounds_toArray, List.set_cons_zero, List.set_cons_succ]
        refine hTake (i := 7) (v := ?_) (some 102) rfl rfl (by kernel_rfl) (by kernel_rfl) (by kernel_rfl) (fun _ _ _ h => h) (Or.inl ⟨by rfl, ?hy18x7⟩) hS0 ?hr18x7
        case hy18x7 => (intro w' hSw; clear hSw; go_simp; try with_reducible rfl)
        try simp only [Act.put, List.setIfInBounds_toArray, List.set_cons_zero, List.set_cons_succ]
        refine hTake (i := 8) (v := ?_) (some 103) rfl rfl (by kernel_rfl) (by kernel_rfl) (by kernel_rfl) (fun _ _ _ h => h) (Or.inl ⟨by rfl, ?hy18x8⟩) hS0 ?hr18x8
        case hy18x8 => (intro w' hSw; clear hSw; go_simp; try with_reducible rfl)
        try simp only [Act.put, List.setIfInBounds_toArray, List.set_cons_zero, List.set_cons_succ]
        refine hTake (i := 9) (v := ?_) (some 104) rfl rfl (by kernel_rfl) (by kernel_rfl) (by kernel_rfl) (fun _ _ _ h => h) (Or.inl ⟨by rfl, ?hy18x9⟩) hS0 ?hr18x9
        case hy18x9 => (intro w' hSw; clear hSw; go_simp; try with_reducible rfl)
        try simp only [Act.put, List.setIfInBounds_toArray, List.set_cons_zero, List.set_cons_succ]
        refine hTake (i := 10) (v := ?_) (some 105) rfl rfl (by kernel_rfl) (by kernel_rfl) (by kernel_rfl) (fun _ _ _ h => h) (Or.inl ⟨by rfl, ?hy18x10⟩) hS0 ?hr18x10
        case hy18x10 => (intro w' hSw; have hSx := hSw 11 _ rfl; clear hSw; go_simp; try with_reducible rfl)
        try simp only [Act.put, List.setIfInBounds_toArray, List.set_cons_zero, List.set_cons_succ]
        refine hTake (i := 11) (v := ?_) (some 106) rfl rfl (by kernel_rfl) (by kernel_rfl) (by kernel_rfl) (fun _ _ _ h => h) (Or.inl ⟨by rfl, ?hy18x11⟩) hS0 ?hr18x11
        case hy18x11 => (intro w' hSw; clear hSw; go_simp; try with_reducible rfl)
        try simp only [Act.put, List.setIfInBounds_toArray, List.set_cons_zero, List.set_cons_succ]
        refine hTake (i := 12) (v := ?_) (some 107) rfl rfl (by kernel_rfl) (by kernel_rfl) (by kernel_rfl) (fun _ _ _ h => h) (Or.inl ⟨by rfl, ?hy18x12⟩) hS0 ?hr18x12
        case hy18x12 => (intro w' hSw; clear hSw; go_simp; try with_reducible rfl)
        try simp only [Act.put, List.setIfInBounds_toArray, List.set_cons_zero, List.set_cons_succ]
        refine hTake (i := 13) (v := ?_) (some 108) rfl rfl (by kernel_rfl) (by kernel_rfl) (by kernel_rfl) (fun _ _ _ h => h) (Or.inl ⟨by rfl, ?hy18x13⟩) hS0 ?hr18x13
        case hy18x13 => (intro w' hSw; clear hSw; go_simp; try with_reducible rfl)
        try simp only [Act.put, List.setIfInBounds_toArray, List.set_cons_zero, List.set_cons_succ]
        refine hTake (i := 14) (v := ?_) (some 109) rfl rfl (by kernel_rfl) (by kernel_rfl) (by kernel_rfl) (fun _ _ _ h => h) (Or.inl ⟨by rfl, ?hy18x14⟩) hS0 ?hr18x14
        case hy18x14 => (intro w' hSw; clear hSw; go_simp; try with_reducible rfl)
        try simp only [Act.put, List.setIfInBounds_toArray, List.set_cons_zero, List.set_cons_succ]
        refine hTake (i := 15) (v := ?_) (some 110) rfl rfl (by kernel_rfl) (by kernel_rfl) (by kernel_rfl) (fun _ _ _ h => h) (Or.inl ⟨by rfl, ?hy18x15⟩) hS0 ?hr18x15
        case hy18x15 => (intro w' hSw; have hSx := hSw 12 _ rfl; clear hSw; go_simp; try with_reducible rfl)
        try simp only [Act.put, List.setIfInBounds_toArray, List.set_cons_zero, List.set_cons_succ]
        refine hTake (i := 16) (v := ?_) (some 111) rfl rfl (by kernel_rfl) (by kernel_rfl) (by kernel_rfl) (fun _ _ _ h => h) (Or.inl ⟨by rfl, ?hy18x16⟩) hS0 ?hr18x16
        case hy18x16 => (intro w' hSw; clear hSw; go_simp; try with_reducible rfl)
        try simp only [Act.put, List.setIfInBounds_toArray, List.set_cons_zero, List.set_cons_succ]
        refine hTake (i := 17) (v := ?_) (some 112) rfl rfl (by kernel_rfl) (by kernel_rfl) (by kernel_rfl) (fun _ _ _ h => h) (Or.inl ⟨by rfl, ?hy18x17⟩) hS0 ?hr18x17
        case hy18x17 => (intro w' hSw; clear hSw; go_simp; try with_reducible rfl)
        try simp only [Act.put, List.setIfInBounds_toArray, List.set_cons_zero, List.set_cons_succ]
        refine hTake (i := 18) (v := ?_) (some 113) rfl rfl (by kernel_rfl) (by kernel_rfl) (by kernel_rfl) (fun _ _ _ h => h) (Or.inl ⟨by rfl, ?hy18x18⟩) hS0 ?hr18x18
        case hy18x18 => (intro w' hSw; clear hSw; go_simp; try with_reducible rfl)
        try simp only [Act.put, List.setIfInBounds_toArray, List.set_cons_zero, List.set_cons_succ]
        refine hTake (i := 19) (v := ?_) (some 114) rfl rfl (by kernel_rfl) (by kernel_rfl) (by kernel_rfl) (fun _ _ _ h => h) (Or.inl ⟨by rfl, ?hy18x19⟩) hS0 ?hr18x19
        case hy18x19 => (intro w' hSw; clear hSw; go_simp; try with_reducible rfl)
        try simp only [Act.put, List.setIfInBounds_toArray, List.set_cons_zero, List.set_cons_succ]
        refine hTake (i := 20) (v := ?_) (some 115) rfl rfl (by kernel_rfl) (by kernel_rfl) (by kernel_rfl) (fun _ _ _ h => h) (Or.inl ⟨by rfl, ?hy18x20⟩) hS0 ?hr18x20
        case hy18x20 => (intro w' hSw; clear hSw; go_simp; try with_reducible rfl)
        try simp only [Act.put, List.setIfInBounds_toArray, List.set_cons_zero, List.set_cons_succ]
        refine hTake (i := 21) (v := ?_) (some 116) rfl rfl (by kernel_rfl) (by kernel_rfl) (by kernel_rfl) (fun _ _ _ h => h) (Or.inl ⟨by rfl, ?hy18x21⟩) hS0 ?hr18x21
        case hy18x21 => (intro w' hSw; have hSx := hSw 7 _ rfl; clear hSw; go_simp; try with_reducible rfl)
        try simp only [Act.put, List.setIfInBounds_toArray, List.set_cons_zero, List.set_cons_succ]
        refine hTake (i := 22) (v := ?_) (some 117) rfl rfl (by kernel_rfl) (by kernel_rfl) (by kernel_rfl) (fun _ _ _ h => h) (Or.inl ⟨by rfl, ?hy18x22⟩) hS0 ?hr18x22
        case hy18x22 => (intro w' hSw; clear hSw; go_simp; try with_reducible rfl)
        try simp only [Act.put, List.setIfInBounds_toArray, List.set_cons_zero, List.set_cons_succ]
        refine hTake (i := 23) (v := ?_) (some 118) rfl rfl (by kernel_rfl) (by kernel_rfl) (by kernel_rfl) (fun _ _ _ h => h) (Or.inl ⟨by rfl, ?hy18x23⟩) hS0 ?hr18x23
        case hy18x23 => (intro w' hSw; clear hSw; go_simp; try with_reducible rfl)
        try simp only [Act.put, List.setIfInBounds_toArray, List.set_cons_zero, List.set_cons_succ]
        refine hTake (i := 24) (v := ?_) (some 119) rfl rfl (by kernel_rfl) (by kernel_rfl) (by kernel_rfl) (fun _ _ _ h => h) (Or.inl ⟨by rfl, ?hy18x24⟩) hS0 ?hr18x24
        case hy18x24 => (intro w' hSw; clear hSw; go_simp; try with_reducible rfl)
        try simp only [Act.put, List.setIfInBounds_toArray, List.set_cons_zero, List.set_cons_succ]
        refine hTake (i := 25) (v := ?_) (some 120) rfl rfl (by kernel_rfl) (by kernel_rfl) (by kernel_rfl) (fun _ _ _ h => h) (Or.inl ⟨by rfl, ?hy18x25⟩) hS0 ?hr18x25
        case hy18x25 => (intro w' hSw; clear hSw; go_simp; try with_reducible rfl)
        try simp only [Act.put, List.setIfInBounds_toArray, List.set_cons_zero, List.set_cons_succ]
        refine hTake (i := 26) (v := ?_) (some 121) rfl rfl (by kernel_rfl) (by kernel_rfl) (by kernel_rfl) (fun _ _ _ h => h) (Or.inl ⟨by rfl, ?hy18x26⟩) hS0 ?hr18x26
        case hy18x26 => (intro w' hSw; clear hSw; go_simp; try with_reducible rfl)
        try simp only [Act.put, List.setIfInBounds_toArray, List.set_cons_zero, List.set_cons_succ]
        refine hTake (i := 27) (v := ?_) (some 122) rfl rfl (by kernel_rfl) (by kernel_rfl) (by kernel_rfl) (fun _ _ _ h => h) (Or.inl ⟨by rfl, ?hy18x27⟩) hS0 ?hr18x27
        case hy18x27 => (intro w' hSw; have hSx := hSw 1 _ rfl; clear hSw; go_simp; try with_reducible rfl)
        try simp only [Act.put, List.setIfInBounds_toArray, List.set_cons_zero, List.set_cons_succ]
        refine hTake (i := 28) (v := ?_) (some 123) rfl rfl (by kernel_rfl) (by kernel_rfl) (by kernel_rfl) (fun _ _ _ h => h) (Or.inl ⟨by rfl, ?hy18x28⟩) hS0 ?hr18x28
        case hy18x28 => (intro w' hSw; clear hSw; go_simp; try with_reducible rfl)
        try simp only [Act.put, List.setIfInBounds_toArray, List.set_cons_zero, List.set_cons_succ]
        refine hTake (i := 29) (v := ?_) (some 124) rfl rfl (by kernel_rfl) (by kernel_rfl) (by kernel_rfl) (fun _ _ _ h => h) (Or.inl ⟨by rfl, ?hy18x29⟩) hS0 ?hr18x29
        case hy18x29 => (intro w' hSw; clear hSw; go_simp; try with_reducible rfl)
        try simp only [Act.put, List.setIfInBounds_toArray, List.set_cons_zero, List.set_cons_succ]
        refine hTake (i := 30) (v := ?_) (some 125) rfl rfl (by kernel_rfl) (by kernel_rfl) (by kernel_rfl) (fun _ _ _ h => h) (Or.inl ⟨by rfl, ?hy18x30⟩) hS0 ?hr18x30
        case hy18x30 => (intro w' hSw; clear hSw; go_simp; try with_reducible rfl)
        try simp only [Act.put, List.setIfInBounds_toArray, List.set_cons_zero, List.set_cons_succ]
        refine hTake (i := 31) (v := ?_) (some 126) rfl rfl (by kernel_rfl) (by kernel_rfl) (by kernel_rfl) (fun _ _ _ h => h) (Or.inl ⟨by rfl, ?hy18x31⟩) hS0 ?hr18x31
        case hy18x31 => (intro w' hSw; clear hSw; go_simp; try with_reducible rfl)
        try simp only [Act.put, List.setIfInBounds_toArray, List.set_cons_zero, List.set_cons_succ]
        refine hTake (i := 32) (v := _) (some 127) rfl rfl (by kernel_rfl) (by kernel_rfl) (by kernel_rfl) (fun _ _ _ h => h) (yieldsIf_load_mid (by rfl) _ _ rfl (g) (x * 18) rfl (ncells (nd x) (kv x)) _ (fun w' h => h) Tryz.underlying61 rfl rfl) hS0 ?_
        try simp only [Act.put, List.setIfInBounds_toArray, List.set_cons_zero, List.set_cons_succ]
        refine wpAnyH_all (rs := [33]) (by kernel_rfl) (by simp) (rows1 ?_)
        refine hCall (f := 42) (args := #[.agg (ncells (nd x) (kv x)).toArray, .pointer (some ⟨w.heap.size, 0, none⟩)]) (some 128) rfl rfl rfl (by go_simp) ?_
        refine (isoRecords2_any (nd x) (kv x) (HK.out.own x HXN.out).one _ _).mono ?_
        rintro e w8 ⟨rfl, hb8⟩
        have hb8' : Below wr.heap.size wr w8 := below_of_drew hb8
        have hs8 := hb8'.size
        refine ⟨_, rfl, rangeAt_below HROW.out hb8' (by omega), ?_⟩
        try simp only [Act.put, List.setIfInBounds_toArray, List.set_cons_zero, List.set_cons_succ]
        refine wpAnyH_all (rs := [34]) (by kernel_rfl) (by simp) (rows1 ?_)
        refine hCall (f := 44) (args := #[.string (nd x).id, .int .u32 (nd x).ext, .int .u32 (nd x).size, .int .i64 (nd x).f.time, .bool (nd x).f.dir, .slice none 0 0]) (some 129) rfl rfl rfl (by go_simp) ?_
        refine (isoRecord_any (nd x).id _ _ _ _ _ _ _ (33 + (nd x).id.size + (33 + (nd x).id.size) % 2) rfl (by have := (HID.out x HXK.out).2; omega) (HID.out x HXK.out).1 (HN.out.ext x HXN.out).1 (HN.out.ext x HXN.out).2 (HN.out.size x HXN.out).1 (HN.out.size x HXN.out).2).mono ?_
        rintro e w9 ⟨rfl, ⟨tm, htm, hblk⟩, hb9⟩
        have hb9' := hb8'.trans (hb9.mono hs8)
        have hs9 := hb9.size
        refine ⟨_, rfl, rangeAt_below HROW.out hb9' (by omega), ?_⟩
        try simp only [Act.put, List.setIfInBounds_toArray, List.set_cons_zero, List.set_cons_succ]
        have hlid : (nd x).id.data.toList.length = (nd x).id.size := rfl
        have hlr := recD_len (nd x).id.data.toList (nd x).ext (nd x).size tm (nd x).f.dir htm
        refine wpAnyH_all (rs := [35]) (by kernel_rfl) (by simp) (rows1 ?_)
        refine hCall (f := 41) (args := #[.slice (some ⟨w8.heap.size, 0, none⟩) (33 + (nd x).id.size + (33 + (nd x).id.size) % 2) (33 + (nd x).id.size + (33 + (nd x).id.size) % 2), .pointer (some ⟨w.heap.size + 1, 0, none⟩)]) (some 130) rfl rfl rfl (by go_simp) ?_
        refine (isoRecords1_g wc.heap.size (w.heap.size + 1) (recsB r01 ++ recsB rs) (recL (nd x).id.data.toList (nd x).ext (nd x).size tm (nd x).f.dir) _ _ _ _ (by rw [hlr, hlid]) (by omega) ?_ (HOG.out.below hb9') hblk).mono ?_
        · rw [List.length_append, HE68.out]
          have h1 := HRI.out.len_le (fun y hy => (by have := (HID.out y (List.mem_of_mem_take hy)).2; exact this))
          rw [List.length_take] at h1
          have h2 := (HID.out x HXK.out).2
          omega
        rintro e w10 ⟨rfl, ho10, hb10⟩
        have hbt10 := HBT.out.trans ((But.of (hb9'.mono hwr)).trans hb10)
        refine ⟨_, rfl, rangeAt_same (HO.out.node HXN.out) (hbt10.old HB1.out hg (by omega) (by omega)), ?_⟩
        try simp only [Act.put, List.setIfInBounds_toArray, List.set_cons_zero, List.set_cons_succ]
        refine wpAnyH_done (by kernel_rfl) ?_ _
        refine NoPanic.normal ?_
        have hrec : RecIs nd (nid nd x) x (nd x).f.dir ⟨(nd x).id.data.toList, (nd x).ext, (nd x).size, tm, (nd x).f.dir⟩ := ⟨rfl, rfl, rfl, rfl, htm⟩
        have HREC := Lib.hid hrec
        have HO10 := Lib.hid ho10
        have HBT10 := Lib.hid hbt10
        have HTM := Lib.hid htm
        clear hrec ho10 hbt10 hb10 hb9' hb8' hb9 hb8 hblk hlr hS0 htm hlid
        go_wp2
        go_roundw
        case rel =>
          refine ⟨k + 1, rs ++ [⟨(nd x).id.data.toList, (nd x).ext, (nd x).size, tm, (nd x).f.dir⟩], by omega, rfl, ?_, ?_, HBT10.out⟩
          · rw [List.take_add_one, HX.out]
            exact HRI.out.snoc HREC.out
          · have h := HO10.out
            rw [recL_eq _ _ _ _ _ HTM.out] at h
            rw [recsB_snoc, ← List.append_assoc]
            exact h
        case measure => simp [intOf]; omega
      · obtain rfl : k = M := by omega
        have htake : (ks i).take k = ks i := List.take_of_length_le (by rw [HML.out]; exact Nat.le_refl _)
        rw [htake] at hri
        have hle := hri.len_le (fun y hy => (HID.out y hy).2)
        rw [HML.out] at hle
        obtain ⟨v, hv, hov⟩ := hog.ex
        have hL : (recsB r01 ++ recsB rs).length = 68 + (recsB rs).length := by rw [List.length_append, HE68.out]
        generalize hLL : (recsB r01 ++ recsB rs).length = L at hov hL
        have HLL := Lib.hid hLL
        obtain ⟨go, co, rfl⟩ := hov.pos (by omega)
        have hL1 : 68 ≤ L := by omega
        have hL2 : L ≤ 1988 := by omega
        obtain ⟨m, hm9⟩ : ∃ m, L + m = 2048 := ⟨2048 - L, by omega⟩
        have hmod : (L : Int) % 2048 = L := by omega
        have hsub : (2048 : Int) - L = m := by omega
        have hgt : decide ((0 : Int) < (L : Int)) = true := by simp; omega
        have hpf := hog.free
        have HOG := Lib.hid hog
        have HRI := Lib.hid hri
        have HBT := Lib.hid hbt
        have HOV9 := Lib.hid hov
        have hGr := hog.hi
        obtain ⟨i5, hi5, hz0, hz1, hz2⟩ := info_parts Tryz.info5
        clear hog hri hbt hov hL hLL hle htake
        go_wp2_with (first
          | (refine wpList_append_zeros rfl (.tmp 137) (.tmp 139) 26 3 rfl wc.heap.size 5 i5 Tryz.underlying26 .i64 Tryz.underlying3 hi5 hz0 hz1 hz2 _ L _ (by rfl) HOV9.out m (by rfl) (by omega) (by omega) (by unfold maxLen; omega) (by omega) hGr ?_
             intro v5 w5 hA5
             have h5 := HOG.out.app hv (Below.refl _ _) HLL.out (List.length_replicate (n := m) (a := (0 : UInt8))) hA5
             obtain ⟨g5, cap5, rfl⟩ := hA5.own.pos (by omega)
             have c5 := h5.2.1
             have f5 := h5.2.2.1
             have H5 := Lib.hid h5.1
             have HB5 := Lib.hid h5.2.2.2
             rw [hm9] at HB5
             clear hA5 h5))
        go_ret
        refine ⟨.slice (some ⟨g5, 0, none⟩) 2048 cap5, (recsB r01 ++ recsB rs) ++ List.replicate m 0, rfl, ?_, ?_, ?_, ?_⟩
        · rw [List.length_append, HLL.out, List.length_replicate]; exact hm9
        · refine ⟨⟨[0], (nd i).ext, (nd i).size, tm0, true⟩, ⟨[1], (nd (nd i).parent).ext, (nd (nd i).parent).size, tm1, true⟩, rs, ⟨rfl, rfl, rfl, rfl, HTM0.out⟩, ⟨rfl, rfl, rfl, rfl, HTM1.out⟩, HRI.out, ?_, ?_⟩
          · have e : recsB (⟨[0], (nd i).ext, (nd i).size, tm0, true⟩ :: ⟨[1], (nd (nd i).parent).ext, (nd (nd i).parent).size, tm1, true⟩ :: rs) = recsB r01 ++ recsB rs := by rw [← HR01.out]; simp [recsB]
            rw [e, HLL.out]
            congr 2; omega
          · have e : recsB (⟨[0], (nd i).ext, (nd i).size, tm0, true⟩ :: ⟨[1], (nd (nd i).parent).ext, (nd (nd i).parent).size, tm1, true⟩ :: rs) = recsB r01 ++ recsB rs := by rw [← HR01.out]; simp [recsB]
            rw [e, HLL.out]; omega
        · obtain ⟨v9, e9, o9⟩ := H5.out.ex
          have e8 := cell_set_same c5 (.slice (some ⟨g5, 0, none⟩) (L + m) cap5)
          rw [e8] at e9
          cases e9
          have hl9 : ((recsB r01 ++ recsB rs) ++ List.replicate m (0 : UInt8)).length = L + m := by rw [List.length_append, HLL.out, List.length_replicate]
          rw [hl9] at o9
          rw [hm9] at o9
          exact o9.mono (by omega)
        · exact (HB1.out.trans ((HBT.out.trans HB5.out).below (B' := w.heap.size) (by omega) (by omega)))

end Go.Proofs.YtfppgplboomdbaaGreatDoor
