/- Part of the proofs of laws.FnIsoTree and laws.FnIsoAt: lemmas and contracts of functions that the two laws reach, each under the hypotheses that its own statement names. -/
import Derived.Test.YtfppgplboomdbaaGreatDoorMPart07
import Derived.Deep.DeepCutAuto
import Derived.IntWalk
namespace Go.Proofs.YtfppgplboomdbaaGreatDoor
open Go.RowKit

theorem mk212 (w : World) : (Instr.makeSlice 212 (.int .i64 0) (.int .i64 20)).run Tryz.prog w = .ok (.slice (some ⟨w.heap.size, 0, none⟩) 0 20) (w.alloc (.cells (List.replicate 20 (Value.pointer none)).toArray 216)) := by kernel_rfl
theorem Tryz.i216 : (Tryz.prog.info? 216).map (fun i => (i.zero, i.size, i.bytes)) = some (some (.pointer none), 1, 8) := by kernel_rfl
def PptPost (w : World) (es : List PEnt) (e : Ending) (w' : World) : Prop := ∃ pt v ps, e = .returned (.pointer (some ⟨pt, 0, none⟩)) ∧ w.heap.size ≤ pt ∧ w'.heap[pt]? = some (.cells #[v] 220 (0, 0)) ∧ OwnS w' w.heap.size 1 v ps.length (ps.map ptrV) ∧ PEnts w w' ps es ∧ Below w.heap.size w w'
set_option maxHeartbeats 8000000 in
set_option maxRecDepth 100000 in
theorem parsePathTable_any (gb P : Nat) (es : List PEnt) (w : World) (hD : Blk w gb (pesB es)) (hP : (pesB es).length = P) (hok : ∀ e ∈ es, PeOK e) (hfew : es.length ≤ 1000) (hPl : P ≤ 1000000) :
    Calls Tryz.prog 65 #[.slice (some ⟨gb, 0, none⟩) P P] w fun e w' => PptPost w es e w' := by
  have hmk := mk212 w
  have hgl := hD.lt
  have HD := Lib.hid hD
  have HP := Lib.hid hP
  have HOK := Lib.hid hok
  obtain ⟨i216, hi, hz0, hz1, hz2⟩ := info_parts Tryz.i216
  clear hD hP hok
  go_enter Tryz.func65, Tryz.ntmps65
  go_wp2
  clear hmk
  go_loopw [4, 5] (fun v iv wr => ∃ (k off : Nat) (ps : List Nat) (ad : Option Addr) (m cap : Nat), v = .slice ad m cap ∧ ps.length = m ∧ OwnS wr w.heap.size 1 (.slice ad m cap) m (ps.map ptrV) ∧ k ≤ es.length ∧ PEnts w wr ps (es.take k) ∧ iv = .int .i64 off ∧ off = (pesB (es.take k)).length ∧ Below w.heap.size w wr ∧ ∀ p ∈ ps, (Value.slice ad m cap).ownBlock ≠ some p) (fun _ iv _ => P - (intOf iv).toNat)
  case atStart =>
    refine ⟨0, 0, [], some ⟨w.heap.size, 0, none⟩, 0, 20, rfl, rfl, ?_, Nat.zero_le _, ⟨rfl, fun i p r h => by simp at h⟩, rfl, by simp [pesB], (Below.refl _ _).alloc (Nat.le_refl _) _, fun p hp => by simp at hp⟩
    exact own_empty w _ 216 (List.replicate 20 (Value.pointer none)) (Nat.le_refl _) (by simp [maxLen])
  case round =>
    obtain ⟨k, off, ps, ad, m, cap, rfl, hm, hown, hk, hent, rfl, hoff, hbel, hno⟩ := hrel
    have hsz := hbel.size
    have HOWN := Lib.hid hown
    have HENT := Lib.hid hent
    have HBEL := Lib.hid hbel
    have HM := Lib.hid hm
    have HNO := Lib.hid hno
    have HOFF := Lib.hid hoff
    by_cases hkl : k < es.length
    · obtain ⟨e, he⟩ : ∃ e, es[k]? = some e := ⟨es[k], List.getElem?_eq_getElem hkl⟩
      have heo := HOK.out e (List.mem_of_getElem? he)
      obtain ⟨hat, hfit⟩ := pesB_at he
      rw [← hoff] at hat hfit
      rw [HP.out] at hfit
      have hDr : Blk wr gb (pesB es) := HD.out.same (hbel.block gb hgl)
      have hpa := PeAt.of (blk_range hDr hat) heo
      have c0 := hpa.c0
      have c1 := hpa.c1
      have hpe : peN e = 8 + e.id.length + e.id.length % 2 := rfl
      have hl1 := heo.id1
      have hl2 := heo.id2
      generalize hil : e.id.length = il at c0 hpe hl1 hl2
      rw [hpe] at hfit
      have hoz : (off : Int) < P := by omega
      have hnz : ((il : Int) == 0) = false := by simp; omega
      have HPA := Lib.hid hpa
      have HEO := Lib.hid heo
      have HIL := Lib.hid hil
      have HE := Lib.hid he
      clear hno hoff hown hent hbel hm hpa heo hat hil he hpe hDr
      have q2 : (off : Int) + 6 ≤ P := by omega
      have q8 : (off : Int) + 8 ≤ P := by omega
      have q9 : (off : Int) + 8 + il ≤ P := by omega
      have z2 : ¬ P = off + 2 := by omega
      have z6 : ¬ P = off + 6 := by omega
      have z8 : ¬ P = off + 8 := by omega
      have e4 : off + 6 - (off + 2) = 4 := by omega
      have e2 : off + 8 - (off + 6) = 2 := by omega
      have eil : off + 8 + il - (off + 8) = il := by omega
      have hcsx := fun (w' : World) (h : PeAt w' gb off e) => bytes_str h.id HIL.out (P - (off + 8))
      have HCS := Lib.hid hcsx
      clear hcsx
      rcases Nat.mod_two_eq_zero_or_one il with hpar | hpar
      · have k3 : ((il : Int) % 2 != 0) = false := by simp; omega
        go_upto_region 11 with (fail)
        have hw2 : IntKind.i64.wrap ((off : Int) + 2) = (off : Int) + 2 := IntWalk.i64_in _ (by omega)
        have hw6 : IntKind.i64.wrap ((off : Int) + 6) = (off : Int) + 6 := IntWalk.i64_in _ (by omega)
        have hw8 : IntKind.i64.wrap ((off : Int) + 8) = (off : Int) + 8 := IntWalk.i64_in _ (by omega)
        have ht2 : ((off : Int) + 2).toNat = off + 2 := by omega
        have ht6 : ((off : Int) + 6).toNat = off + 6 := by omega
        have ht8 : ((off : Int) + 8).toNat = off + 8 := by omega
        have hm26 : (off : Int) + 2 ≤ max ((off : Int) + 6) 0 := by omega
        have hm68 : (off : Int) + 6 ≤ max ((off : Int) + 8) 0 := by omega
        have hn2 : (0 : Int) ≤ (off : Int) + 2 := by omega
        have hn6 : (0 : Int) ≤ (off : Int) + 6 := by omega
        have hn8 : (0 : Int) ≤ (off : Int) + 8 := by omega
        go_cut [9] from 38 to 45 (fun t wx => t = .int .u32 e.loc ∧ Below wr.heap.size wr wx)
        case first =>
          refine wp_region_noPanic ?_
          refine wp_region_held_drew (S := fun w' => True) (by kernel_rfl) trivial (fun hS0 => ?_)
          refine hTake (i := 0) (v := ?_) (some 38) rfl rfl (by kernel_rfl) (by kernel_rfl) (by kernel_rfl) (fun _ _ _ h => h) (Or.inl ⟨by rfl, ?hyA11x0⟩) hS0 ?hrA11x0
          case hyA11x0 => (intro w' hSw; clear hSw; go_simp; try with_reducible rfl)
          try simp only [Act.put, List.setIfInBounds_toArray, List.set_cons_zero, List.set_cons_succ]
          refine hTake (i := 1) (v := ?_) (some 39) rfl rfl (by kernel_rfl) (by kernel_rfl) (by kernel_rfl) (fun _ _ _ h => h) (Or.inl ⟨by rfl, ?hyA11x1⟩) hS0 ?hrA11x1
          case hyA11x1 => (intro w' hSw; clear hSw; go_simp; try with_reducible rfl)
          try simp only [Act.put, List.setIfInBounds_toArray, List.set_cons_zero, List.set_cons_succ]
          refine hTake (i := 2) (v := ?_) (some 40) rfl rfl (by kernel_rfl) (by kernel_rfl) (by kernel_rfl) (fun _ _ _ h => h) (Or.inl ⟨by rfl, ?hyA11x2⟩) hS0 ?hrA11x2
          case hyA11x2 => (intro w' hSw; clear hSw; go_simp; try with_reducible rfl)
          try simp only [Act.put, List.setIfInBounds_toArray, List.set_cons_zero, List.set_cons_succ]
          refine hTake (i := 3) (v := ?_) (some 41) rfl rfl (by kernel_rfl) (by kernel_rfl) (by kernel_rfl) (fun _ _ _ h => h) (Or.inl ⟨by rfl, ?hyA11x3⟩) hS0 ?hrA11x3
          case hyA11x3 => (intro w' hSw; clear hSw; go_simp; try with_reducible rfl)
          try simp only [Act.put, List.setIfInBounds_toArray, List.set_cons_zero, List.set_cons_succ]
          refine hTake (i := 4) (v := ?_) (some 42) rfl rfl (by kernel_rfl) (by kernel_rfl) (by kernel_rfl) (fun _ _ _ h => h) (Or.inl ⟨by rfl, ?hyA11x4⟩) hS0 ?hrA11x4
          case hyA11x4 => (intro w' hSw; clear hSw; go_simp; try with_reducible rfl)
          try simp only [Act.put, List.setIfInBounds_toArray, List.set_cons_zero, List.set_cons_succ]
          refine hTake (i := 5) (v := ?_) (some 43) rfl rfl (by kernel_rfl) (by kernel_rfl) (by kernel_rfl) (fun _ _ _ h => h) (Or.inl ⟨by rfl, ?hyA11x5⟩) hS0 ?hrA11x5
          case hyA11x5 => (intro w' hSw; clear hSw; go_simp; try with_reducible rfl)
          try simp only [Act.put, List.setIfInBounds_toArray, List.set_cons_zero, List.set_cons_succ]
          refine hTake (i := 6) (v := ?_) (some 44) rfl rfl (by kernel_rfl) (by kernel_rfl) (by kernel_rfl) (fun _ _ _ h => h) (Or.inl ⟨by rfl, ?hyA11x6⟩) hS0 ?hrA11x6
          case hyA11x6 => (intro w' hSw; clear hSw; go_simp; try with_reducible rfl)
          try simp only [Act.put, List.setIfInBounds_toArray, List.set_cons_zero, List.set_cons_succ]
          refine wpAnyH_all (rs := [7]) (by kernel_rfl) (by simp) (rows1 ?_)
          refine hCall (f := 84) (args := #[.agg #[], .slice (some ⟨gb, off + 2, none⟩) 4 (P - (off + 2))]) (some 45) rfl rfl rfl (by go_simp) ?_
          refine (HPA.out.drew.le32 HEO.out _).mono ?_
          rintro e w9 ⟨rfl, hb9⟩
          refine ⟨_, rfl, trivial, ?_⟩
          try simp only [Act.put, List.setIfInBounds_toArray, List.set_cons_zero, List.set_cons_succ]
          refine hTake (i := 8) (v := ?_) (some 9) rfl rfl (by kernel_rfl) (by kernel_rfl) (by kernel_rfl) (fun _ _ _ h => h) (Or.inl ⟨by rfl, ?hqA11⟩) trivial ?hzA11
          case hqA11 => (intro w' hSw; clear hSw; go_simp; try with_reducible rfl)
          try simp only [Act.put, List.setIfInBounds_toArray, List.set_cons_zero, List.set_cons_succ]
          refine wpAnyH_done (by kernel_rfl) ?_ _
          refine NoPanic.normal ?_
          go_wp2_with fail
          go_meet
          exact ⟨rfl, below_of_drew hb9⟩
        obtain ⟨rfl, hb1⟩ := hcut
        obtain ⟨w0, rfl⟩ : ∃ w0 : World, w0 = wr := ⟨_, rfl⟩
        obtain ⟨w1, rfl⟩ : ∃ w1 : World, w1 = wc := ⟨_, rfl⟩
        obtain ⟨hp1, hg1⟩ := HPA.out.below hb1
        have HPA1 := Lib.hid hp1
        have HB1 := Lib.hid hb1
        clear hp1 hb1 c0 c1
        go_upto_region 12 with (fail)
        go_cut [10] from 46 to 53 (fun t wx => t = .int .u16 e.par ∧ Below w1.heap.size w1 wx)
        case first =>
          refine wp_region_noPanic ?_
          refine wp_region_held_drew (S := fun w' => True) (by kernel_rfl) trivial (fun hS0 => ?_)
          refine hTake (i := 0) (v := ?_) (some 46) rfl rfl (by kernel_rfl) (by kernel_rfl) (by kernel_rfl) (fun _ _ _ h => h) (Or.inl ⟨by rfl, ?hyA12x0⟩) hS0 ?hrA12x0
          case hyA12x0 => (intro w' hSw; clear hSw; go_simp; try with_reducible rfl)
          try simp only [Act.put, List.setIfInBounds_toArray, List.set_cons_zero, List.set_cons_succ]
          refine hTake (i := 1) (v := ?_) (some 47) rfl rfl (by kernel_rfl) (by kernel_rfl) (by kernel_rfl) (fun _ _ _ h => h) (Or.inl ⟨by rfl, ?hyA12x1⟩) hS0 ?hrA12x1
          case hyA12x1 => (intro w' hSw; clear hSw; go_simp; try with_reducible rfl)
          try simp only [Act.put, List.setIfInBounds_toArray, List.set_cons_zero, List.set_cons_succ]
          refine hTake (i := 2) (v := ?_) (some 48) rfl rfl (by kernel_rfl) (by kernel_rfl) (by kernel_rfl) (fun _ _ _ h => h) (Or.inl ⟨by rfl, ?hyA12x2⟩) hS0 ?hrA12x2
          case hyA12x2 => (intro w' hSw; clear hSw; go_simp; try with_reducible rfl)
          try simp only [Act.put, List.setIfInBounds_toArray, List.set_cons_zero, List.set_cons_succ]
          refine hTake (i := 3) (v := ?_) (some 49) rfl rfl (by kernel_rfl) (by kernel_rfl) (by kernel_rfl) (fun _ _ _ h => h) (Or.inl ⟨by rfl, ?hyA12x3⟩) hS0 ?hrA12x3
          case hyA12x3 => (intro w' hSw; clear hSw; go_simp; try with_reducible rfl)
          try simp only [Act.put, List.setIfInBounds_toArray, List.set_cons_zero, List.set_cons_succ]
          refine hTake (i := 4) (v := ?_) (some 50) rfl rfl (by kernel_rfl) (by kernel_rfl) (by kernel_rfl) (fun _ _ _ h => h) (Or.inl ⟨by rfl, ?hyA12x4⟩) hS0 ?hrA12x4
          case hyA12x4 => (intro w' hSw; clear hSw; go_simp; try with_reducible rfl)
          try simp only [Act.put, List.setIfInBounds_toArray, List.set_cons_zero, List.set_cons_succ]
          refine hTake (i := 5) (v := ?_) (some 51) rfl rfl (by kernel_rfl) (by kernel_rfl) (by kernel_rfl) (fun _ _ _ h => h) (Or.inl ⟨by rfl, ?hyA12x5⟩) hS0 ?hrA12x5
          case hyA12x5 => (intro w' hSw; clear hSw; go_simp; try with_reducible rfl)
          try simp only [Act.put, List.setIfInBounds_toArray, List.set_cons_zero, List.set_cons_succ]
          refine hTake (i := 6) (v := ?_) (some 52) rfl rfl (by kernel_rfl) (by kernel_rfl) (by kernel_rfl) (fun _ _ _ h => h) (Or.inl ⟨by rfl, ?hyA12x6⟩) hS0 ?hrA12x6
          case hyA12x6 => (intro w' hSw; clear hSw; go_simp; try with_reducible rfl)
          try simp only [Act.put, List.setIfInBounds_toArray, List.set_cons_zero, List.set_cons_succ]
          refine wpAnyH_all (rs := [7]) (by kernel_rfl) (by simp) (rows1 ?_)
          refine hCall (f := 85) (args := #[.agg #[], .slice (some ⟨gb, off + 6, none⟩) 2 (P - (off + 6))]) (some 53) rfl rfl rfl (by go_simp) ?_
          refine (HPA1.out.drew.le16 HEO.out _).mono ?_
          rintro e w9 ⟨rfl, hb9⟩
          refine ⟨_, rfl, trivial, ?_⟩
          try simp only [Act.put, List.setIfInBounds_toArray, List.set_cons_zero, List.set_cons_succ]
          refine hTake (i := 8) (v := ?_) (some 10) rfl rfl (by kernel_rfl) (by kernel_rfl) (by kernel_rfl) (fun _ _ _ h => h) (Or.inl ⟨by rfl, ?hqA12⟩) trivial ?hzA12
          case hqA12 => (intro w' hSw; clear hSw; go_simp; try with_reducible rfl)
          try simp only [Act.put, List.setIfInBounds_toArray, List.set_cons_zero, List.set_cons_succ]
          refine wpAnyH_done (by kernel_rfl) ?_ _
          refine NoPanic.normal ?_
          go_wp2_with fail
          go_meet
          exact ⟨rfl, below_of_drew hb9⟩
        obtain ⟨rfl, hb2⟩ := hcut
        obtain ⟨w2, rfl⟩ : ∃ w2 : World, w2 = wc := ⟨_, rfl⟩
        obtain ⟨hp2, hg2⟩ := HPA1.out.below hb2
        have hcs := HCS.out w2 hp2
        have HB2 := Lib.hid hb2
        have hs1 := HB1.out.size
        have hs2 := hb2.size
        clear hp2 hb2
        clear hw2 hw6 hw8 hm26 hm68
        have hm1 : m ≤ 1000 := by
          have h1 := HENT.out.len
          rw [HM.out, List.length_take] at h1
          omega
        have hb02 : Below w0.heap.size w0 w2 := HB1.out.trans (HB2.out.mono hs1)
        have HB02 := Lib.hid hb02
        clear hb02
        go_upto_region 15 with (fail)
        go_wp2_with (first
          | (refine wpList_append_ownS' rfl (.tmp 72) (.tmp 74) 212 rfl w.heap.size 216 i216 (.pointer none) 1 8 Tryz.underlying212 hi hz0 hz1 hz2 rfl (by decide) (.slice ad m cap) m _ rfl (((HOWN.out.below HB02.out).alloc _).alloc _) ⟨_, 0, none⟩ 1 1 [ptrV w2.heap.size] rfl rfl (row_at_eq _ _ 216 _ (by simp)) (by intro u hu; simp at hu; subst hu; rfl) (by omega) (by unfold maxLen; omega) (by omega) (by simp; omega) ?_
             intro v5 w5 hA
             have ho5 := hA.own
             obtain ⟨ad5, cap5, rfl⟩ := ho5.slice
             have HO5 := Lib.hid ho5
             have HB5 := Lib.hid hA.below
             have HOT := Lib.hid hA.other
             have HBK := Lib.hid hA.block
             clear hA ho5))
        have hbx : Below w.heap.size w w5 := (((HBEL.out.trans (HB02.out.mono hsz)).alloc (by omega) _).alloc (by simp; omega) _).trans HB5.out
        have hoo : ∀ q, w0.heap.size ≤ q → (Value.slice ad m cap).ownBlock ≠ some q := fun q hq h => by
          have := (HOWN.out.own_lt h).1
          omega
        have hnew : PeMem w5 w2.heap.size e := by
          refine ⟨8 + il, ?_⟩
          rw [HOT.out w2.heap.size (by simp; omega) (hoo _ (by omega))]
          rw [HIL.out]
          rw [heap_alloc_old _ _ (by simp)]
          exact heap_alloc_new w2 _
        have hkeep : PEnts w w5 ps (es.take k) := HENT.out.keep (fun p hp hlt => by
          rw [HOT.out p (by simp; omega) (HNO.out p hp)]
          rw [heap_alloc_old _ _ (by simp; omega), heap_alloc_old _ _ (by omega)]
          exact HB02.out.block p hlt)
        have htk : es.take (k + 1) = es.take k ++ [e] := by rw [List.take_add_one, HE.out]; rfl
        refine ⟨⟨k + 1, off + (8 + il), ps ++ [w2.heap.size], ad5, m + 1, cap5, rfl, by rw [List.length_append, HM.out]; rfl, ?_, by omega, ?_, by simp, ?_, hbx, ?_⟩, by simp [intOf]; omega⟩
        · rw [List.map_append]; exact HO5.out
        · rw [htk]; exact hkeep.snoc (by omega) hnew
        · have h1 := HIL.out
          rw [pesB_take HE.out, List.length_append, peB_len, ← HOFF.out]
          unfold peN
          omega
        · intro p hp h
          rw [List.mem_append, List.mem_singleton] at hp
          rcases HBK.out p h with h1 | h1
          · rcases hp with hp | rfl
            · exact HNO.out p hp h1
            · exact hoo _ (by omega) h1
          · simp at h1
            rcases hp with hp | rfl
            · have := HENT.out.lt hp
              omega
            · omega
      · have k3 : ((il : Int) % 2 != 0) = true := by simp; omega
        go_upto_region 11 with (fail)
        have hw2 : IntKind.i64.wrap ((off : Int) + 2) = (off : Int) + 2 := IntWalk.i64_in _ (by omega)
        have hw6 : IntKind.i64.wrap ((off : Int) + 6) = (off : Int) + 6 := IntWalk.i64_in _ (by omega)
        have hw8 : IntKind.i64.wrap ((off : Int) + 8) = (off : Int) + 8 := IntWalk.i64_in _ (by omega)
        have ht2 : ((off : Int) + 2).toNat = off + 2 := by omega
        have ht6 : ((off : Int) + 6).toNat = off + 6 := by omega
        have ht8 : ((off : Int) + 8).toNat = off + 8 := by omega
        have hm26 : (off : Int) + 2 ≤ max ((off : Int) + 6) 0 := by omega
        have hm68 : (off : Int) + 6 ≤ max ((off : Int) + 8) 0 := by omega
        have hn2 : (0 : Int) ≤ (off : Int) + 2 := by omega
        have hn6 : (0 : Int) ≤ (off : Int) + 6 := by omega
        have hn8 : (0 : Int) ≤ (off : Int) + 8 := by omega
        go_cut [9] from 38 to 45 (fun t wx => t = .int .u32 e.loc ∧ Below wr.heap.size wr wx)
        case first =>
          refine wp_region_noPanic ?_
          refine wp_region_held_drew (S := fun w' => True) (by kernel_rfl) trivial (fun hS0 => ?_)
          refine hTake (i := 0) (v := ?_) (some 38) rfl rfl (by kernel_rfl) (by kernel_rfl) (by kernel_rfl) (fun _ _ _ h => h) (Or.inl ⟨by rfl, ?hyB11x0⟩) hS0 ?hrB11x0
          case hyB11x0 => (intro w' hSw; clear hSw; go_simp; try with_reducible rfl)
          try simp only [Act.put, List.setIfInBounds_toArray, List.set_cons_zero, List.set_cons_succ]
          refine hTake (i := 1) (v := ?_) (some 39) rfl rfl (by kernel_rfl) (by kernel_rfl) (by kernel_rfl) (fun _ _ _ h => h) (Or.inl ⟨by rfl, ?hyB11x1⟩) hS0 ?hrB11x1
          case hyB11x1 => (intro w' hSw; clear hSw; go_simp; try with_reducible rfl)
          try simp only [Act.put, List.setIfInBounds_toArray, List.set_cons_zero, List.set_cons_succ]
          refine hTake (i := 2) (v := ?_) (some 40) rfl rfl (by kernel_rfl) (by kernel_rfl) (by kernel_rfl) (fun _ _ _ h => h) (Or.inl ⟨by rfl, ?hyB11x2⟩) hS0 ?hrB11x2
          case hyB11x2 => (intro w' hSw; clear hSw; go_simp; try with_reducible rfl)
          try simp only [Act.put, List.setIfInBounds_toArray, List.set_cons_zero, List.set_cons_succ]
          refine hTake (i := 3) (v := ?_) (some 41) rfl rfl (by kernel_rfl) (by kernel_rfl) (by kernel_rfl) (fun _ _ _ h => h) (Or.inl ⟨by rfl, ?hyB11x3⟩) hS0 ?hrB11x3
          case hyB11x3 => (intro w' hSw; clear hSw; go_simp; try with_reducible rfl)
          try simp only [Act.put, List.setIfInBounds_toArray, List.set_cons_zero, List.set_cons_succ]
          refine hTake (i := 4) (v := ?_) (some 42) rfl rfl (by kernel_rfl) (by kernel_rfl) (by kernel_rfl) (fun _ _ _ h => h) (Or.inl ⟨by rfl, ?hyB11x4⟩) hS0 ?hrB11x4
          case hyB11x4 => (intro w' hSw; clear hSw; go_simp; try with_reducible rfl)
          try simp only [Act.put, List.setIfInBounds_toArray, List.set_cons_zero, List.set_cons_succ]
          refine hTake (i := 5) (v := ?_) (some 43) rfl rfl (by kernel_rfl) (by kernel_rfl) (by kernel_rfl) (fun _ _ _ h => h) (Or.inl ⟨by rfl, ?hyB11x5⟩) hS0 ?hrB11x5
          case hyB11x5 => (intro w' hSw; clear hSw; go_simp; try with_reducible rfl)
          try simp only [Act.put, List.setIfInBounds_toArray, List.set_cons_zero, List.set_cons_succ]
          refine hTake (i := 6) (v := ?_) (some 44) rfl rfl (by kernel_rfl) (by kernel_rfl) (by kernel_rfl) (fun _ _ _ h => h) (Or.inl ⟨by rfl, ?hyB11x6⟩) hS0 ?hrB11x6
          case hyB11x6 => (intro w' hSw; clear hSw; go_simp; try with_reducible rfl)
          try simp only [Act.put, List.setIfInBounds_toArray, List.set_cons_zero, List.set_cons_succ]
          refine wpAnyH_all (rs := [7]) (by kernel_rfl) (by simp) (rows1 ?_)
          refine hCall (f := 84) (args := #[.agg #[], .slice (some ⟨gb, off + 2, none⟩) 4 (P - (off + 2))]) (some 45) rfl rfl rfl (by go_simp) ?_
          refine (HPA.out.drew.le32 HEO.out _).mono ?_
          rintro e w9 ⟨rfl, hb9⟩
          refine ⟨_, rfl, trivial, ?_⟩
          try simp only [Act.put, List.setIfInBounds_toArray, List.set_cons_zero, List.set_cons_succ]
          refine hTake (i := 8) (v := ?_) (some 9) rfl rfl (by kernel_rfl) (by kernel_rfl) (by kernel_rfl) (fun _ _ _ h => h) (Or.inl ⟨by rfl, ?hqB11⟩) trivial ?hzB11
          case hqB11 => (intro w' hSw; clear hSw; go_simp; try with_reducible rfl)
          try simp only [Act.put, List.setIfInBounds_toArray, List.set_cons_zero, List.set_cons_succ]
          refine wpAnyH_done (by kernel_rfl) ?_ _
          refine NoPanic.normal ?_
          go_wp2_with fail
          go_meet
          exact ⟨rfl, below_of_drew hb9⟩
        obtain ⟨rfl, hb1⟩ := hcut
        obtain ⟨w0, rfl⟩ : ∃ w0 : World, w0 = wr := ⟨_, rfl⟩
        obtain ⟨w1, rfl⟩ : ∃ w1 : World, w1 = wc := ⟨_, rfl⟩
        obtain ⟨hp1, hg1⟩ := HPA.out.below hb1
        have HPA1 := Lib.hid hp1
        have HB1 := Lib.hid hb1
        clear hp1 hb1 c0 c1
        go_upto_region 12 with (fail)
        go_cut [10] from 46 to 53 (fun t wx => t = .int .u16 e.par ∧ Below w1.heap.size w1 wx)
        case first =>
          refine wp_region_noPanic ?_
          refine wp_region_held_drew (S := fun w' => True) (by kernel_rfl) trivial (fun hS0 => ?_)
          refine hTake (i := 0) (v := ?_) (some 46) rfl rfl (by kernel_rfl) (by kernel_rfl) (by kernel_rfl) (fun _ _ _ h => h) (Or.inl ⟨by rfl, ?hyB12x0⟩) hS0 ?hrB12x0
          case hyB12x0 => (intro w' hSw; clear hSw; go_simp; try with_reducible rfl)
          try simp only [Act.put, List.setIfInBounds_toArray, List.set_cons_zero, List.set_cons_succ]
          refine hTake (i := 1) (v := ?_) (some 47) rfl rfl (by kernel_rfl) (by kernel_rfl) (by kernel_rfl) (fun _ _ _ h => h) (Or.inl ⟨by rfl, ?hyB12x1⟩) hS0 ?hrB12x1
          case hyB12x1 => (intro w' hSw; clear hSw; go_simp; try with_reducible rfl)
          try simp only [Act.put, List.setIfInBounds_toArray, List.set_cons_zero, List.set_cons_succ]
          refine hTake (i := 2) (v := ?_) (some 48) rfl rfl (by kernel_rfl) (by kernel_rfl) (by kernel_rfl) (fun _ _ _ h => h) (Or.inl ⟨by rfl, ?hyB12x2⟩) hS0 ?hrB12x2
          case hyB12x2 => (intro w' hSw; clear hSw; go_simp; try with_reducible rfl)
          try simp only [Act.put, List.setIfInBounds_toArray, List.set_cons_zero, List.set_cons_succ]
          refine hTake (i := 3) (v := ?_) (some 49) rfl rfl (by kernel_rfl) (by kernel_rfl) (by kernel_rfl) (fun _ _ _ h => h) (Or.inl ⟨by rfl, ?hyB12x3⟩) hS0 ?hrB12x3
          case hyB12x3 => (intro w' hSw; clear hSw; go_simp; try with_reducible rfl)
          try simp only [Act.put, List.setIfInBounds_toArray, List.set_cons_zero, List.set_cons_succ]
          refine hTake (i := 4) (v := ?_) (some 50) rfl rfl (by kernel_rfl) (by kernel_rfl) (by kernel_rfl) (fun _ _ _ h => h) (Or.inl ⟨by rfl, ?hyB12x4⟩) hS0 ?hrB12x4
          case hyB12x4 => (intro w' hSw; clear hSw; go_simp; try with_reducible rfl)
          try simp only [Act.put, List.setIfInBounds_toArray, List.set_cons_zero, List.set_cons_succ]
          refine hTake (i := 5) (v := ?_) (some 51) rfl rfl (by kernel_rfl) (by kernel_rfl) (by kernel_rfl) (fun _ _ _ h => h) (Or.inl ⟨by rfl, ?hyB12x5⟩) hS0 ?hrB12x5
          case hyB12x5 => (intro w' hSw; clear hSw; go_simp; try with_reducible rfl)
          try simp only [Act.put, List.setIfInBounds_toArray, List.set_cons_zero, List.set_cons_succ]
          refine hTake (i := 6) (v := ?_) (some 52) rfl rfl (by kernel_rfl) (by kernel_rfl) (by kernel_rfl) (fun _ _ _ h => h) (Or.inl ⟨by rfl, ?hyB12x6⟩) hS0 ?hrB12x6
          case hyB12x6 => (intro w' hSw; clear hSw; go_simp; try with_reducible rfl)
          try simp only [Act.put, List.setIfInBounds_toArray, List.set_cons_zero, List.set_cons_succ]
          refine wpAnyH_all (rs := [7]) (by kernel_rfl) (by simp) (rows1 ?_)
          refine hCall (f := 85) (args := #[.agg #[], .slice (some ⟨gb, off + 6, none⟩) 2 (P - (off + 6))]) (some 53) rfl rfl rfl (by go_simp) ?_
          refine (HPA1.out.drew.le16 HEO.out _).mono ?_
          rintro e w9 ⟨rfl, hb9⟩
          refine ⟨_, rfl, trivial, ?_⟩
          try simp only [Act.put, List.setIfInBounds_toArray, List.set_cons_zero, List.set_cons_succ]
          refine hTake (i := 8) (v := ?_) (some 10) rfl rfl (by kernel_rfl) (by kernel_rfl) (by kernel_rfl) (fun _ _ _ h => h) (Or.inl ⟨by rfl, ?hqB12⟩) trivial ?hzB12
          case hqB12 => (intro w' hSw; clear hSw; go_simp; try with_reducible rfl)
          try simp only [Act.put, List.setIfInBounds_toArray, List.set_cons_zero, List.set_cons_succ]
          refine wpAnyH_done (by kernel_rfl) ?_ _
          refine NoPanic.normal ?_
          go_wp2_with fail
          go_meet
          exact ⟨rfl, below_of_drew hb9⟩
        obtain ⟨rfl, hb2⟩ := hcut
        obtain ⟨w2, rfl⟩ : ∃ w2 : World, w2 = wc := ⟨_, rfl⟩
        obtain ⟨hp2, hg2⟩ := HPA1.out.below hb2
        have hcs := HCS.out w2 hp2
        have HB2 := Lib.hid hb2
        have hs1 := HB1.out.size
        have hs2 := hb2.size
        clear hp2 hb2
        clear hw2 hw6 hw8 hm26 hm68
        have hm1 : m ≤ 1000 := by
          have h1 := HENT.out.len
          rw [HM.out, List.length_take] at h1
          omega
        have hb02 : Below w0.heap.size w0 w2 := HB1.out.trans (HB2.out.mono hs1)
        have HB02 := Lib.hid hb02
        clear hb02
        go_upto_region 15 with (fail)
        go_wp2_with (first
          | (refine wpList_append_ownS' rfl (.tmp 72) (.tmp 74) 212 rfl w.heap.size 216 i216 (.pointer none) 1 8 Tryz.underlying212 hi hz0 hz1 hz2 rfl (by decide) (.slice ad m cap) m _ rfl (((HOWN.out.below HB02.out).alloc _).alloc _) ⟨_, 0, none⟩ 1 1 [ptrV w2.heap.size] rfl rfl (row_at_eq _ _ 216 _ (by simp)) (by intro u hu; simp at hu; subst hu; rfl) (by omega) (by unfold maxLen; omega) (by omega) (by simp; omega) ?_
             intro v5 w5 hA
             have ho5 := hA.own
             obtain ⟨ad5, cap5, rfl⟩ := ho5.slice
             have HO5 := Lib.hid ho5
             have HB5 := Lib.hid hA.below
             have HOT := Lib.hid hA.other
             have HBK := Lib.hid hA.block
             clear hA ho5))
        have hbx : Below w.heap.size w w5 := (((HBEL.out.trans (HB02.out.mono hsz)).alloc (by omega) _).alloc (by simp; omega) _).trans HB5.out
        have hoo : ∀ q, w0.heap.size ≤ q → (Value.slice ad m cap).ownBlock ≠ some q := fun q hq h => by
          have := (HOWN.out.own_lt h).1
          omega
        have hnew : PeMem w5 w2.heap.size e := by
          refine ⟨8 + il + 1, ?_⟩
          rw [HOT.out w2.heap.size (by simp; omega) (hoo _ (by omega))]
          rw [HIL.out]
          rw [heap_alloc_old _ _ (by simp)]
          exact heap_alloc_new w2 _
        have hkeep : PEnts w w5 ps (es.take k) := HENT.out.keep (fun p hp hlt => by
          rw [HOT.out p (by simp; omega) (HNO.out p hp)]
          rw [heap_alloc_old _ _ (by simp; omega), heap_alloc_old _ _ (by omega)]
          exact HB02.out.block p hlt)
        have htk : es.take (k + 1) = es.take k ++ [e] := by rw [List.take_add_one, HE.out]; rfl
        refine ⟨⟨k + 1, off + (8 + il + 1), ps ++ [w2.heap.size], ad5, m + 1, cap5, rfl, by rw [List.length_append, HM.out]; rfl, ?_, by omega, ?_, by simp [Int.add_assoc], ?_, hbx, ?_⟩, by simp [intOf]; omega⟩
        · rw [List.map_append]; exact HO5.out
        · rw [htk]; exact hkeep.snoc (by omega) hnew
        · have h1 := HIL.out
          rw [pesB_take HE.out, List.length_append, peB_len, ← HOFF.out]
          unfold peN
          omega
        · intro p hp h
          rw [List.mem_append, List.mem_singleton] at hp
          rcases HBK.out p h with h1 | h1
          · rcases hp with hp | rfl
            · exact HNO.out p hp h1
            · exact hoo _ (by omega) h1
          · simp at h1
            rcases hp with hp | rfl
            · have := HENT.out.lt hp
              omega
            · omega
    · have hkk : k = es.length := by omega
      have hoP : off = P := by rw [hoff, hkk, List.take_length]; exact HP.out
      have hoz : ¬ (off : Int) < P := by omega
      clear hno hown hent hbel hm hoff
      go_wp2
      go_ret
      obtain ⟨hw1, hw2⟩ : True ∧ True := ⟨trivial, trivial⟩
      have hent := HENT.out
      have hown := HOWN.out
      rw [hkk, List.take_length] at hent
      refine ⟨wr.heap.size, _, ps, rfl, by omega, heap_alloc_new wr _, ?_, hent.below ((Below.refl _ _).alloc (Nat.le_refl _) _), HBEL.out.alloc hsz _⟩
      rw [HM.out]
      exact hown.alloc _

end Go.Proofs.YtfppgplboomdbaaGreatDoor
