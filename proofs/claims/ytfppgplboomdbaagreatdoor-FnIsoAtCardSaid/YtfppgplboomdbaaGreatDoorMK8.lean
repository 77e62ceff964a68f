/- Part of the proofs of laws.FnIsoTree and laws.FnIsoAt: lemmas and contracts of functions that the two laws reach, each under the hypotheses that its own statement names. -/
import Derived.Test.YtfppgplboomdbaaGreatDoorMPart15
namespace Go.Proofs.YtfppgplboomdbaaGreatDoor
open Go.RowKit

def eofV (a : Addr) : Value := .iface 190 (.pointer (some a))
theorem nilAhead_readAt (mb : Nat) (w : World) : (nilAhead 504 102 (.pointer (some ⟨mb, 0, none⟩)) "ReadAt").run Tryz.prog w = .ok (some false) w := by kernel_rfl
def ReadPost (D : Bs) (x z o n gb fb p : Nat) (PB : Bs) (a : Addr) (w : World) (e : Ending) (w' : World) : Prop :=
  (z ≤ o ∧ e = .returned (.tuple #[.int .i64 0, eofV a]) ∧ Below w.heap.size w w') ∨
  (o < z ∧ ∃ k : Nat, k = min (z - o) n ∧ e = .returned (.tuple #[.int .i64 (k : Int), if z ≤ o + k then eofV a else .nilIface]) ∧ Blk w' gb (splice PB 0 (seg D (x * 2048 + o) k)) ∧ FileRow w' fb p ((o : Int) + k) false ∧ ∀ B, B ≤ gb → B ≤ fb → B ≤ w.heap.size → Below B w w')
set_option maxHeartbeats 8000000 in
set_option maxRecDepth 100000 in
theorem fread_any {B fp mb pt rd : Nat} {D : Bs} {es : List PEnt} (x z o n gb fb p : Nat) (PB : Bs) (a : Addr) (r : RecE) (w : World) (hF : FsAt w B fp mb pt rd D es) (hE : EntAt w p r (.pointer (some ⟨fp, 0, none⟩))) (hR : FileRow w fb p (o : Int) false) (hG : Blk w gb PB) (hEof : EofAt w a)
    (hx : r.ext = x) (hz : r.size = z) (hn : PB.length = n) (hn1 : 1 ≤ n) (hn2 : n ≤ 20000000) (ho : o ≤ 1000000) (hz1 : z ≤ 1000000) (hx1 : x ≤ 10000) (hD : x * 2048 + z ≤ D.length) (hDl : D.length ≤ 30000000) (hB1 : B ≤ gb) (hB2 : B ≤ fb) (hgf : gb ≠ fb) (hpf : p ≠ fb) (hpg : p ≠ gb) :
    Calls Tryz.prog 57 #[.pointer (some ⟨fb, 0, none⟩), .slice (some ⟨gb, 0, none⟩) n n] w fun e w' => ReadPost D x z o n gb fb p PB a w e w' := by
  obtain ⟨c0, c3, c4, z3, _, hfl⟩ := hR.cells
  obtain ⟨y1, y2, _, _, _, y16, _, hpl⟩ := hE.full
  rw [hx] at y1
  rw [hz] at y2
  have hbe := hF.be
  have hbs := hF.bs
  have hgl := hG.lt
  have hfp := hF.fl
  have hFhi := hF.hi
  have h6 := hF.b6
  have hw1 : IntKind.i64.wrap (z : Int) = (z : Int) := IntWalk.i64_in _ (by omega)
  have hw2 : IntKind.i64.wrap (x : Int) = (x : Int) := IntWalk.i64_in _ (by omega)
  have hw3 : IntKind.i64.wrap ((z : Int) - (o : Int)) = (z : Int) - (o : Int) := IntWalk.i64_in _ (by omega)
  have hnz : ¬ (n : Int) = 0 := by omega
  have HF := Lib.hid hF
  have HE := Lib.hid hE
  have HR := Lib.hid hR
  have HG := Lib.hid hG
  have HEOF := Lib.hid hEof
  clear hF hE hR hG hEof
  go_enter Tryz.func57, Tryz.ntmps57
  go_upto_region 4 with (fail)
  go_cut [7] from 30 to 42 (fun t7 wx => t7 = .int .i64 ((z : Int) - (o : Int)) ∧ Below w.heap.size w wx)
  case first =>
    go_quiet (fail)
    go_wp2_with fail
    go_meet
    exact ⟨rfl, below_drewN (Below.refl _ _) _⟩
  obtain ⟨rfl, hb1⟩ := hcut
  obtain ⟨w1, rfl⟩ : ∃ w1 : World, w1 = wc := ⟨_, rfl⟩
  have hF1 := HF.out.below hb1
  have hE1 := HE.out.below hb1
  have hR1 : FileRow w1 fb p (o : Int) false := (hb1.block _ hfl).trans HR.out
  have hG1 := HG.out.same (hb1.block _ hgl)
  have hEof1 : EofAt w1 a := HEOF.out.keep hb1 (by omega)
  obtain ⟨d0, d3, d4, dz3, _, _⟩ := hR1.cells
  obtain ⟨q1, q2, _, _, _, q16, _, _⟩ := hE1.full
  rw [hx] at q1
  rw [hz] at q2
  have qbe := hF1.be
  have qbs := hF1.bs
  have hs1 := hb1.size
  have HF1 := Lib.hid hF1
  have HE1 := Lib.hid hE1
  have HR1 := Lib.hid hR1
  have HG1 := Lib.hid hG1
  have HEOF1 := Lib.hid hEof1
  have HB1 := Lib.hid hb1
  clear hb1 hF1 hE1 hR1 hG1 hEof1 c0 c3 c4 z3 y1 y2 y16 hbe hbs hw1 hw3
  by_cases hzo : z ≤ o
  · have hle : (z : Int) - (o : Int) ≤ 0 := by omega
    have heo : w1.cell? ⟨0, 0, none⟩ = some (eofV a) := HEOF1.out
    go_upto_region 9 with (fail)
    go_quiet (fail)
    go_wp2_with fail
    go_ret2
    exact .inl ⟨hzo, rfl, HB1.out.trans (below_drewN (Below.refl _ _) _ |>.mono hs1)⟩
  · obtain ⟨d, hd⟩ : ∃ d : Nat, (z : Int) - (o : Int) = d := ⟨z - o, by omega⟩
    have HD2 := Lib.hid (show d = z - o by omega)
    have hna := nilAhead_readAt mb
    have hnle : ¬ (d : Int) ≤ 0 := by omega
    have hd0 : ¬ d = 0 := by omega
    have hn0 : ¬ n = 0 := by omega
    rw [hd]
    have hw1 : IntKind.i64.wrap (z : Int) = (z : Int) := IntWalk.i64_in _ (by omega)
    have hw4 : IntKind.i64.wrap ((x : Int) * 2048) = (x : Int) * 2048 := IntWalk.i64_in _ (by omega)
    have hw5 : IntKind.i64.wrap ((x : Int) * 2048 + (o : Int)) = (x : Int) * 2048 + (o : Int) := IntWalk.i64_in _ (by omega)
    by_cases hnd : n < d
    · have hndz : (n : Int) < (d : Int) := by omega
      go_upto_region 12 with (fail)
      have hk0 : (0 : Int) ≤ (n : Int) := by omega
      have hkn : (n : Int) ≤ (n : Int) := by omega
      have hkt : ((n : Int)).toNat = n := by omega
      go_cut [11, 12] from 65 to 86 (fun t11 t12 wx => t12 = .nilIface ∧ Blk wx gb (splice PB 0 (seg D (x * 2048 + o) n)) ∧ Chg w1 wx gb)
      case first =>
        refine wp_region_noPanic ?_
        refine wp_region_held_drew (S := fun w' => w'.cell? ⟨fp, 5, none⟩ = some (.int .i64 2048) ∧ w'.cell? ⟨fb, 3, none⟩ = some (.int .i64 (o : Int))) (by kernel_rfl) ⟨qbs, d3⟩ (fun hS0 => ?_)
        refine hTake (i := 0) (v := ?_) (some 66) rfl rfl (by kernel_rfl) (by kernel_rfl) (by kernel_rfl) (fun _ _ _ h => h) (Or.inl ⟨by rfl, ?hyA12x0⟩) hS0 ?hrA12x0
        case hyA12x0 => (intro w' hSw; have hq := hSw; obtain ⟨s1, s2⟩ := hq; clear hSw; go_simp; try with_reducible rfl)
        try simp only [Act.put, List.setIfInBounds_toArray, List.set_cons_zero, List.set_cons_succ]
        refine hTake (i := 1) (v := ?_) (some 67) rfl rfl (by kernel_rfl) (by kernel_rfl) (by kernel_rfl) (fun _ _ _ h => h) (Or.inl ⟨by rfl, ?hyA12x1⟩) hS0 ?hrA12x1
        case hyA12x1 => (intro w' hSw; have hq := hSw; obtain ⟨s1, s2⟩ := hq; clear hSw; go_simp; try with_reducible rfl)
        try simp only [Act.put, List.setIfInBounds_toArray, List.set_cons_zero, List.set_cons_succ]
        refine hTake (i := 2) (v := ?_) (some 68) rfl rfl (by kernel_rfl) (by kernel_rfl) (by kernel_rfl) (fun _ _ _ h => h) (Or.inl ⟨by rfl, ?hyA12x2⟩) hS0 ?hrA12x2
        case hyA12x2 => (intro w' hSw; have hq := hSw; obtain ⟨s1, s2⟩ := hq; clear hSw; go_simp; try with_reducible rfl)
        try simp only [Act.put, List.setIfInBounds_toArray, List.set_cons_zero, List.set_cons_succ]
        refine hTake (i := 3) (v := ?_) (some 69) rfl rfl (by kernel_rfl) (by kernel_rfl) (by kernel_rfl) (fun _ _ _ h => h) (Or.inl ⟨by rfl, ?hyA12x3⟩) hS0 ?hrA12x3
        case hyA12x3 => (intro w' hSw; have hq := hSw; obtain ⟨s1, s2⟩ := hq; clear hSw; go_simp; try with_reducible rfl)
        try simp only [Act.put, List.setIfInBounds_toArray, List.set_cons_zero, List.set_cons_succ]
        refine hTake (i := 4) (v := ?_) (some 70) rfl rfl (by kernel_rfl) (by kernel_rfl) (by kernel_rfl) (fun _ _ _ h => h) (Or.inl ⟨by rfl, ?hyA12x4⟩) hS0 ?hrA12x4
        case hyA12x4 => (intro w' hSw; have hq := hSw; obtain ⟨s1, s2⟩ := hq; clear hSw; go_simp; try with_reducible rfl)
        try simp only [Act.put, List.setIfInBounds_toArray, List.set_cons_zero, List.set_cons_succ]
        refine hTake (i := 5) (v := ?_) (some 71) rfl rfl (by kernel_rfl) (by kernel_rfl) (by kernel_rfl) (fun _ _ _ h => h) (Or.inl ⟨by rfl, ?hyA12x5⟩) hS0 ?hrA12x5
        case hyA12x5 => (intro w' hSw; have hq := hSw; obtain ⟨s1, s2⟩ := hq; clear hSw; go_simp; try with_reducible rfl)
        try simp only [Act.put, List.setIfInBounds_toArray, List.set_cons_zero, List.set_cons_succ]
        refine hTake (i := 6) (v := ?_) (some 72) rfl rfl (by kernel_rfl) (by kernel_rfl) (by kernel_rfl) (fun _ _ _ h => h) (Or.inl ⟨by rfl, ?hyA12x6⟩) hS0 ?hrA12x6
        case hyA12x6 => (intro w' hSw; have hq := hSw; obtain ⟨s1, s2⟩ := hq; clear hSw; go_simp; try with_reducible rfl)
        try simp only [Act.put, List.setIfInBounds_toArray, List.set_cons_zero, List.set_cons_succ]
        refine hTake (i := 7) (v := ?_) (some 73) rfl rfl (by kernel_rfl) (by kernel_rfl) (by kernel_rfl) (fun _ _ _ h => h) (Or.inl ⟨by rfl, ?hyA12x7⟩) hS0 ?hrA12x7
        case hyA12x7 => (intro w' hSw; have hq := hSw; obtain ⟨s1, s2⟩ := hq; clear hSw; go_simp; try with_reducible rfl)
        try simp only [Act.put, List.setIfInBounds_toArray, List.set_cons_zero, List.set_cons_succ]
        refine hTake (i := 8) (v := ?_) (some 74) rfl rfl (by kernel_rfl) (by kernel_rfl) (by kernel_rfl) (fun _ _ _ h => h) (Or.inl ⟨by rfl, ?hyA12x8⟩) hS0 ?hrA12x8
        case hyA12x8 => (intro w' hSw; have hq := hSw; obtain ⟨s1, s2⟩ := hq; clear hSw; go_simp; try with_reducible rfl)
        try simp only [Act.put, List.setIfInBounds_toArray, List.set_cons_zero, List.set_cons_succ]
        refine hTake (i := 9) (v := ?_) (some 75) rfl rfl (by kernel_rfl) (by kernel_rfl) (by kernel_rfl) (fun _ _ _ h => h) (Or.inl ⟨by rfl, ?hyA12x9⟩) hS0 ?hrA12x9
        case hyA12x9 => (intro w' hSw; have hq := hSw; obtain ⟨s1, s2⟩ := hq; clear hSw; go_simp; try with_reducible rfl)
        try simp only [Act.put, List.setIfInBounds_toArray, List.set_cons_zero, List.set_cons_succ]
        refine hTake (i := 10) (v := ?_) (some 76) rfl rfl (by kernel_rfl) (by kernel_rfl) (by kernel_rfl) (fun _ _ _ h => h) (Or.inl ⟨by rfl, ?hyA12x10⟩) hS0 ?hrA12x10
        case hyA12x10 => (intro w' hSw; have hq := hSw; obtain ⟨s1, s2⟩ := hq; clear hSw; go_simp; try with_reducible rfl)
        try simp only [Act.put, List.setIfInBounds_toArray, List.set_cons_zero, List.set_cons_succ]
        refine hTake (i := 11) (v := ?_) (some 77) rfl rfl (by kernel_rfl) (by kernel_rfl) (by kernel_rfl) (fun _ _ _ h => h) (Or.inl ⟨by rfl, ?hyA12x11⟩) hS0 ?hrA12x11
        case hyA12x11 => (intro w' hSw; have hq := hSw; obtain ⟨s1, s2⟩ := hq; clear hSw; go_simp; try with_reducible rfl)
        try simp only [Act.put, List.setIfInBounds_toArray, List.set_cons_zero, List.set_cons_succ]
        refine hTake (i := 12) (v := ?_) (some 78) rfl rfl (by kernel_rfl) (by kernel_rfl) (by kernel_rfl) (fun _ _ _ h => h) (Or.inl ⟨by rfl, ?hyA12x12⟩) hS0 ?hrA12x12
        case hyA12x12 => (intro w' hSw; have hq := hSw; obtain ⟨s1, s2⟩ := hq; clear hSw; go_simp; try with_reducible rfl)
        try simp only [Act.put, List.setIfInBounds_toArray, List.set_cons_zero, List.set_cons_succ]
        refine hTake (i := 13) (v := ?_) (some 79) rfl rfl (by kernel_rfl) (by kernel_rfl) (by kernel_rfl) (fun _ _ _ h => h) (Or.inl ⟨by rfl, ?hyA12x13⟩) hS0 ?hrA12x13
        case hyA12x13 => (intro w' hSw; have hq := hSw; obtain ⟨s1, s2⟩ := hq; clear hSw; go_simp; try with_reducible rfl)
        try simp only [Act.put, List.setIfInBounds_toArray, List.set_cons_zero, List.set_cons_succ]
        refine hTake (i := 14) (v := ?_) (some 80) rfl rfl (by kernel_rfl) (by kernel_rfl) (by kernel_rfl) (fun _ _ _ h => h) (Or.inl ⟨by rfl, ?hyA12x14⟩) hS0 ?hrA12x14
        case hyA12x14 => (intro w' hSw; have hq := hSw; obtain ⟨s1, s2⟩ := hq; clear hSw; go_simp; try with_reducible rfl)
        try simp only [Act.put, List.setIfInBounds_toArray, List.set_cons_zero, List.set_cons_succ]
        refine hTake (i := 15) (v := ?_) (some 81) rfl rfl (by kernel_rfl) (by kernel_rfl) (by kernel_rfl) (fun _ _ _ h => h) (Or.inl ⟨by rfl, ?hyA12x15⟩) hS0 ?hrA12x15
        case hyA12x15 => (intro w' hSw; have hq := hSw; obtain ⟨s1, s2⟩ := hq; clear hSw; go_simp; try with_reducible rfl)
        try simp only [Act.put, List.setIfInBounds_toArray, List.set_cons_zero, List.set_cons_succ]
        refine hTake (i := 16) (v := ?_) (some 82) rfl rfl (by kernel_rfl) (by kernel_rfl) (by kernel_rfl) (fun _ _ _ h => h) (Or.inl ⟨by rfl, ?hyA12x16⟩) hS0 ?hrA12x16
        case hyA12x16 => (intro w' hSw; have hq := hSw; obtain ⟨s1, s2⟩ := hq; clear hSw; go_simp; try with_reducible rfl)
        try simp only [Act.put, List.setIfInBounds_toArray, List.set_cons_zero, List.set_cons_succ]
        refine hTake (i := 17) (v := ?_) (some 83) rfl rfl (by kernel_rfl) (by kernel_rfl) (by kernel_rfl) (fun _ _ _ h => h) (Or.inl ⟨by rfl, ?hyA12x17⟩) hS0 ?hrA12x17
        case hyA12x17 => (intro w' hSw; have hq := hSw; obtain ⟨s1, s2⟩ := hq; clear hSw; go_simp; try with_reducible rfl)
        try simp only [Act.put, List.setIfInBounds_toArray, List.set_cons_zero, List.set_cons_succ]
        refine wpAnyH_all (rs := [18]) (by kernel_rfl) (by simp) (rows1 ?_)
        refine hCall (f := 173) (args := #[.pointer (some ⟨mb, 0, none⟩), .slice (some ⟨gb, 0, none⟩) n n, .int .i64 ((x : Int) * 2048 + (o : Int))]) (some 84) rfl rfl rfl (invoke_readAt rfl _ mb _ _ _ rfl (by first | rfl | simp [Act.eval, hkt]) (by first | rfl | simp [Act.eval, hw2, hw4, hw5])) ?_
        refine (ReadAt_at B mb gb 0 n n (x * 2048 + o) _ (by omega) D PB w1.drew HF1.out.drew.mem HG1.out.drew (by omega) (by omega) (by omega) (by omega) (by omega)).mono ?_
        rintro e w5x ⟨rfl, hblk5, hchg⟩
        have hS2 : w5x.cell? ⟨fp, 5, none⟩ = some (.int .i64 2048) ∧ w5x.cell? ⟨fb, 3, none⟩ = some (.int .i64 (o : Int)) :=
          ⟨by rw [World.cell?_of_block (hchg.block fp (by omega))]; exact qbs, by rw [World.cell?_of_block (hchg.block fb (by omega))]; exact d3⟩
        refine ⟨_, rfl, hS2, ?_⟩
        try simp only [Act.put, List.setIfInBounds_toArray, List.set_cons_zero, List.set_cons_succ]
        refine hTake (i := 19) (v := ?_) (some 65) rfl rfl (by kernel_rfl) (by kernel_rfl) (by kernel_rfl) (fun _ _ _ h => h) (Or.inl ⟨by rfl, ?hyA12x19⟩) hS2 ?hrA12x19
        case hyA12x19 => (intro w' hSw; clear hSw; go_simp; try with_reducible rfl)
        try simp only [Act.put, List.setIfInBounds_toArray, List.set_cons_zero, List.set_cons_succ]
        refine hTake (i := 20) (v := ?_) (some 85) rfl rfl (by kernel_rfl) (by kernel_rfl) (by kernel_rfl) (fun _ _ _ h => h) (Or.inl ⟨by rfl, ?hyA12x20⟩) hS2 ?hrA12x20
        case hyA12x20 => (intro w' hSw; clear hSw; go_simp; try with_reducible rfl)
        try simp only [Act.put, List.setIfInBounds_toArray, List.set_cons_zero, List.set_cons_succ]
        refine hTake (i := 21) (v := ?_) (some 86) rfl rfl (by kernel_rfl) (by kernel_rfl) (by kernel_rfl) (fun _ _ _ h => h) (Or.inl ⟨by rfl, ?hyA12x21⟩) hS2 ?hrA12x21
        case hyA12x21 => (intro w' hSw; clear hSw; go_simp; try with_reducible rfl)
        try simp only [Act.put, List.setIfInBounds_toArray, List.set_cons_zero, List.set_cons_succ]
        refine hTake (i := 22) (v := ?_) (some 11) rfl rfl (by kernel_rfl) (by kernel_rfl) (by kernel_rfl) (fun _ _ _ h => h) (Or.inl ⟨by rfl, ?hyA12x22⟩) hS2 ?hrA12x22
        case hyA12x22 => (intro w' hSw; clear hSw; go_simp; try with_reducible rfl)
        try simp only [Act.put, List.setIfInBounds_toArray, List.set_cons_zero, List.set_cons_succ]
        refine hTake (i := 23) (v := ?_) (some 12) rfl rfl (by kernel_rfl) (by kernel_rfl) (by kernel_rfl) (fun _ _ _ h => h) (Or.inl ⟨by rfl, ?hyA12x23⟩) hS2 ?hrA12x23
        case hyA12x23 => (intro w' hSw; clear hSw; go_simp; try with_reducible rfl)
        try simp only [Act.put, List.setIfInBounds_toArray, List.set_cons_zero, List.set_cons_succ]
        refine wpAnyH_done (by kernel_rfl) ?_ _
        refine NoPanic.normal ?_
        have HK5 := Lib.hid hblk5
        have HC5 := Lib.hid hchg
        clear hblk5 hchg hS2
        go_wp2_with fail
        go_meet
        exact ⟨rfl, HK5.out, HC5.out.os, HC5.out.tape, HC5.out.output, HC5.out.size, HC5.out.block⟩
      obtain ⟨rfl, hblk2, hchg⟩ := hcut
      obtain ⟨w2, rfl⟩ : ∃ w2 : World, w2 = wc := ⟨_, rfl⟩
      have hb12 : ∀ B, B ≤ gb → Below B w1 w2 := fun B hB => hchg.below (Below.refl _ _) hB
      have hR2 : FileRow w2 fb p (o : Int) false := (hchg.block fb (by omega)).trans HR1.out
      obtain ⟨m0, m3, m4, mz3, _, mfl⟩ := hR2.cells
      have hw6 : IntKind.i64.wrap ((o : Int) + (n : Int)) = (o : Int) + (n : Int) := IntWalk.i64_in _ (by omega)
      have HR2 := Lib.hid hR2
      have HK2 := Lib.hid hblk2
      have HC := Lib.hid hchg
      have HB12 := Lib.hid hb12
      clear hchg hblk2 hR2 hb12 d0 d3 d4 dz3 q1 q2 q16 hw4 hw5 qbe qbs
      go_upto_region 17 with (fail)
      obtain ⟨w3, hw3e⟩ : ∃ w3, w3 = w2.setCell ⟨fb, 3, none⟩ (.int .i64 ((o : Int) + (n : Int))) := ⟨_, rfl⟩
      have hR3 : FileRow w3 fb p ((o : Int) + (n : Int)) false := by rw [hw3e]; exact HR2.out.set3 _
      have hoth : ∀ j, j ≠ fb → w3.heap[j]? = w2.heap[j]? := fun j hj => by rw [hw3e]; exact Below.heap_setCell _ _ _ _ hj
      have hb23 : ∀ B, B ≤ fb → Below B w2 w3 := fun B hB => by rw [hw3e]; exact (Below.refl _ _).setCell hB _
      rw [← hw3e]
      have hK3 : Blk w3 gb (splice PB 0 (seg D (x * 2048 + o) n)) := HK2.out.same (hoth gb hgf)
      have hE3 : EntAt w3 p r (.pointer (some ⟨fp, 0, none⟩)) := by
        obtain ⟨ea, eb, ec, ge, h1⟩ := HE1.out
        exact ⟨ea, eb, ec, ge, (hoth p hpf).trans ((HC.out.block p hpg).trans h1)⟩
      obtain ⟨j0, j3, j4, _, _, jfl⟩ := hR3.cells
      have j2 := hE3.full.2.1
      rw [hz] at j2
      have hsz3 : w3.heap.size = w1.heap.size := by rw [hw3e]; simp only [World.setCell]; rw [Array.size_modify]; exact HC.out.size
      have hgl3 := hK3.lt
      have HR3 := Lib.hid hR3
      have HK3 := Lib.hid hK3
      have HB23 := Lib.hid hb23
      clear hR3 hK3 hE3 hb23 hoth hw3e m0 m3 m4 mz3 mfl
      go_cut [115] from 103 to 114 (fun t115 wx => t115 = .bool (decide ((z : Int) ≤ (o : Int) + (n : Int))) ∧ Below w3.heap.size w3 wx)
      case first =>
        go_quiet (fail)
        go_wp2_with fail
        go_meet
        exact ⟨rfl, below_drewN (Below.refl _ _) _⟩
      obtain ⟨rfl, hb4⟩ := hcut
      obtain ⟨w4, rfl⟩ : ∃ w4 : World, w4 = wc := ⟨_, rfl⟩
      have hR4 : FileRow w4 fb p ((o : Int) + (n : Int)) false := (hb4.block _ jfl).trans HR3.out
      have hK4 := HK3.out.same (hb4.block _ hgl3)
      have hbl : ∀ B, B ≤ gb → B ≤ fb → B ≤ w.heap.size → Below B w w4 := fun B h1 h2 h3 => (((HB1.out.mono h3).trans (HB12.out B h1)).trans (HB23.out B h2)).trans (hb4.mono (by omega))
      have heo : w4.cell? ⟨0, 0, none⟩ = some (eofV a) := EofAt.keep (B := B) HEOF.out (hbl B hB1 hB2 hFhi) (by omega)
      have hk : n = min (z - o) n := by have := HD2.out; omega
      have HR4 := Lib.hid hR4
      have HK4 := Lib.hid hK4
      have HBL := Lib.hid hbl
      have HKK := Lib.hid hk
      clear hR4 hK4 hbl hb4 hk
      by_cases hzk : z ≤ o + n
      · first
        | (exfalso; have := HD2.out; omega)
        | (have hzk2 : (z : Int) ≤ (o : Int) + (n : Int) := by omega
           go_wp2
           go_ret2
           refine .inr ⟨by omega, n, HKK.out, ?_, HK4.out, HR4.out, HBL.out⟩
           rw [if_pos hzk]
           try rfl)
      · first
        | (exfalso; have := HD2.out; omega)
        | (have hzk2 : ¬ (z : Int) ≤ (o : Int) + (n : Int) := by omega
           go_wp2
           go_ret2
           refine .inr ⟨by omega, n, HKK.out, ?_, HK4.out, HR4.out, HBL.out⟩
           rw [if_neg hzk]
           try rfl)
    · have hndz : ¬ (n : Int) < (d : Int) := by omega
      go_upto_region 12 with (fail)
      have hk0 : (0 : Int) ≤ (d : Int) := by omega
      have hkn : (d : Int) ≤ (n : Int) := by omega
      have hkt : ((d : Int)).toNat = d := by omega
      go_cut [11, 12] from 65 to 86 (fun t11 t12 wx => t12 = .nilIface ∧ Blk wx gb (splice PB 0 (seg D (x * 2048 + o) d)) ∧ Chg w1 wx gb)
      case first =>
        refine wp_region_noPanic ?_
        refine wp_region_held_drew (S := fun w' => w'.cell? ⟨fp, 5, none⟩ = some (.int .i64 2048) ∧ w'.cell? ⟨fb, 3, none⟩ = some (.int .i64 (o : Int))) (by kernel_rfl) ⟨qbs, d3⟩ (fun hS0 => ?_)
        refine hTake (i := 0) (v := ?_) (some 66) rfl rfl (by kernel_rfl) (by kernel_rfl) (by kernel_rfl) (fun _ _ _ h => h) (Or.inl ⟨by rfl, ?hyB12x0⟩) hS0 ?hrB12x0
        case hyB12x0 => (intro w' hSw; have hq := hSw; obtain ⟨s1, s2⟩ := hq; clear hSw; go_simp; try with_reducible rfl)
        try simp only [Act.put, List.setIfInBounds_toArray, List.set_cons_zero, List.set_cons_succ]
        refine hTake (i := 1) (v := ?_) (some 67) rfl rfl (by kernel_rfl) (by kernel_rfl) (by kernel_rfl) (fun _ _ _ h => h) (Or.inl ⟨by rfl, ?hyB12x1⟩) hS0 ?hrB12x1
        case hyB12x1 => (intro w' hSw; have hq := hSw; obtain ⟨s1, s2⟩ := hq; clear hSw; go_simp; try with_reducible rfl)
        try simp only [Act.put, List.setIfInBounds_toArray, List.set_cons_zero, List.set_cons_succ]
        refine hTake (i := 2) (v := ?_) (some 68) rfl rfl (by kernel_rfl) (by kernel_rfl) (by kernel_rfl) (fun _ _ _ h => h) (Or.inl ⟨by rfl, ?hyB12x2⟩) hS0 ?hrB12x2
        case hyB12x2 => (intro w' hSw; have hq := hSw; obtain ⟨s1, s2⟩ := hq; clear hSw; go_simp; try with_reducible rfl)
        try simp only [Act.put, List.setIfInBounds_toArray, List.set_cons_zero, List.set_cons_succ]
        refine hTake (i := 3) (v := ?_) (some 69) rfl rfl (by kernel_rfl) (by kernel_rfl) (by kernel_rfl) (fun _ _ _ h => h) (Or.inl ⟨by rfl, ?hyB12x3⟩) hS0 ?hrB12x3
        case hyB12x3 => (intro w' hSw; have hq := hSw; obtain ⟨s1, s2⟩ := hq; clear hSw; go_simp; try with_reducible rfl)
        try simp only [Act.put, List.setIfInBounds_toArray, List.set_cons_zero, List.set_cons_succ]
        refine hTake (i := 4) (v := ?_) (some 70) rfl rfl (by kernel_rfl) (by kernel_rfl) (by kernel_rfl) (fun _ _ _ h => h) (Or.inl ⟨by rfl, ?hyB12x4⟩) hS0 ?hrB12x4
        case hyB12x4 => (intro w' hSw; have hq := hSw; obtain ⟨s1, s2⟩ := hq; clear hSw; go_simp; try with_reducible rfl)
        try simp only [Act.put, List.setIfInBounds_toArray, List.set_cons_zero, List.set_cons_succ]
        refine hTake (i := 5) (v := ?_) (some 71) rfl rfl (by kernel_rfl) (by kernel_rfl) (by kernel_rfl) (fun _ _ _ h => h) (Or.inl ⟨by rfl, ?hyB12x5⟩) hS0 ?hrB12x5
        case hyB12x5 => (intro w' hSw; have hq := hSw; obtain ⟨s1, s2⟩ := hq; clear hSw; go_simp; try with_reducible rfl)
        try simp only [Act.put, List.setIfInBounds_toArray, List.set_cons_zero, List.set_cons_succ]
        refine hTake (i := 6) (v := ?_) (some 72) rfl rfl (by kernel_rfl) (by kernel_rfl) (by kernel_rfl) (fun _ _ _ h => h) (Or.inl ⟨by rfl, ?hyB12x6⟩) hS0 ?hrB12x6
        case hyB12x6 => (intro w' hSw; have hq := hSw; obtain ⟨s1, s2⟩ := hq; clear hSw; go_simp; try with_reducible rfl)
        try simp only [Act.put, List.setIfInBounds_toArray, List.set_cons_zero, List.set_cons_succ]
        refine hTake (i := 7) (v := ?_) (some 73) rfl rfl (by kernel_rfl) (by kernel_rfl) (by kernel_rfl) (fun _ _ _ h => h) (Or.inl ⟨by rfl, ?hyB12x7⟩) hS0 ?hrB12x7
        case hyB12x7 => (intro w' hSw; have hq := hSw; obtain ⟨s1, s2⟩ := hq; clear hSw; go_simp; try with_reducible rfl)
        try simp only [Act.put, List.setIfInBounds_toArray, List.set_cons_zero, List.set_cons_succ]
        refine hTake (i := 8) (v := ?_) (some 74) rfl rfl (by kernel_rfl) (by kernel_rfl) (by kernel_rfl) (fun _ _ _ h => h) (Or.inl ⟨by rfl, ?hyB12x8⟩) hS0 ?hrB12x8
        case hyB12x8 => (intro w' hSw; have hq := hSw; obtain ⟨s1, s2⟩ := hq; clear hSw; go_simp; try with_reducible rfl)
        try simp only [Act.put, List.setIfInBounds_toArray, List.set_cons_zero, List.set_cons_succ]
        refine hTake (i := 9) (v := ?_) (some 75) rfl rfl (by kernel_rfl) (by kernel_rfl) (by kernel_rfl) (fun _ _ _ h => h) (Or.inl ⟨by rfl, ?hyB12x9⟩) hS0 ?hrB12x9
        case hyB12x9 => (intro w' hSw; have hq := hSw; obtain ⟨s1, s2⟩ := hq; clear hSw; go_simp; try with_reducible rfl)
        try simp only [Act.put, List.setIfInBounds_toArray, List.set_cons_zero, List.set_cons_succ]
        refine hTake (i := 10) (v := ?_) (some 76) rfl rfl (by kernel_rfl) (by kernel_rfl) (by kernel_rfl) (fun _ _ _ h => h) (Or.inl ⟨by rfl, ?hyB12x10⟩) hS0 ?hrB12x10
        case hyB12x10 => (intro w' hSw; have hq := hSw; obtain ⟨s1, s2⟩ := hq; clear hSw; go_simp; try with_reducible rfl)
        try simp only [Act.put, List.setIfInBounds_toArray, List.set_cons_zero, List.set_cons_succ]
        refine hTake (i := 11) (v := ?_) (some 77) rfl rfl (by kernel_rfl) (by kernel_rfl) (by kernel_rfl) (fun _ _ _ h => h) (Or.inl ⟨by rfl, ?hyB12x11⟩) hS0 ?hrB12x11
        case hyB12x11 => (intro w' hSw; have hq := hSw; obtain ⟨s1, s2⟩ := hq; clear hSw; go_simp; try with_reducible rfl)
        try simp only [Act.put, List.setIfInBounds_toArray, List.set_cons_zero, List.set_cons_succ]
        refine hTake (i := 12) (v := ?_) (some 78) rfl rfl (by kernel_rfl) (by kernel_rfl) (by kernel_rfl) (fun _ _ _ h => h) (Or.inl ⟨by rfl, ?hyB12x12⟩) hS0 ?hrB12x12
        case hyB12x12 => (intro w' hSw; have hq := hSw; obtain ⟨s1, s2⟩ := hq; clear hSw; go_simp; try with_reducible rfl)
        try simp only [Act.put, List.setIfInBounds_toArray, List.set_cons_zero, List.set_cons_succ]
        refine hTake (i := 13) (v := ?_) (some 79) rfl rfl (by kernel_rfl) (by kernel_rfl) (by kernel_rfl) (fun _ _ _ h => h) (Or.inl ⟨by rfl, ?hyB12x13⟩) hS0 ?hrB12x13
        case hyB12x13 => (intro w' hSw; have hq := hSw; obtain ⟨s1, s2⟩ := hq; clear hSw; go_simp; try with_reducible rfl)
        try simp only [Act.put, List.setIfInBounds_toArray, List.set_cons_zero, List.set_cons_succ]
        refine hTake (i := 14) (v := ?_) (some 80) rfl rfl (by kernel_rfl) (by kernel_rfl) (by kernel_rfl) (fun _ _ _ h => h) (Or.inl ⟨by rfl, ?hyB12x14⟩) hS0 ?hrB12x14
        case hyB12x14 => (intro w' hSw; have hq := hSw; obtain ⟨s1, s2⟩ := hq; clear hSw; go_simp; try with_reducible rfl)
        try simp only [Act.put, List.setIfInBounds_toArray, List.set_cons_zero, List.set_cons_succ]
        refine hTake (i := 15) (v := ?_) (some 81) rfl rfl (by kernel_rfl) (by kernel_rfl) (by kernel_rfl) (fun _ _ _ h => h) (Or.inl ⟨by rfl, ?hyB12x15⟩) hS0 ?hrB12x15
        case hyB12x15 => (intro w' hSw; have hq := hSw; obtain ⟨s1, s2⟩ := hq; clear hSw; go_simp; try with_reducible rfl)
        try simp only [Act.put, List.setIfInBounds_toArray, List.set_cons_zero, List.set_cons_succ]
        refine hTake (i := 16) (v := ?_) (some 82) rfl rfl (by kernel_rfl) (by kernel_rfl) (by kernel_rfl) (fun _ _ _ h => h) (Or.inl ⟨by rfl, ?hyB12x16⟩) hS0 ?hrB12x16
        case hyB12x16 => (intro w' hSw; have hq := hSw; obtain ⟨s1, s2⟩ := hq; clear hSw; go_simp; try with_reducible rfl)
        try simp only [Act.put, List.setIfInBounds_toArray, List.set_cons_zero, List.set_cons_succ]
        refine hTake (i := 17) (v := ?_) (some 83) rfl rfl (by kernel_rfl) (by kernel_rfl) (by kernel_rfl) (fun _ _ _ h => h) (Or.inl ⟨by rfl, ?hyB12x17⟩) hS0 ?hrB12x17
        case hyB12x17 => (intro w' hSw; have hq := hSw; obtain ⟨s1, s2⟩ := hq; clear hSw; go_simp; try with_reducible rfl)
        try simp only [Act.put, List.setIfInBounds_toArray, List.set_cons_zero, List.set_cons_succ]
        refine wpAnyH_all (rs := [18]) (by kernel_rfl) (by simp) (rows1 ?_)
        refine hCall (f := 173) (args := #[.pointer (some ⟨mb, 0, none⟩), .slice (some ⟨gb, 0, none⟩) d n, .int .i64 ((x : Int) * 2048 + (o : Int))]) (some 84) rfl rfl rfl (invoke_readAt rfl _ mb _ _ _ rfl (by first | rfl | simp [Act.eval, hkt]) (by first | rfl | simp [Act.eval, hw2, hw4, hw5])) ?_
        refine (ReadAt_at B mb gb 0 d n (x * 2048 + o) _ (by omega) D PB w1.drew HF1.out.drew.mem HG1.out.drew (by omega) (by omega) (by omega) (by omega) (by omega)).mono ?_
        rintro e w5x ⟨rfl, hblk5, hchg⟩
        have hS2 : w5x.cell? ⟨fp, 5, none⟩ = some (.int .i64 2048) ∧ w5x.cell? ⟨fb, 3, none⟩ = some (.int .i64 (o : Int)) :=
          ⟨by rw [World.cell?_of_block (hchg.block fp (by omega))]; exact qbs, by rw [World.cell?_of_block (hchg.block fb (by omega))]; exact d3⟩
        refine ⟨_, rfl, hS2, ?_⟩
        try simp only [Act.put, List.setIfInBounds_toArray, List.set_cons_zero, List.set_cons_succ]
        refine hTake (i := 19) (v := ?_) (some 65) rfl rfl (by kernel_rfl) (by kernel_rfl) (by kernel_rfl) (fun _ _ _ h => h) (Or.inl ⟨by rfl, ?hyB12x19⟩) hS2 ?hrB12x19
        case hyB12x19 => (intro w' hSw; clear hSw; go_simp; try with_reducible rfl)
        try simp only [Act.put, List.setIfInBounds_toArray, List.set_cons_zero, List.set_cons_succ]
        refine hTake (i := 20) (v := ?_) (some 85) rfl rfl (by kernel_rfl) (by kernel_rfl) (by kernel_rfl) (fun _ _ _ h => h) (Or.inl ⟨by rfl, ?hyB12x20⟩) hS2 ?hrB12x20
        case hyB12x20 => (intro w' hSw; clear hSw; go_simp; try with_reducible rfl)
        try simp only [Act.put, List.setIfInBounds_toArray, List.set_cons_zero, List.set_cons_succ]
        refine hTake (i := 21) (v := ?_) (some 86) rfl rfl (by kernel_rfl) (by kernel_rfl) (by kernel_rfl) (fun _ _ _ h => h) (Or.inl ⟨by rfl, ?hyB12x21⟩) hS2 ?hrB12x21
        case hyB12x21 => (intro w' hSw; clear hSw; go_simp; try with_reducible rfl)
        try simp only [Act.put, List.setIfInBounds_toArray, List.set_cons_zero, List.set_cons_succ]
        refine hTake (i := 22) (v := ?_) (some 11) rfl rfl (by kernel_rfl) (by kernel_rfl) (by kernel_rfl) (fun _ _ _ h => h) (Or.inl ⟨by rfl, ?hyB12x22⟩) hS2 ?hrB12x22
        case hyB12x22 => (intro w' hSw; clear hSw; go_simp; try with_reducible rfl)
        try simp only [Act.put, List.setIfInBounds_toArray, List.set_cons_zero, List.set_cons_succ]
        refine hTake (i := 23) (v := ?_) (some 12) rfl rfl (by kernel_rfl) (by kernel_rfl) (by kernel_rfl) (fun _ _ _ h => h) (Or.inl ⟨by rfl, ?hyB12x23⟩) hS2 ?hrB12x23
        case hyB12x23 => (intro w' hSw; clear hSw; go_simp; try with_reducible rfl)
        try simp only [Act.put, List.setIfInBounds_toArray, List.set_cons_zero, List.set_cons_succ]
        refine wpAnyH_done (by kernel_rfl) ?_ _
        refine NoPanic.normal ?_
        have HK5 := Lib.hid hblk5
        have HC5 := Lib.hid hchg
        clear hblk5 hchg hS2
        go_wp2_with fail
        go_meet
        exact ⟨rfl, HK5.out, HC5.out.os, HC5.out.tape, HC5.out.output, HC5.out.size, HC5.out.block⟩
      obtain ⟨rfl, hblk2, hchg⟩ := hcut
      obtain ⟨w2, rfl⟩ : ∃ w2 : World, w2 = wc := ⟨_, rfl⟩
      have hb12 : ∀ B, B ≤ gb → Below B w1 w2 := fun B hB => hchg.below (Below.refl _ _) hB
      have hR2 : FileRow w2 fb p (o : Int) false := (hchg.block fb (by omega)).trans HR1.out
      obtain ⟨m0, m3, m4, mz3, _, mfl⟩ := hR2.cells
      have hw6 : IntKind.i64.wrap ((o : Int) + (d : Int)) = (o : Int) + (d : Int) := IntWalk.i64_in _ (by omega)
      have HR2 := Lib.hid hR2
      have HK2 := Lib.hid hblk2
      have HC := Lib.hid hchg
      have HB12 := Lib.hid hb12
      clear hchg hblk2 hR2 hb12 d0 d3 d4 dz3 q1 q2 q16 hw4 hw5 qbe qbs
      go_upto_region 17 with (fail)
      obtain ⟨w3, hw3e⟩ : ∃ w3, w3 = w2.setCell ⟨fb, 3, none⟩ (.int .i64 ((o : Int) + (d : Int))) := ⟨_, rfl⟩
      have hR3 : FileRow w3 fb p ((o : Int) + (d : Int)) false := by rw [hw3e]; exact HR2.out.set3 _
      have hoth : ∀ j, j ≠ fb → w3.heap[j]? = w2.heap[j]? := fun j hj => by rw [hw3e]; exact Below.heap_setCell _ _ _ _ hj
      have hb23 : ∀ B, B ≤ fb → Below B w2 w3 := fun B hB => by rw [hw3e]; exact (Below.refl _ _).setCell hB _
      rw [← hw3e]
      have hK3 : Blk w3 gb (splice PB 0 (seg D (x * 2048 + o) d)) := HK2.out.same (hoth gb hgf)
      have hE3 : EntAt w3 p r (.pointer (some ⟨fp, 0, none⟩)) := by
        obtain ⟨ea, eb, ec, ge, h1⟩ := HE1.out
        exact ⟨ea, eb, ec, ge, (hoth p hpf).trans ((HC.out.block p hpg).trans h1)⟩
      obtain ⟨j0, j3, j4, _, _, jfl⟩ := hR3.cells
      have j2 := hE3.full.2.1
      rw [hz] at j2
      have hsz3 : w3.heap.size = w1.heap.size := by rw [hw3e]; simp only [World.setCell]; rw [Array.size_modify]; exact HC.out.size
      have hgl3 := hK3.lt
      have HR3 := Lib.hid hR3
      have HK3 := Lib.hid hK3
      have HB23 := Lib.hid hb23
      clear hR3 hK3 hE3 hb23 hoth hw3e m0 m3 m4 mz3 mfl
      go_cut [115] from 103 to 114 (fun t115 wx => t115 = .bool (decide ((z : Int) ≤ (o : Int) + (d : Int))) ∧ Below w3.heap.size w3 wx)
      case first =>
        go_quiet (fail)
        go_wp2_with fail
        go_meet
        exact ⟨rfl, below_drewN (Below.refl _ _) _⟩
      obtain ⟨rfl, hb4⟩ := hcut
      obtain ⟨w4, rfl⟩ : ∃ w4 : World, w4 = wc := ⟨_, rfl⟩
      have hR4 : FileRow w4 fb p ((o : Int) + (d : Int)) false := (hb4.block _ jfl).trans HR3.out
      have hK4 := HK3.out.same (hb4.block _ hgl3)
      have hbl : ∀ B, B ≤ gb → B ≤ fb → B ≤ w.heap.size → Below B w w4 := fun B h1 h2 h3 => (((HB1.out.mono h3).trans (HB12.out B h1)).trans (HB23.out B h2)).trans (hb4.mono (by omega))
      have heo : w4.cell? ⟨0, 0, none⟩ = some (eofV a) := EofAt.keep (B := B) HEOF.out (hbl B hB1 hB2 hFhi) (by omega)
      have hk : d = min (z - o) n := by have := HD2.out; omega
      have HR4 := Lib.hid hR4
      have HK4 := Lib.hid hK4
      have HBL := Lib.hid hbl
      have HKK := Lib.hid hk
      clear hR4 hK4 hbl hb4 hk
      by_cases hzk : z ≤ o + d
      · first
        | (exfalso; have := HD2.out; omega)
        | (have hzk2 : (z : Int) ≤ (o : Int) + (d : Int) := by omega
           go_wp2
           go_ret2
           refine .inr ⟨by omega, d, HKK.out, ?_, HK4.out, HR4.out, HBL.out⟩
           rw [if_pos hzk]
           try rfl)
      · first
        | (exfalso; have := HD2.out; omega)
        | (have hzk2 : ¬ (z : Int) ≤ (o : Int) + (d : Int) := by omega
           go_wp2
           go_ret2
           refine .inr ⟨by omega, d, HKK.out, ?_, HK4.out, HR4.out, HBL.out⟩
           rw [if_neg hzk]
           try rfl)

end Go.Proofs.YtfppgplboomdbaaGreatDoor
