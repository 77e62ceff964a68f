/- Part of the proofs of laws.FnIsoTree and laws.FnIsoAt: lemmas and contracts of functions that the two laws reach, each under the hypotheses that its own statement names. -/
import Derived.Test.YtfppgplboomdbaaGreatDoorMK1
namespace Go.Proofs.YtfppgplboomdbaaGreatDoor
open Go.RowKit

theorem glR_dot (es : List PEnt) (e : PEnt) (h : es[0]? = some e) : glR es [[46]] = e.loc := by
  unfold glR
  dsimp only
  rw [if_pos rfl, h]
theorem glR_else (es : List PEnt) {a : Bs} (qs : List Bs) (h : a ≠ [46]) : glR es (a :: qs) = glF es 0 1 (qs.length + 1) a := by
  unfold glR
  dsimp only
  rw [if_neg h]; rfl
theorem run_make_4 (w : World) : ∃ w', (Instr.makeSlice 26 (.int .i64 4) (.int .i64 4)).run Tryz.prog w = .ok (.slice (some ⟨w.heap.size, 0, none⟩) 4 4) w' ∧ Blk w' w.heap.size (List.replicate 4 0) ∧ Below w.heap.size w w' ∧ w'.heap.size = w.heap.size + 1 := run_make_blk w 4 (by omega)
theorem size4 {Dd : Bs} {rsA : List RecE} {nd : Nat → Nd} {ks : List Nat} {i : Nat} (h : DirB Dd rsA) (hr : DirR nd ks i rsA) (hs : (nd i).size = 2048) : seg Dd 10 4 = [0, 8, 0, 0] := by
  obtain ⟨r0, r1, rs, rfl, h0, _, _⟩ := hr
  obtain ⟨z, hz⟩ := h.eq
  have e : recsB (r0 :: r1 :: rs) = recB r0 ++ recsB (r1 :: rs) := rfl
  rw [hz, e]
  unfold recB recC
  rw [h0.size, hs]
  rfl
/-- What a path is of: the root, or a node below it. -/
def PathOf (nd : Nat → Nd) (x : Nat) (s : ByteArray) : Prop := (x = 0 ∧ s.data.toList = [46]) ∨ (1 ≤ x ∧ s.data.toList = joinP (pth nd x))
def RdPost (fp : Nat) (nd : Nat → Nd) (ks : Nat → List Nat) (x : Nat) (w : World) (e : Ending) (w' : World) : Prop := ∃ (g cap : Nat) (ps : List Nat) (rsA : List RecE), e = .returned (.tuple #[.slice (some ⟨g, 0, none⟩) rsA.length cap, .nilIface]) ∧ g < w'.heap.size ∧ (∀ (j q : Nat), ps[j]? = some q → w'.cell? ⟨g, j, none⟩ = some (.pointer (some ⟨q, 0, none⟩))) ∧ Ents w w' fp ps rsA ∧ DirR nd (ks x) x rsA ∧ rsA.length ≤ 1000 ∧ Below w.heap.size w w'
theorem pth_str {nd : Nat → Nd} {n x : Nat} (g : GoodN nd n) (h1 : 1 ≤ x) (hx : x < n) {s : ByteArray} (hs : s.data.toList = joinP (pth nd x)) : PathS s (pth nd x) :=
  PathS.of hs (by rw [g.parts x h1 hx]; simp) (g.plain x hx) (g.deep x hx)
set_option maxHeartbeats 8000000 in
set_option maxRecDepth 100000 in
theorem readDirPVD_any {B fp mb pt rd n P : Nat} {D vol : Bs} {nd : Nat → Nd} {ks : Nat → List Nat} {ds : List Nat} (tr : Tr D nd ks n ds P vol) (x0 : Nat) (s : ByteArray) (rr : RecE) (w : World) (hF : FsAt w B fp mb pt rd D (esOf nd ds)) (hE : EntAt w rd rr (.pointer (some ⟨fp, 0, none⟩))) (hrx : rr.ext = (nd 0).ext) (hrs : rr.size = 2048) (_hrd : rd < B) (hx : x0 < n) (hdx : (nd x0).f.dir = true) (hp : PathOf nd x0 s) :
    Calls Tryz.prog 96 #[.pointer (some ⟨fp, 0, none⟩), .string s] w fun e w' => RdPost fp nd ks x0 w e w' := by
  have hext := tr.ext x0 hx
  obtain ⟨rsA, hDB, hDR⟩ := tr.dir x0 hx hdx
  have hfit := tr.fit x0 hx
  have hD3 := tr.len.2
  have hsz : sizeOfN nd x0 = 2048 := by unfold sizeOfN; rw [if_pos hdx]
  have hsz4 := size4 hDB hDR (by rw [tr.size x0 hx, hsz])
  rw [hsz] at hfit
  obtain ⟨x, hxe⟩ : ∃ x : Nat, (nd x0).ext = x := ⟨(nd x0).ext.toNat, by omega⟩
  have hxt : ((x : Int)).toNat = x := by omega
  have hx2 : ((2048 : Int)).toNat = 2048 := rfl
  rw [hxe, hxt, hx2] at hfit
  rw [hxe, hxt] at hDB hsz4
  rw [hxe] at hext
  rw [seg_seg _ _ _ _ _ (by omega)] at hsz4
  have hrl : rsA.length ≤ 1000 := by
    obtain ⟨_, _, rs, e, _, _, _, hl, _⟩ := hDR.kids tr.tree tr.good hx
    have hf := tr.few
    have := length_le_of_nodup n (ks x0) (tr.tree.nodup x0 hx) (fun y hy => ((tr.tree.mem x0 hx y).1 hy).2.1)
    rw [e]; simp; omega
  have hr2 : 2 ≤ rsA.length := by
    obtain ⟨_, _, rs, e, _⟩ := hDR
    rw [e]; simp
  have hn0 := tr.tree.pos
  -- the table's answer
  obtain ⟨ps, hels, hs1, hs2, hs92, hne, hans⟩ : ∃ ps, Lib.Pa.els s.data.toList = ps ∧ s.size ≤ 1000000 ∧ 0 < s.size ∧ 92 ∉ s.data.toList ∧ (∀ e ∈ ps, e ≠ []) ∧ (glR (esOf nd ds) ps = x ∨ (glR (esOf nd ds) ps = 0 ∧ 1 ≤ x0 ∧ s.data.toList = joinP (pth nd x0))) := by
    rcases hp with ⟨rfl, hs⟩ | ⟨h1, hs⟩
    · have hsz : s.size = 1 := by have : s.size = s.data.toList.length := rfl; rw [this, hs]; rfl
      refine ⟨[[46]], by rw [hs]; rfl, by omega, by omega, by rw [hs]; decide, by simp, .inl ?_⟩
      obtain ⟨e0, h2, h3⟩ := esOf_head tr.dirs
      rw [glR_dot _ _ h2, ← hxe]; exact h3
    · have hS := pth_str tr.good h1 hx hs
      refine ⟨pth nd x0, hS.els, hS.small, hS.pos, hS.no92, hS.ne, ?_⟩
      obtain ⟨a, qs, hq⟩ : ∃ a qs, pth nd x0 = a :: qs := by
        cases h : pth nd x0 with
        | nil => rw [tr.good.parts x0 h1 hx] at h; simp at h
        | cons a qs => exact ⟨a, qs, rfl⟩
      have ha46 : a ≠ [46] := (hS.plain a (by rw [hq]; simp)).dot
      obtain ⟨da, hda⟩ := tr.good.plain x0 hx a (by rw [hq]; simp)
      have hon := esOf_once tr.good tr.dirs tr.apart hda
      by_cases h0 : (nd x0).parent = 0
      · left
        have hq2 := tr.good.parts x0 h1 hx
        rw [h0] at hq2
        have e0 : pth nd 0 = [] := rfl
        rw [e0, List.nil_append] at hq2
        have ht := gl_top tr.good tr.dirs tr.apart h1 hx hdx h0
        rw [hq2]
        rw [hq2] at hq
        rw [glR_else _ _ (by rw [(List.cons.inj hq).1]; exact ha46), ← hxe]
        exact ht
      · right
        have hpar := tr.good.par x0 h1 hx
        have hlen : 2 ≤ (pth nd x0).length := by
          rw [tr.good.parts x0 h1 hx, tr.good.parts (nd x0).parent (by omega) (by omega)]
          simp
        refine ⟨?_, h1, hs⟩
        rw [hq]
        rw [glR_else _ _ ha46]
        exact glF_multi a _ _ _ _ hon (by rw [hq] at hlen; exact hlen)
  have hesl : 0 < (esOf nd ds).length ∧ (esOf nd ds).length ≤ 1000 := by
    obtain ⟨e0, h2, _⟩ := esOf_head tr.dirs
    refine ⟨(List.getElem?_eq_some_iff.1 h2).1, ?_⟩
    have hf := tr.few
    have : (esOf nd ds).length = ds.length := by simp [esOf]
    have h3 := length_le_of_nodup n ds tr.dirs.nodup (fun y hy => ((tr.dirs.mem y).1 hy).1)
    omega
  have hFhi := hF.hi
  have HF := Lib.hid hF
  have HE := Lib.hid hE
  have HDB := Lib.hid hDB
  have HDR := Lib.hid hDR
  have HELS := Lib.hid hels
  have H92 := Lib.hid hs92
  have HNE := Lib.hid hne
  have H4 := Lib.hid hsz4
  have hw0 : IntKind.i64.wrap (x : Int) = (x : Int) := IntWalk.i64_in _ (by omega)
  have hw1 : IntKind.i64.wrap ((x : Int) * 2048) = (x : Int) * 2048 := IntWalk.i64_in _ (by omega)
  have hw2 : IntKind.i64.wrap ((x : Int) * 2048 + 10) = (x : Int) * 2048 + 10 := IntWalk.i64_in _ (by omega)
  have hexq := hF.ex
  have hptq := hF.ptc
  have hxz : ((x : Int) != 0) = true := by simp; omega
  have hxz2 : ((x : Int) == 0) = false := by simp; omega
  clear hF hE hDB hDR hels hs92 hne hsz4 hp
  go_enter Tryz.func96, Tryz.ntmps96
  go_wp2
  go_loopw [10, 21] (fun tv iv wr => tv = .bool true ∧ iv = .int .i64 0 ∧ wr = w) (fun _ _ _ => 0)
  case atStart => exact ⟨rfl, rfl, rfl⟩
  case round =>
    obtain ⟨rfl, rfl, rfl⟩ := hrel
    obtain ⟨w0, rfl⟩ : ∃ w0 : World, w0 = wr := ⟨_, rfl⟩
    clear hw0 hw1 hw2 hxz hxz2
    go_upto_region 13 with (first
      | (go_at_call 120
         refine (ptLoc_any pt B (esOf nd ds) s ps w0 hFhi HF.out.tab hesl.1 hesl.2 hs1 hs2 H92.out HELS.out HNE.out).mono ?_
         rintro e w2 ⟨rfl, hb2⟩
         have HB2 := Lib.hid hb2
         have hsz2 := hb2.size
         clear hb2))
    have hw0 : IntKind.i64.wrap (x : Int) = (x : Int) := IntWalk.i64_in _ (by omega)
    have hw1 : IntKind.i64.wrap ((x : Int) * 2048) = (x : Int) * 2048 := IntWalk.i64_in _ (by omega)
    have hw2 : IntKind.i64.wrap ((x : Int) * 2048 + 10) = (x : Int) * 2048 + 10 := IntWalk.i64_in _ (by omega)
    have hxz : ((x : Int) != 0) = true := by simp; omega
    have hxz2 : ((x : Int) == 0) = false := by simp; omega
    have hF2 : FsAt w2 B fp mb pt rd D (esOf nd ds) := HF.out.below HB2.out
    have hrdq := hF2.rdc
    have HF2 := Lib.hid hF2
    clear hexq hptq hF2
    rcases hans with hg | ⟨hg, hx1, hsj⟩
    · rw [hg]
      clear hg
      have hmk4 := run_make_4 w2
      obtain ⟨w3, hmk, hblk, hb3, hsz3⟩ := hmk4
      have HBLK := Lib.hid hblk
      have HB3 := Lib.hid hb3
      have HFW := Lib.hid (HF2.out.below hb3)
      have hbe := HFW.out.be
      have hbs := HFW.out.bs
      have hfl := HFW.out.fl
      have hs2' := HF2.out.hi
      clear hblk hb3
      go_upto_region 15 with (fail)
      go_cut [8, 9] from 40 to 58 (fun t8 t9 wx => t8 = .nilIface ∧ t9 = .int .i64 4 ∧ Blk wx w2.heap.size (seg D (x * 2048 + 10) 4) ∧ Below w2.heap.size w3 wx)
      case first =>
        refine wp_region_noPanic ?_
        refine wp_region_held_drew (S := fun w' => w'.cell? ⟨fp, 4, none⟩ = some (.iface 102 (.pointer (some ⟨mb, 0, none⟩))) ∧ w'.cell? ⟨fp, 5, none⟩ = some (.int .i64 2048)) (by kernel_rfl) ⟨hbe, hbs⟩ (fun hS0 => ?_)
        refine hTake (i := 0) (v := ?_) (some 41) rfl rfl (by kernel_rfl) (by kernel_rfl) (by kernel_rfl) (fun _ _ _ h => h) (Or.inl ⟨by rfl, ?hyA15x0⟩) hS0 ?hrA15x0
        case hyA15x0 => (intro w' hSw; have hq := hSw; obtain ⟨s1, s2⟩ := hq; clear hSw; go_simp; try with_reducible rfl)
        try simp only [Act.put, List.setIfInBounds_toArray, List.set_cons_zero, List.set_cons_succ]
        refine hTake (i := 1) (v := ?_) (some 42) rfl rfl (by kernel_rfl) (by kernel_rfl) (by kernel_rfl) (fun _ _ _ h => h) (Or.inl ⟨by rfl, ?hyA15x1⟩) hS0 ?hrA15x1
        case hyA15x1 => (intro w' hSw; have hq := hSw; obtain ⟨s1, s2⟩ := hq; clear hSw; go_simp; try with_reducible rfl)
        try simp only [Act.put, List.setIfInBounds_toArray, List.set_cons_zero, List.set_cons_succ]
        refine hTake (i := 2) (v := ?_) (some 43) rfl rfl (by kernel_rfl) (by kernel_rfl) (by kernel_rfl) (fun _ _ _ h => h) (Or.inl ⟨by rfl, ?hyA15x2⟩) hS0 ?hrA15x2
        case hyA15x2 => (intro w' hSw; have hq := hSw; obtain ⟨s1, s2⟩ := hq; clear hSw; go_simp; try with_reducible rfl)
        try simp only [Act.put, List.setIfInBounds_toArray, List.set_cons_zero, List.set_cons_succ]
        refine hTake (i := 3) (v := ?_) (some 44) rfl rfl (by kernel_rfl) (by kernel_rfl) (by kernel_rfl) (fun _ _ _ h => h) (Or.inl ⟨by rfl, ?hyA15x3⟩) hS0 ?hrA15x3
        case hyA15x3 => (intro w' hSw; have hq := hSw; obtain ⟨s1, s2⟩ := hq; clear hSw; go_simp; try with_reducible rfl)
        try simp only [Act.put, List.setIfInBounds_toArray, List.set_cons_zero, List.set_cons_succ]
        refine hTake (i := 4) (v := ?_) (some 45) rfl rfl (by kernel_rfl) (by kernel_rfl) (by kernel_rfl) (fun _ _ _ h => h) (Or.inl ⟨by rfl, ?hyA15x4⟩) hS0 ?hrA15x4
        case hyA15x4 => (intro w' hSw; have hq := hSw; obtain ⟨s1, s2⟩ := hq; clear hSw; go_simp; try with_reducible rfl)
        try simp only [Act.put, List.setIfInBounds_toArray, List.set_cons_zero, List.set_cons_succ]
        refine hTake (i := 5) (v := ?_) (some 46) rfl rfl (by kernel_rfl) (by kernel_rfl) (by kernel_rfl) (fun _ _ _ h => h) (Or.inl ⟨by rfl, ?hyA15x5⟩) hS0 ?hrA15x5
        case hyA15x5 => (intro w' hSw; have hq := hSw; obtain ⟨s1, s2⟩ := hq; clear hSw; go_simp; try with_reducible rfl)
        try simp only [Act.put, List.setIfInBounds_toArray, List.set_cons_zero, List.set_cons_succ]
        refine hTake (i := 6) (v := ?_) (some 47) rfl rfl (by kernel_rfl) (by kernel_rfl) (by kernel_rfl) (fun _ _ _ h => h) (Or.inl ⟨by rfl, ?hyA15x6⟩) hS0 ?hrA15x6
        case hyA15x6 => (intro w' hSw; have hq := hSw; obtain ⟨s1, s2⟩ := hq; clear hSw; go_simp; try with_reducible rfl)
        try simp only [Act.put, List.setIfInBounds_toArray, List.set_cons_zero, List.set_cons_succ]
        refine hTake (i := 7) (v := ?_) (some 48) rfl rfl (by kernel_rfl) (by kernel_rfl) (by kernel_rfl) (fun _ _ _ h => h) (Or.inl ⟨by rfl, ?hyA15x7⟩) hS0 ?hrA15x7
        case hyA15x7 => (intro w' hSw; have hq := hSw; obtain ⟨s1, s2⟩ := hq; clear hSw; go_simp; try with_reducible rfl)
        try simp only [Act.put, List.setIfInBounds_toArray, List.set_cons_zero, List.set_cons_succ]
        refine hTake (i := 8) (v := ?_) (some 49) rfl rfl (by kernel_rfl) (by kernel_rfl) (by kernel_rfl) (fun _ _ _ h => h) (Or.inl ⟨by rfl, ?hyA15x8⟩) hS0 ?hrA15x8
        case hyA15x8 => (intro w' hSw; have hq := hSw; obtain ⟨s1, s2⟩ := hq; clear hSw; go_simp; try with_reducible rfl)
        try simp only [Act.put, List.setIfInBounds_toArray, List.set_cons_zero, List.set_cons_succ]
        refine hTake (i := 9) (v := ?_) (some 50) rfl rfl (by kernel_rfl) (by kernel_rfl) (by kernel_rfl) (fun _ _ _ h => h) (Or.inl ⟨by rfl, ?hyA15x9⟩) hS0 ?hrA15x9
        case hyA15x9 => (intro w' hSw; have hq := hSw; obtain ⟨s1, s2⟩ := hq; clear hSw; go_simp; try with_reducible rfl)
        try simp only [Act.put, List.setIfInBounds_toArray, List.set_cons_zero, List.set_cons_succ]
        refine hTake (i := 10) (v := ?_) (some 51) rfl rfl (by kernel_rfl) (by kernel_rfl) (by kernel_rfl) (fun _ _ _ h => h) (Or.inl ⟨by rfl, ?hyA15x10⟩) hS0 ?hrA15x10
        case hyA15x10 => (intro w' hSw; have hq := hSw; obtain ⟨s1, s2⟩ := hq; clear hSw; go_simp; try with_reducible rfl)
        try simp only [Act.put, List.setIfInBounds_toArray, List.set_cons_zero, List.set_cons_succ]
        refine hTake (i := 11) (v := ?_) (some 52) rfl rfl (by kernel_rfl) (by kernel_rfl) (by kernel_rfl) (fun _ _ _ h => h) (Or.inl ⟨by rfl, ?hyA15x11⟩) hS0 ?hrA15x11
        case hyA15x11 => (intro w' hSw; have hq := hSw; obtain ⟨s1, s2⟩ := hq; clear hSw; go_simp; try with_reducible rfl)
        try simp only [Act.put, List.setIfInBounds_toArray, List.set_cons_zero, List.set_cons_succ]
        refine hTake (i := 12) (v := ?_) (some 53) rfl rfl (by kernel_rfl) (by kernel_rfl) (by kernel_rfl) (fun _ _ _ h => h) (Or.inl ⟨by rfl, ?hyA15x12⟩) hS0 ?hrA15x12
        case hyA15x12 => (intro w' hSw; have hq := hSw; obtain ⟨s1, s2⟩ := hq; clear hSw; go_simp; try with_reducible rfl)
        try simp only [Act.put, List.setIfInBounds_toArray, List.set_cons_zero, List.set_cons_succ]
        refine hTake (i := 13) (v := ?_) (some 54) rfl rfl (by kernel_rfl) (by kernel_rfl) (by kernel_rfl) (fun _ _ _ h => h) (Or.inl ⟨by rfl, ?hyA15x13⟩) hS0 ?hrA15x13
        case hyA15x13 => (intro w' hSw; have hq := hSw; obtain ⟨s1, s2⟩ := hq; clear hSw; go_simp; try with_reducible rfl)
        try simp only [Act.put, List.setIfInBounds_toArray, List.set_cons_zero, List.set_cons_succ]
        refine hTake (i := 14) (v := ?_) (some 55) rfl rfl (by kernel_rfl) (by kernel_rfl) (by kernel_rfl) (fun _ _ _ h => h) (Or.inl ⟨by rfl, ?hyA15x14⟩) hS0 ?hrA15x14
        case hyA15x14 => (intro w' hSw; have hq := hSw; obtain ⟨s1, s2⟩ := hq; clear hSw; go_simp; try with_reducible rfl)
        try simp only [Act.put, List.setIfInBounds_toArray, List.set_cons_zero, List.set_cons_succ]
        refine wpAnyH_all (rs := [15]) (by kernel_rfl) (by simp) (rows1 ?_)
        refine hCall (f := 173) (args := #[.pointer (some ⟨mb, 0, none⟩), .slice (some ⟨w2.heap.size, 0, none⟩) 4 4, .int .i64 ((x : Int) * 2048 + 10)]) (some 56) rfl rfl rfl (invoke_readAt rfl _ mb _ _ _ rfl rfl (by first | rfl | simp [Act.eval, hw0, hw1, hw2])) ?_
        refine (ReadAt_at B mb w2.heap.size 0 4 4 (x * 2048 + 10) _ (by omega) D (List.replicate 4 0) w3.drew HFW.out.drew.mem HBLK.out.drew (by omega) (by omega) (by simp) (by omega) (by omega)).mono ?_
        rintro e w5x ⟨rfl, hblk5, hchg⟩
        rw [splice_all _ _ (by rw [seg_len _ _ _ (by omega)]; simp)] at hblk5
        have hb5 : Below w2.heap.size w3 w5x := hchg.below ((Below.refl _ _).drew) (Nat.le_refl _)
        have hS2 : w5x.cell? ⟨fp, 4, none⟩ = some (.iface 102 (.pointer (some ⟨mb, 0, none⟩))) ∧ w5x.cell? ⟨fp, 5, none⟩ = some (.int .i64 2048) :=
          ⟨(hb5.cell (p := ⟨fp, 4, none⟩) (by show fp < _; omega)).trans hbe, (hb5.cell (p := ⟨fp, 5, none⟩) (by show fp < _; omega)).trans hbs⟩
        refine ⟨_, rfl, hS2, ?_⟩
        try simp only [Act.put, List.setIfInBounds_toArray, List.set_cons_zero, List.set_cons_succ]
        refine hTake (i := 16) (v := ?_) (some 40) rfl rfl (by kernel_rfl) (by kernel_rfl) (by kernel_rfl) (fun _ _ _ h => h) (Or.inl ⟨by rfl, ?hyA15x16⟩) hS2 ?hrA15x16
        case hyA15x16 => (intro w' hSw; clear hSw; go_simp; try with_reducible rfl)
        try simp only [Act.put, List.setIfInBounds_toArray, List.set_cons_zero, List.set_cons_succ]
        refine hTake (i := 17) (v := ?_) (some 57) rfl rfl (by kernel_rfl) (by kernel_rfl) (by kernel_rfl) (fun _ _ _ h => h) (Or.inl ⟨by rfl, ?hyA15x17⟩) hS2 ?hrA15x17
        case hyA15x17 => (intro w' hSw; clear hSw; go_simp; try with_reducible rfl)
        try simp only [Act.put, List.setIfInBounds_toArray, List.set_cons_zero, List.set_cons_succ]
        refine hTake (i := 18) (v := ?_) (some 58) rfl rfl (by kernel_rfl) (by kernel_rfl) (by kernel_rfl) (fun _ _ _ h => h) (Or.inl ⟨by rfl, ?hyA15x18⟩) hS2 ?hrA15x18
        case hyA15x18 => (intro w' hSw; clear hSw; go_simp; try with_reducible rfl)
        try simp only [Act.put, List.setIfInBounds_toArray, List.set_cons_zero, List.set_cons_succ]
        refine hTake (i := 19) (v := ?_) (some 9) rfl rfl (by kernel_rfl) (by kernel_rfl) (by kernel_rfl) (fun _ _ _ h => h) (Or.inl ⟨by rfl, ?hyA15x19⟩) hS2 ?hrA15x19
        case hyA15x19 => (intro w' hSw; clear hSw; go_simp; try with_reducible rfl)
        try simp only [Act.put, List.setIfInBounds_toArray, List.set_cons_zero, List.set_cons_succ]
        refine hTake (i := 20) (v := ?_) (some 8) rfl rfl (by kernel_rfl) (by kernel_rfl) (by kernel_rfl) (fun _ _ _ h => h) (Or.inl ⟨by rfl, ?hyA15x20⟩) hS2 ?hrA15x20
        case hyA15x20 => (intro w' hSw; clear hSw; go_simp; try with_reducible rfl)
        try simp only [Act.put, List.setIfInBounds_toArray, List.set_cons_zero, List.set_cons_succ]
        refine wpAnyH_done (by kernel_rfl) ?_ _
        refine NoPanic.normal ?_
        have HK5 := Lib.hid hblk5
        have HB5 := Lib.hid hb5
        clear hblk5 hb5 hchg hS2
        go_wp2_with fail
        go_meet
        exact ⟨rfl, rfl, HK5.out, HB5.out⟩
      obtain ⟨rfl, rfl, hblk4, hb4⟩ := hcut
      obtain ⟨w4, rfl⟩ : ∃ w4 : World, w4 = wc := ⟨_, rfl⟩
      have hb24 : Below w2.heap.size w2 w4 := HB3.out.trans hb4
      rw [H4.out] at hblk4
      have HK4 := Lib.hid hblk4
      have HB24 := Lib.hid hb24
      have hs4 := hb24.size
      clear hb4 hb24 hblk4 hbe hbs hmk
      go_upto_region 24 with (first
        | (go_at_call 84
           refine (Tryz.binary_LE_Uint32 w2.heap.size 0 4 4 0 8 0 0 w4 (by omega) (by rw [cell_of_row _ _ _ _ _ _ HK4.out]; rfl) (by rw [cell_of_row _ _ _ _ _ _ HK4.out]; rfl) (by rw [cell_of_row _ _ _ _ _ _ HK4.out]; rfl) (by rw [cell_of_row _ _ _ _ _ _ HK4.out]; rfl)).mono ?_
           rintro e w5 ⟨rfl, hb5⟩
           rw [show ((Lib.leNat [0, 8, 0, 0] : Nat) : Int) = 2048 from rfl]
           have HB25 := Lib.hid (HB24.out.trans (hb5.mono hs4))
           clear hb5))
      have HFV := Lib.hid (HF2.out.below HB25.out)
      have hs5 := HB25.out.size
      go_upto_region 26 with (fail)
      obtain ⟨w6, hmk, hblk, hb6, hsz6⟩ := run_make_2048 w5
      have HBLK := Lib.hid hblk
      have HB6 := Lib.hid hb6
      have HFW := Lib.hid (HFV.out.below hb6)
      have hbe := HFW.out.be
      have hbs := HFW.out.bs
      have hfl := HFW.out.fl
      have hsV := HFV.out.hi
      clear hblk hb6
      go_upto_region 27 with (fail)
      go_cut [8, 9] from 88 to 105 (fun t8 t9 wx => t8 = .nilIface ∧ t9 = .int .i64 2048 ∧ Blk wx w5.heap.size (seg D (x * 2048) 2048) ∧ Below w5.heap.size w6 wx)
      case first =>
        refine wp_region_noPanic ?_
        refine wp_region_held_drew (S := fun w' => w'.cell? ⟨fp, 4, none⟩ = some (.iface 102 (.pointer (some ⟨mb, 0, none⟩))) ∧ w'.cell? ⟨fp, 5, none⟩ = some (.int .i64 2048)) (by kernel_rfl) ⟨hbe, hbs⟩ (fun hS0 => ?_)
        refine hTake (i := 0) (v := ?_) (some 89) rfl rfl (by kernel_rfl) (by kernel_rfl) (by kernel_rfl) (fun _ _ _ h => h) (Or.inl ⟨by rfl, ?hyA27x0⟩) hS0 ?hrA27x0
        case hyA27x0 => (intro w' hSw; have hq := hSw; obtain ⟨s1, s2⟩ := hq; clear hSw; go_simp; try with_reducible rfl)
        try simp only [Act.put, List.setIfInBounds_toArray, List.set_cons_zero, List.set_cons_succ]
        refine hTake (i := 1) (v := ?_) (some 90) rfl rfl (by kernel_rfl) (by kernel_rfl) (by kernel_rfl) (fun _ _ _ h => h) (Or.inl ⟨by rfl, ?hyA27x1⟩) hS0 ?hrA27x1
        case hyA27x1 => (intro w' hSw; have hq := hSw; obtain ⟨s1, s2⟩ := hq; clear hSw; go_simp; try with_reducible rfl)
        try simp only [Act.put, List.setIfInBounds_toArray, List.set_cons_zero, List.set_cons_succ]
        refine hTake (i := 2) (v := ?_) (some 91) rfl rfl (by kernel_rfl) (by kernel_rfl) (by kernel_rfl) (fun _ _ _ h => h) (Or.inl ⟨by rfl, ?hyA27x2⟩) hS0 ?hrA27x2
        case hyA27x2 => (intro w' hSw; have hq := hSw; obtain ⟨s1, s2⟩ := hq; clear hSw; go_simp; try with_reducible rfl)
        try simp only [Act.put, List.setIfInBounds_toArray, List.set_cons_zero, List.set_cons_succ]
        refine hTake (i := 3) (v := ?_) (some 92) rfl rfl (by kernel_rfl) (by kernel_rfl) (by kernel_rfl) (fun _ _ _ h => h) (Or.inl ⟨by rfl, ?hyA27x3⟩) hS0 ?hrA27x3
        case hyA27x3 => (intro w' hSw; have hq := hSw; obtain ⟨s1, s2⟩ := hq; clear hSw; go_simp; try with_reducible rfl)
        try simp only [Act.put, List.setIfInBounds_toArray, List.set_cons_zero, List.set_cons_succ]
        refine hTake (i := 4) (v := ?_) (some 93) rfl rfl (by kernel_rfl) (by kernel_rfl) (by kernel_rfl) (fun _ _ _ h => h) (Or.inl ⟨by rfl, ?hyA27x4⟩) hS0 ?hrA27x4
        case hyA27x4 => (intro w' hSw; have hq := hSw; obtain ⟨s1, s2⟩ := hq; clear hSw; go_simp; try with_reducible rfl)
        try simp only [Act.put, List.setIfInBounds_toArray, List.set_cons_zero, List.set_cons_succ]
        refine hTake (i := 5) (v := ?_) (some 94) rfl rfl (by kernel_rfl) (by kernel_rfl) (by kernel_rfl) (fun _ _ _ h => h) (Or.inl ⟨by rfl, ?hyA27x5⟩) hS0 ?hrA27x5
        case hyA27x5 => (intro w' hSw; have hq := hSw; obtain ⟨s1, s2⟩ := hq; clear hSw; go_simp; try with_reducible rfl)
        try simp only [Act.put, List.setIfInBounds_toArray, List.set_cons_zero, List.set_cons_succ]
        refine hTake (i := 6) (v := ?_) (some 95) rfl rfl (by kernel_rfl) (by kernel_rfl) (by kernel_rfl) (fun _ _ _ h => h) (Or.inl ⟨by rfl, ?hyA27x6⟩) hS0 ?hrA27x6
        case hyA27x6 => (intro w' hSw; have hq := hSw; obtain ⟨s1, s2⟩ := hq; clear hSw; go_simp; try with_reducible rfl)
        try simp only [Act.put, List.setIfInBounds_toArray, List.set_cons_zero, List.set_cons_succ]
        refine hTake (i := 7) (v := ?_) (some 96) rfl rfl (by kernel_rfl) (by kernel_rfl) (by kernel_rfl) (fun _ _ _ h => h) (Or.inl ⟨by rfl, ?hyA27x7⟩) hS0 ?hrA27x7
        case hyA27x7 => (intro w' hSw; have hq := hSw; obtain ⟨s1, s2⟩ := hq; clear hSw; go_simp; try with_reducible rfl)
        try simp only [Act.put, List.setIfInBounds_toArray, List.set_cons_zero, List.set_cons_succ]
        refine hTake (i := 8) (v := ?_) (some 97) rfl rfl (by kernel_rfl) (by kernel_rfl) (by kernel_rfl) (fun _ _ _ h => h) (Or.inl ⟨by rfl, ?hyA27x8⟩) hS0 ?hrA27x8
        case hyA27x8 => (intro w' hSw; have hq := hSw; obtain ⟨s1, s2⟩ := hq; clear hSw; go_simp; try with_reducible rfl)
        try simp only [Act.put, List.setIfInBounds_toArray, List.set_cons_zero, List.set_cons_succ]
        refine hTake (i := 9) (v := ?_) (some 98) rfl rfl (by kernel_rfl) (by kernel_rfl) (by kernel_rfl) (fun _ _ _ h => h) (Or.inl ⟨by rfl, ?hyA27x9⟩) hS0 ?hrA27x9
        case hyA27x9 => (intro w' hSw; have hq := hSw; obtain ⟨s1, s2⟩ := hq; clear hSw; go_simp; try with_reducible rfl)
        try simp only [Act.put, List.setIfInBounds_toArray, List.set_cons_zero, List.set_cons_succ]
        refine hTake (i := 10) (v := ?_) (some 99) rfl rfl (by kernel_rfl) (by kernel_rfl) (by kernel_rfl) (fun _ _ _ h => h) (Or.inl ⟨by rfl, ?hyA27x10⟩) hS0 ?hrA27x10
        case hyA27x10 => (intro w' hSw; have hq := hSw; obtain ⟨s1, s2⟩ := hq; clear hSw; go_simp; try with_reducible rfl)
        try simp only [Act.put, List.setIfInBounds_toArray, List.set_cons_zero, List.set_cons_succ]
        refine hTake (i := 11) (v := ?_) (some 100) rfl rfl (by kernel_rfl) (by kernel_rfl) (by kernel_rfl) (fun _ _ _ h => h) (Or.inl ⟨by rfl, ?hyA27x11⟩) hS0 ?hrA27x11
        case hyA27x11 => (intro w' hSw; have hq := hSw; obtain ⟨s1, s2⟩ := hq; clear hSw; go_simp; try with_reducible rfl)
        try simp only [Act.put, List.setIfInBounds_toArray, List.set_cons_zero, List.set_cons_succ]
        refine hTake (i := 12) (v := ?_) (some 101) rfl rfl (by kernel_rfl) (by kernel_rfl) (by kernel_rfl) (fun _ _ _ h => h) (Or.inl ⟨by rfl, ?hyA27x12⟩) hS0 ?hrA27x12
        case hyA27x12 => (intro w' hSw; have hq := hSw; obtain ⟨s1, s2⟩ := hq; clear hSw; go_simp; try with_reducible rfl)
        try simp only [Act.put, List.setIfInBounds_toArray, List.set_cons_zero, List.set_cons_succ]
        refine hTake (i := 13) (v := ?_) (some 102) rfl rfl (by kernel_rfl) (by kernel_rfl) (by kernel_rfl) (fun _ _ _ h => h) (Or.inl ⟨by rfl, ?hyA27x13⟩) hS0 ?hrA27x13
        case hyA27x13 => (intro w' hSw; have hq := hSw; obtain ⟨s1, s2⟩ := hq; clear hSw; go_simp; try with_reducible rfl)
        try simp only [Act.put, List.setIfInBounds_toArray, List.set_cons_zero, List.set_cons_succ]
        refine wpAnyH_all (rs := [14]) (by kernel_rfl) (by simp) (rows1 ?_)
        refine hCall (f := 173) (args := #[.pointer (some ⟨mb, 0, none⟩), .slice (some ⟨w5.heap.size, 0, none⟩) 2048 2048, .int .i64 ((x : Int) * 2048)]) (some 103) rfl rfl rfl (invoke_readAt rfl _ mb _ _ _ rfl rfl (by first | rfl | simp [Act.eval, hw0, hw1, hw2])) ?_
        refine (ReadAt_at B mb w5.heap.size 0 2048 2048 (x * 2048) _ (by omega) D (List.replicate 2048 0) w6.drew HFW.out.drew.mem HBLK.out.drew (by omega) (by omega) (by simp) (by omega) (by omega)).mono ?_
        rintro e w5x ⟨rfl, hblk5, hchg⟩
        rw [splice_all _ _ (by rw [seg_len _ _ _ (by omega)]; simp)] at hblk5
        have hb5 : Below w5.heap.size w6 w5x := hchg.below ((Below.refl _ _).drew) (Nat.le_refl _)
        have hS2 : w5x.cell? ⟨fp, 4, none⟩ = some (.iface 102 (.pointer (some ⟨mb, 0, none⟩))) ∧ w5x.cell? ⟨fp, 5, none⟩ = some (.int .i64 2048) :=
          ⟨(hb5.cell (p := ⟨fp, 4, none⟩) (by show fp < _; omega)).trans hbe, (hb5.cell (p := ⟨fp, 5, none⟩) (by show fp < _; omega)).trans hbs⟩
        refine ⟨_, rfl, hS2, ?_⟩
        try simp only [Act.put, List.setIfInBounds_toArray, List.set_cons_zero, List.set_cons_succ]
        refine hTake (i := 15) (v := ?_) (some 88) rfl rfl (by kernel_rfl) (by kernel_rfl) (by kernel_rfl) (fun _ _ _ h => h) (Or.inl ⟨by rfl, ?hyA27x15⟩) hS2 ?hrA27x15
        case hyA27x15 => (intro w' hSw; clear hSw; go_simp; try with_reducible rfl)
        try simp only [Act.put, List.setIfInBounds_toArray, List.set_cons_zero, List.set_cons_succ]
        refine hTake (i := 16) (v := ?_) (some 104) rfl rfl (by kernel_rfl) (by kernel_rfl) (by kernel_rfl) (fun _ _ _ h => h) (Or.inl ⟨by rfl, ?hyA27x16⟩) hS2 ?hrA27x16
        case hyA27x16 => (intro w' hSw; clear hSw; go_simp; try with_reducible rfl)
        try simp only [Act.put, List.setIfInBounds_toArray, List.set_cons_zero, List.set_cons_succ]
        refine hTake (i := 17) (v := ?_) (some 105) rfl rfl (by kernel_rfl) (by kernel_rfl) (by kernel_rfl) (fun _ _ _ h => h) (Or.inl ⟨by rfl, ?hyA27x17⟩) hS2 ?hrA27x17
        case hyA27x17 => (intro w' hSw; clear hSw; go_simp; try with_reducible rfl)
        try simp only [Act.put, List.setIfInBounds_toArray, List.set_cons_zero, List.set_cons_succ]
        refine hTake (i := 18) (v := ?_) (some 9) rfl rfl (by kernel_rfl) (by kernel_rfl) (by kernel_rfl) (fun _ _ _ h => h) (Or.inl ⟨by rfl, ?hyA27x18⟩) hS2 ?hrA27x18
        case hyA27x18 => (intro w' hSw; clear hSw; go_simp; try with_reducible rfl)
        try simp only [Act.put, List.setIfInBounds_toArray, List.set_cons_zero, List.set_cons_succ]
        refine hTake (i := 19) (v := ?_) (some 8) rfl rfl (by kernel_rfl) (by kernel_rfl) (by kernel_rfl) (fun _ _ _ h => h) (Or.inl ⟨by rfl, ?hyA27x19⟩) hS2 ?hrA27x19
        case hyA27x19 => (intro w' hSw; clear hSw; go_simp; try with_reducible rfl)
        try simp only [Act.put, List.setIfInBounds_toArray, List.set_cons_zero, List.set_cons_succ]
        refine wpAnyH_done (by kernel_rfl) ?_ _
        refine NoPanic.normal ?_
        have HK5 := Lib.hid hblk5
        have HB5 := Lib.hid hb5
        clear hblk5 hb5 hchg hS2
        go_wp2_with fail
        go_meet
        exact ⟨rfl, rfl, HK5.out, HB5.out⟩
      obtain ⟨rfl, rfl, hblk7, hb7⟩ := hcut
      obtain ⟨w7, rfl⟩ : ∃ w7 : World, w7 = wc := ⟨_, rfl⟩
      have hbW7 : Below w5.heap.size w5 w7 := HB6.out.trans hb7
      have hF7 : FsAt w7 B fp mb pt rd D (esOf nd ds) := HFV.out.below hbW7
      have HK7 := Lib.hid hblk7
      have HF7 := Lib.hid hF7
      have HB7 := Lib.hid hbW7
      have hs7 := hbW7.size
      clear hb7 hblk7 hF7 hbW7 hbe hbs hmk hw0 hw1 hw2 hxz hxz2
      go_wp2_with (first
        | (go_at_call 123
           refine (parseDirEntries_any w5.heap.size fp (seg D (x * 2048) 2048) rsA w7 HK7.out HDB.out HF7.out.se HF7.out.bs HF7.out.ex hrl).mono ?_
           rintro e w8 ⟨v, ps, rfl, hov, hent, hb8⟩
           have HOV := Lib.hid hov
           have HENT := Lib.hid hent
           have HB8 := Lib.hid hb8
           have hs8 := hb8.size
           clear hov hent hb8))
      go_ret2
      obtain ⟨_, ⟨_, h0'⟩ | ⟨g2, cap2, e, _, h3, hnc, _, h4, _⟩⟩ := HOV.out
      · have := HENT.out.len; omega
      · have hl := HENT.out.len
        have hcells : ∀ (j q : Nat), ps[j]? = some q → w8.cell? ⟨g2, j, none⟩ = some (.pointer (some ⟨q, 0, none⟩)) := fun j q hq => h4 j (ptrV q) (by rw [List.getElem?_map, hq]; rfl)
        have hbb : Below w0.heap.size w0 w8 := ((HB2.out.trans (HB25.out.mono (by omega))).trans (HB7.out.mono (by omega))).trans (HB8.out.mono (by omega))
        refine ⟨g2, cap2, ps, rsA, ?_, h3, hcells, ⟨hl, fun a b c d e => ?_⟩, HDR.out, hrl, hbb⟩
        · rw [e, hl]; rfl
        · have := HENT.out.ent a b c d e
          exact ⟨by omega, this.2⟩
    · rw [hg]
      clear hg
      have hE2 : EntAt w2 rd rr (.pointer (some ⟨fp, 0, none⟩)) := HE.out.below HB2.out
      have hL := dirLoc_any tr (pth nd x0) 0 x0 rd rr s w2 HF2.out hE2 hrx hrs hn0 tr.tree.root (down_pth tr.tree tr.good x0 hx hdx) (pth_str tr.good hx1 hx hsj)
      rw [hxe] at hL
      have HL := Lib.hid hL
      clear hL hE2
      go_upto_region 24 with (first
        | (go_at_call 121
           refine HL.out.mono ?_
           rintro e w5 ⟨rfl, hb5⟩
           have HB25 := Lib.hid hb5
           clear hb5))
      have HFV := Lib.hid (HF2.out.below HB25.out)
      have hs5 := HB25.out.size
      go_upto_region 26 with (fail)
      obtain ⟨w6, hmk, hblk, hb6, hsz6⟩ := run_make_2048 w5
      have HBLK := Lib.hid hblk
      have HB6 := Lib.hid hb6
      have HFW := Lib.hid (HFV.out.below hb6)
      have hbe := HFW.out.be
      have hbs := HFW.out.bs
      have hfl := HFW.out.fl
      have hsV := HFV.out.hi
      clear hblk hb6
      go_upto_region 27 with (fail)
      go_cut [8, 9] from 88 to 105 (fun t8 t9 wx => t8 = .nilIface ∧ t9 = .int .i64 2048 ∧ Blk wx w5.heap.size (seg D (x * 2048) 2048) ∧ Below w5.heap.size w6 wx)
      case first =>
        refine wp_region_noPanic ?_
        refine wp_region_held_drew (S := fun w' => w'.cell? ⟨fp, 4, none⟩ = some (.iface 102 (.pointer (some ⟨mb, 0, none⟩))) ∧ w'.cell? ⟨fp, 5, none⟩ = some (.int .i64 2048)) (by kernel_rfl) ⟨hbe, hbs⟩ (fun hS0 => ?_)
        refine hTake (i := 0) (v := ?_) (some 89) rfl rfl (by kernel_rfl) (by kernel_rfl) (by kernel_rfl) (fun _ _ _ h => h) (Or.inl ⟨by rfl, ?hyB27x0⟩) hS0 ?hrB27x0
        case hyB27x0 => (intro w' hSw; have hq := hSw; obtain ⟨s1, s2⟩ := hq; clear hSw; go_simp; try with_reducible rfl)
        try simp only [Act.put, List.setIfInBounds_toArray, List.set_cons_zero, List.set_cons_succ]
        refine hTake (i := 1) (v := ?_) (some 90) rfl rfl (by kernel_rfl) (by kernel_rfl) (by kernel_rfl) (fun _ _ _ h => h) (Or.inl ⟨by rfl, ?hyB27x1⟩) hS0 ?hrB27x1
        case hyB27x1 => (intro w' hSw; have hq := hSw; obtain ⟨s1, s2⟩ := hq; clear hSw; go_simp; try with_reducible rfl)
        try simp only [Act.put, List.setIfInBounds_toArray, List.set_cons_zero, List.set_cons_succ]
        refine hTake (i := 2) (v := ?_) (some 91) rfl rfl (by kernel_rfl) (by kernel_rfl) (by kernel_rfl) (fun _ _ _ h => h) (Or.inl ⟨by rfl, ?hyB27x2⟩) hS0 ?hrB27x2
        case hyB27x2 => (intro w' hSw; have hq := hSw; obtain ⟨s1, s2⟩ := hq; clear hSw; go_simp; try with_reducible rfl)
        try simp only [Act.put, List.setIfInBounds_toArray, List.set_cons_zero, List.set_cons_succ]
        refine hTake (i := 3) (v := ?_) (some 92) rfl rfl (by kernel_rfl) (by kernel_rfl) (by kernel_rfl) (fun _ _ _ h => h) (Or.inl ⟨by rfl, ?hyB27x3⟩) hS0 ?hrB27x3
        case hyB27x3 => (intro w' hSw; have hq := hSw; obtain ⟨s1, s2⟩ := hq; clear hSw; go_simp; try with_reducible rfl)
        try simp only [Act.put, List.setIfInBounds_toArray, List.set_cons_zero, List.set_cons_succ]
        refine hTake (i := 4) (v := ?_) (some 93) rfl rfl (by kernel_rfl) (by kernel_rfl) (by kernel_rfl) (fun _ _ _ h => h) (Or.inl ⟨by rfl, ?hyB27x4⟩) hS0 ?hrB27x4
        case hyB27x4 => (intro w' hSw; have hq := hSw; obtain ⟨s1, s2⟩ := hq; clear hSw; go_simp; try with_reducible rfl)
        try simp only [Act.put, List.setIfInBounds_toArray, List.set_cons_zero, List.set_cons_succ]
        refine hTake (i := 5) (v := ?_) (some 94) rfl rfl (by kernel_rfl) (by kernel_rfl) (by kernel_rfl) (fun _ _ _ h => h) (Or.inl ⟨by rfl, ?hyB27x5⟩) hS0 ?hrB27x5
        case hyB27x5 => (intro w' hSw; have hq := hSw; obtain ⟨s1, s2⟩ := hq; clear hSw; go_simp; try with_reducible rfl)
        try simp only [Act.put, List.setIfInBounds_toArray, List.set_cons_zero, List.set_cons_succ]
        refine hTake (i := 6) (v := ?_) (some 95) rfl rfl (by kernel_rfl) (by kernel_rfl) (by kernel_rfl) (fun _ _ _ h => h) (Or.inl ⟨by rfl, ?hyB27x6⟩) hS0 ?hrB27x6
        case hyB27x6 => (intro w' hSw; have hq := hSw; obtain ⟨s1, s2⟩ := hq; clear hSw; go_simp; try with_reducible rfl)
        try simp only [Act.put, List.setIfInBounds_toArray, List.set_cons_zero, List.set_cons_succ]
        refine hTake (i := 7) (v := ?_) (some 96) rfl rfl (by kernel_rfl) (by kernel_rfl) (by kernel_rfl) (fun _ _ _ h => h) (Or.inl ⟨by rfl, ?hyB27x7⟩) hS0 ?hrB27x7
        case hyB27x7 => (intro w' hSw; have hq := hSw; obtain ⟨s1, s2⟩ := hq; clear hSw; go_simp; try with_reducible rfl)
        try simp only [Act.put, List.setIfInBounds_toArray, List.set_cons_zero, List.set_cons_succ]
        refine hTake (i := 8) (v := ?_) (some 97) rfl rfl (by kernel_rfl) (by kernel_rfl) (by kernel_rfl) (fun _ _ _ h => h) (Or.inl ⟨by rfl, ?hyB27x8⟩) hS0 ?hrB27x8
        case hyB27x8 => (intro w' hSw; have hq := hSw; obtain ⟨s1, s2⟩ := hq; clear hSw; go_simp; try with_reducible rfl)
        try simp only [Act.put, List.setIfInBounds_toArray, List.set_cons_zero, List.set_cons_succ]
        refine hTake (i := 9) (v := ?_) (some 98) rfl rfl (by kernel_rfl) (by kernel_rfl) (by kernel_rfl) (fun _ _ _ h => h) (Or.inl ⟨by rfl, ?hyB27x9⟩) hS0 ?hrB27x9
        case hyB27x9 => (intro w' hSw; have hq := hSw; obtain ⟨s1, s2⟩ := hq; clear hSw; go_simp; try with_reducible rfl)
        try simp only [Act.put, List.setIfInBounds_toArray, List.set_cons_zero, List.set_cons_succ]
        refine hTake (i := 10) (v := ?_) (some 99) rfl rfl (by kernel_rfl) (by kernel_rfl) (by kernel_rfl) (fun _ _ _ h => h) (Or.inl ⟨by rfl, ?hyB27x10⟩) hS0 ?hrB27x10
        case hyB27x10 => (intro w' hSw; have hq := hSw; obtain ⟨s1, s2⟩ := hq; clear hSw; go_simp; try with_reducible rfl)
        try simp only [Act.put, List.setIfInBounds_toArray, List.set_cons_zero, List.set_cons_succ]
        refine hTake (i := 11) (v := ?_) (some 100) rfl rfl (by kernel_rfl) (by kernel_rfl) (by kernel_rfl) (fun _ _ _ h => h) (Or.inl ⟨by rfl, ?hyB27x11⟩) hS0 ?hrB27x11
        case hyB27x11 => (intro w' hSw; have hq := hSw; obtain ⟨s1, s2⟩ := hq; clear hSw; go_simp; try with_reducible rfl)
        try simp only [Act.put, List.setIfInBounds_toArray, List.set_cons_zero, List.set_cons_succ]
        refine hTake (i := 12) (v := ?_) (some 101) rfl rfl (by kernel_rfl) (by kernel_rfl) (by kernel_rfl) (fun _ _ _ h => h) (Or.inl ⟨by rfl, ?hyB27x12⟩) hS0 ?hrB27x12
        case hyB27x12 => (intro w' hSw; have hq := hSw; obtain ⟨s1, s2⟩ := hq; clear hSw; go_simp; try with_reducible rfl)
        try simp only [Act.put, List.setIfInBounds_toArray, List.set_cons_zero, List.set_cons_succ]
        refine hTake (i := 13) (v := ?_) (some 102) rfl rfl (by kernel_rfl) (by kernel_rfl) (by kernel_rfl) (fun _ _ _ h => h) (Or.inl ⟨by rfl, ?hyB27x13⟩) hS0 ?hrB27x13
        case hyB27x13 => (intro w' hSw; have hq := hSw; obtain ⟨s1, s2⟩ := hq; clear hSw; go_simp; try with_reducible rfl)
        try simp only [Act.put, List.setIfInBounds_toArray, List.set_cons_zero, List.set_cons_succ]
        refine wpAnyH_all (rs := [14]) (by kernel_rfl) (by simp) (rows1 ?_)
        refine hCall (f := 173) (args := #[.pointer (some ⟨mb, 0, none⟩), .slice (some ⟨w5.heap.size, 0, none⟩) 2048 2048, .int .i64 ((x : Int) * 2048)]) (some 103) rfl rfl rfl (invoke_readAt rfl _ mb _ _ _ rfl rfl (by first | rfl | simp [Act.eval, hw0, hw1, hw2])) ?_
        refine (ReadAt_at B mb w5.heap.size 0 2048 2048 (x * 2048) _ (by omega) D (List.replicate 2048 0) w6.drew HFW.out.drew.mem HBLK.out.drew (by omega) (by omega) (by simp) (by omega) (by omega)).mono ?_
        rintro e w5x ⟨rfl, hblk5, hchg⟩
        rw [splice_all _ _ (by rw [seg_len _ _ _ (by omega)]; simp)] at hblk5
        have hb5 : Below w5.heap.size w6 w5x := hchg.below ((Below.refl _ _).drew) (Nat.le_refl _)
        have hS2 : w5x.cell? ⟨fp, 4, none⟩ = some (.iface 102 (.pointer (some ⟨mb, 0, none⟩))) ∧ w5x.cell? ⟨fp, 5, none⟩ = some (.int .i64 2048) :=
          ⟨(hb5.cell (p := ⟨fp, 4, none⟩) (by show fp < _; omega)).trans hbe, (hb5.cell (p := ⟨fp, 5, none⟩) (by show fp < _; omega)).trans hbs⟩
        refine ⟨_, rfl, hS2, ?_⟩
        try simp only [Act.put, List.setIfInBounds_toArray, List.set_cons_zero, List.set_cons_succ]
        refine hTake (i := 15) (v := ?_) (some 88) rfl rfl (by kernel_rfl) (by kernel_rfl) (by kernel_rfl) (fun _ _ _ h => h) (Or.inl ⟨by rfl, ?hyB27x15⟩) hS2 ?hrB27x15
        case hyB27x15 => (intro w' hSw; clear hSw; go_simp; try with_reducible rfl)
        try simp only [Act.put, List.setIfInBounds_toArray, List.set_cons_zero, List.set_cons_succ]
        refine hTake (i := 16) (v := ?_) (some 104) rfl rfl (by kernel_rfl) (by kernel_rfl) (by kernel_rfl) (fun _ _ _ h => h) (Or.inl ⟨by rfl, ?hyB27x16⟩) hS2 ?hrB27x16
        case hyB27x16 => (intro w' hSw; clear hSw; go_simp; try with_reducible rfl)
        try simp only [Act.put, List.setIfInBounds_toArray, List.set_cons_zero, List.set_cons_succ]
        refine hTake (i := 17) (v := ?_) (some 105) rfl rfl (by kernel_rfl) (by kernel_rfl) (by kernel_rfl) (fun _ _ _ h => h) (Or.inl ⟨by rfl, ?hyB27x17⟩) hS2 ?hrB27x17
        case hyB27x17 => (intro w' hSw; clear hSw; go_simp; try with_reducible rfl)
        try simp only [Act.put, List.setIfInBounds_toArray, List.set_cons_zero, List.set_cons_succ]
        refine hTake (i := 18) (v := ?_) (some 9) rfl rfl (by kernel_rfl) (by kernel_rfl) (by kernel_rfl) (fun _ _ _ h => h) (Or.inl ⟨by rfl, ?hyB27x18⟩) hS2 ?hrB27x18
        case hyB27x18 => (intro w' hSw; clear hSw; go_simp; try with_reducible rfl)
        try simp only [Act.put, List.setIfInBounds_toArray, List.set_cons_zero, List.set_cons_succ]
        refine hTake (i := 19) (v := ?_) (some 8) rfl rfl (by kernel_rfl) (by kernel_rfl) (by kernel_rfl) (fun _ _ _ h => h) (Or.inl ⟨by rfl, ?hyB27x19⟩) hS2 ?hrB27x19
        case hyB27x19 => (intro w' hSw; clear hSw; go_simp; try with_reducible rfl)
        try simp only [Act.put, List.setIfInBounds_toArray, List.set_cons_zero, List.set_cons_succ]
        refine wpAnyH_done (by kernel_rfl) ?_ _
        refine NoPanic.normal ?_
        have HK5 := Lib.hid hblk5
        have HB5 := Lib.hid hb5
        clear hblk5 hb5 hchg hS2
        go_wp2_with fail
        go_meet
        exact ⟨rfl, rfl, HK5.out, HB5.out⟩
      obtain ⟨rfl, rfl, hblk7, hb7⟩ := hcut
      obtain ⟨w7, rfl⟩ : ∃ w7 : World, w7 = wc := ⟨_, rfl⟩
      have hbW7 : Below w5.heap.size w5 w7 := HB6.out.trans hb7
      have hF7 : FsAt w7 B fp mb pt rd D (esOf nd ds) := HFV.out.below hbW7
      have HK7 := Lib.hid hblk7
      have HF7 := Lib.hid hF7
      have HB7 := Lib.hid hbW7
      have hs7 := hbW7.size
      clear hb7 hblk7 hF7 hbW7 hbe hbs hmk hw0 hw1 hw2 hxz hxz2
      go_wp2_with (first
        | (go_at_call 123
           refine (parseDirEntries_any w5.heap.size fp (seg D (x * 2048) 2048) rsA w7 HK7.out HDB.out HF7.out.se HF7.out.bs HF7.out.ex hrl).mono ?_
           rintro e w8 ⟨v, ps, rfl, hov, hent, hb8⟩
           have HOV := Lib.hid hov
           have HENT := Lib.hid hent
           have HB8 := Lib.hid hb8
           have hs8 := hb8.size
           clear hov hent hb8))
      go_ret2
      obtain ⟨_, ⟨_, h0'⟩ | ⟨g2, cap2, e, _, h3, hnc, _, h4, _⟩⟩ := HOV.out
      · have := HENT.out.len; omega
      · have hl := HENT.out.len
        have hcells : ∀ (j q : Nat), ps[j]? = some q → w8.cell? ⟨g2, j, none⟩ = some (.pointer (some ⟨q, 0, none⟩)) := fun j q hq => h4 j (ptrV q) (by rw [List.getElem?_map, hq]; rfl)
        have hbb : Below w0.heap.size w0 w8 := ((HB2.out.trans (HB25.out.mono (by omega))).trans (HB7.out.mono (by omega))).trans (HB8.out.mono (by omega))
        refine ⟨g2, cap2, ps, rsA, ?_, h3, hcells, ⟨hl, fun a b c d e => ?_⟩, HDR.out, hrl, hbb⟩
        · rw [e, hl]; rfl
        · have := HENT.out.ent a b c d e
          exact ⟨by omega, this.2⟩

end Go.Proofs.YtfppgplboomdbaaGreatDoor
