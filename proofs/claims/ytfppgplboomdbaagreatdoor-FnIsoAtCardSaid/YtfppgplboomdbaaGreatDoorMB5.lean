/- Part of the proofs of laws.FnIsoTree and laws.FnIsoAt: lemmas and contracts of functions that the two laws reach, each under the hypotheses that its own statement names. -/
import Derived.Test.YtfppgplboomdbaaGreatDoorMB4
import Derived.Lib.BufferWrite
import Derived.Deep.RegionHeld3
namespace Go.Proofs.YtfppgplboomdbaaGreatDoor
open Go.RowKit

theorem wpList_copy_string {P : Program} {ops : Array Oper} {rest : List Oper} {o : Oper} {a : Act} {w : World} {Q : Exit → Act → World → Prop} (hgd : o.guard = none) (d s : Operand) (dT sT : TypeId)
    (ho : o.op = .call { callee := .builtin .copy, args := #[d, s], argTypes := #[dT, sT] }) (hu : P.underlying dT = some (.slice 5)) (hsz : (P.info? 5).map (·.size) = some 1)
    (dp : Option Addr) (dLen dCap : Nat) (str : ByteArray) (hd : a.eval d = .slice dp dLen dCap) (hs : a.eval s = .string str)
    (g off : Nat) (D : Bs) (hg : Blk w g D) (hdp : dp = some ⟨g, off, none⟩) (hn : str.size ≤ dLen) (hfit : off + str.size ≤ D.length) (B : Nat) (w0 : World) (hb : Below B w0 w) (hBg : B ≤ g)
    (h : ∀ w', Blk w' g (splice D off str.data.toList) → Below B w0 w' → Only w w' g → wpList P ops Q rest (a.put o.dst (goInt str.size)) w') :
    wpList P ops Q (o :: rest) a w := by
  refine wpList_plain hgd fun K hK => ?_
  subst hdp
  have hrun := Lib.run_copy_row_string (P := P) w dT sT o.type 5 g off dLen dCap str (bcs D).toArray 5 hu hsz hg hn (by simp [bcs_length]; omega)
  unfold Oper.wp
  simp [execOp, ho, resolve, invoke, builtin, hd, hs, hrun, Result.andThen]
  refine hK _ _ (h _ ?_ (below_setRow hb hBg _) ⟨fun k hk => setRow_other w g k _ hk, by simp [World.setRow]⟩)
  have e := setRow_heap w g _ (bcs (splice D off str.data.toList)).toArray 5 _ hg
  rw [← splice_bcs] at e
  rw [Blk, ← splice_bcs]
  have hl : (bcs str.data.toList).length = str.size := by rw [bcs_length]; rfl
  simpa [splice, hl, bcs, Lib.byteCells] using e

theorem OwnS.src {w : World} {B n : Nat} {v : Value} {S : Bs} (h : OwnS w B 1 v n (bcs S)) : ∃ sp cap, v = .slice sp n cap ∧ SrcB w sp S := by
  obtain ⟨h1, ⟨rfl, rfl⟩ | ⟨g, cap, rfl, hg, hl, hn, hc, hx, hs⟩⟩ := h
  · refine ⟨none, 0, rfl, fun hp => ?_⟩
    rw [bcs_length] at h1; omega
  · refine ⟨_, cap, rfl, fun _ => ⟨g, 0, rfl, fun j hj => ?_⟩⟩
    rw [Nat.zero_add]
    exact hx j _ (by rw [bcs_get, List.getElem?_eq_getElem hj]; rfl)

theorem SrcB.take_blk {w : World} {g : Nat} {D : Bs} (h : Blk w g D) (n : Nat) (hn : n ≤ D.length) : SrcB w (some ⟨g, 0, none⟩) (D.take n) := fun _ => ⟨g, 0, rfl, fun j hj => by
  have hj' : j < n := by simp at hj; omega
  rw [Nat.zero_add, h.cell_of j (by omega), List.getElem_take]⟩
theorem SrcB.drop_blk {w : World} {g : Nat} {D : Bs} (h : Blk w g D) (n : Nat) : SrcB w (some ⟨g, n, none⟩) (D.drop n) := fun _ => ⟨g, n, rfl, fun j hj => by
  have hj' : n + j < D.length := by simp at hj; omega
  rw [h.cell_of (n + j) hj', List.getElem_drop]⟩

theorem sz_alloc {w : World} {o : Obj} {n : Nat} (h : (w.alloc o).heap.size ≤ n) : w.heap.size + 1 ≤ n := by simpa using h
theorem new_cell (w : World) (cs : Array Value) (T : TypeId) (j : Nat) : (w.alloc (.cells cs T)).cell? ⟨w.heap.size, j, none⟩ = cs[j]? := by
  have h := heap_alloc_new w (.cells cs T)
  simp only [World.cell?, h]; rfl

def zeroTime : ByteArray := ⟨#[48, 48, 48, 48, 48, 48, 48, 48, 48, 48, 48, 48, 48, 48, 48, 48, 0]⟩
def someTime : ByteArray := ⟨#[50, 48, 50, 48, 48, 49, 48, 49, 48, 48, 48, 48, 48, 48, 48, 48, 0]⟩
def cd001 : ByteArray := ⟨#[1, 67, 68, 48, 48, 49, 1]⟩

theorem padded_lit (s : ByteArray) (m : Int) (n : Nat) (w : World) (hm : m = n) (hs : s.size ≤ n) (hn : n ≤ 1000000) :
    Calls Tryz.prog 45 #[.string s, .int .i64 m] w fun e w' => ∃ sp cap, e = .returned (.slice sp n cap) ∧ SrcB w' sp (s.data.toList ++ List.replicate (n - s.size) 32) ∧ Below w.heap.size w w' := by
  subst hm
  refine (padded_any s n w hs hn).mono ?_
  rintro e w' ⟨v, rfl, hv, hb⟩
  obtain ⟨sp, cap, rfl, hsr⟩ := hv.src
  exact ⟨sp, cap, rfl, hsr, hb⟩
theorem pad_len (s : ByteArray) (n : Nat) (h : s.size ≤ n) : (s.data.toList ++ List.replicate (n - s.size) (32 : UInt8)).length = n := by
  have : s.data.size = s.size := rfl
  simp; omega
/-- The steps by which the volume descriptor is made. -/
def volD (vol : Bs) (ext size blocks paths little big : Int) (tm : Bs) : Bs :=
  let D0 : Bs := List.replicate 2048 0
  let D1 := splice D0 0 cd001.data.toList
  let D2 := splice D1 8 (List.replicate 32 32)
  let D3 := splice D2 40 (vol ++ List.replicate (32 - vol.length) 32)
  let D4 := splice (splice (splice (splice (splice D3 80 (b32 blocks)) 120 (b16 1)) 124 (b16 1)) 128 (b16 2048)) 132 (b32 paths)
  let D5 := splice (splice D4 140 ((b32 little).take 4)) 148 ((b32 big).drop 4)
  let D6 := splice D5 156 (recL [0] ext size tm true)
  let D7 := splice D6 190 (List.replicate 623 32)
  let D8 := splice (splice (splice (splice D7 813 zeroTime.data.toList) 830 zeroTime.data.toList) 847 zeroTime.data.toList) 864 zeroTime.data.toList
  (splice (splice D8 813 someTime.data.toList) 830 someTime.data.toList).set 881 1

theorem recD_len (id : Bs) (ext size : Int) (tm : Bs) (dir : Bool) (htm : tm.length = 7) : (recL id ext size tm dir).length = 33 + id.length + (33 + id.length) % 2 := by
  have key : ∀ N, 33 + id.length ≤ N → (splice (splice (splice (List.replicate N (0 : UInt8)) 2 (b32 ext)) 10 (b32 size)) 18 tm).length = N := by
    intro N hN
    have a1 : (splice (List.replicate N (0 : UInt8)) 2 (b32 ext)).length = N := by rw [length_splice _ _ _ (by simp [b32]; omega)]; simp
    have a2 : (splice (splice (List.replicate N (0 : UInt8)) 2 (b32 ext)) 10 (b32 size)).length = N := by rw [length_splice _ _ _ (by rw [a1]; simp [b32]; omega), a1]
    rw [length_splice _ _ _ (by rw [a2, htm]; omega), a2]
  simp only [recL, recD, List.length_set]
  generalize hN : 33 + id.length + (33 + id.length) % 2 = N
  have hk := key N (by omega)
  generalize splice (splice (splice (List.replicate N (0 : UInt8)) 2 (b32 ext)) 10 (b32 size)) 18 tm = D4 at hk
  have h5 : (if dir = true then D4.set 25 2 else D4).length = N := by cases dir <;> simp [hk]
  generalize (if dir = true then D4.set 25 2 else D4) = D5 at h5
  have h6 : (splice D5 28 (b16 1)).length = N := by rw [length_splice _ _ _ (by rw [h5]; simp [b16]; omega), h5]
  have h7 : (splice ((splice D5 28 (b16 1)).set 32 (by8 id.length)) 33 id).length = N := by rw [length_splice _ _ _ (by rw [List.length_set, h6]; omega), List.length_set, h6]
  split
  · rw [length_splice _ _ _ (by rw [h7]; simp; omega), h7]
  · exact h7

set_option maxHeartbeats 4000000 in
set_option maxRecDepth 100000 in
theorem isoVolume_any (vol : ByteArray) (p da tg sid kd su mr : Value) (dr pe ui gi pa at_ nu lv : Value) (tme ext size blocks paths little big : Int) (w : World) (hvol : vol.size ≤ 32)
    (he0 : 0 ≤ ext) (he1 : ext ≤ 4294967295) (hs0 : 0 ≤ size) (hs1 : size ≤ 4294967295) (hb0 : 0 ≤ blocks) (hb1 : blocks ≤ 4294967295) (hp0 : 0 ≤ paths) (hp1 : paths ≤ 4294967295) (hl0 : 0 ≤ little) (hl1 : little ≤ 4294967295) (hg0 : 0 ≤ big) (hg1 : big ≤ 4294967295) :
    Calls Tryz.prog 27 #[.string vol, .agg #[p, dr, da, tg, pe, ui, gi, .int .i64 tme, sid, pa, kd, .int .u32 ext, .int .u32 size, su, mr, at_, nu, lv], .int .u32 blocks, .int .u32 paths, .int .u32 little, .int .u32 big] w
      fun e w' => (∃ g, w.heap.size ≤ g ∧ e = .returned (.slice (some ⟨g, 0, none⟩) 2048 2048) ∧ ∃ tm : Bs, tm.length = 7 ∧ Blk w' g (volD vol.data.toList ext size blocks paths little big tm)) ∧ Below w.heap.size w w' := by
  obtain ⟨i5, hi, hz0, hz1, hz2⟩ := info_parts Tryz.info5
  go_enter Tryz.func27, Tryz.ntmps27
  go_wp2_with (first
    | (refine wpList_make_bytes rfl _ _ 26 rfl i5 Tryz.underlying26 hi hz0 hz1 hz2 .i64 .i64 _ _ 2048 2048 rfl rfl rfl rfl (by omega) (by omega) (w.heap.size + 1) _ (Below.refl _ _) (by simp) ?_; intro w1 HG1 hB1 hB1' hsz1; replace HG1 : Blk w1 (w.heap.size + 1) (List.replicate 2048 0) := by simpa using HG1)
    | (refine wpList_copy_string rfl (.tmp 16) _ 26 9 rfl Tryz.underlying26 rfl _ _ _ cd001 rfl rfl (w.heap.size + 1) 0 _ HG1 rfl (by decide) (by rw [List.length_replicate]; decide) (w.heap.size + 1) _ hB1 (Nat.le_refl _) ?_; intro w2 HG2 hB2 hO2))
  clear hO2 hB1'
  have LL1 := Lib.hid (List.length_replicate (n := 2048) (a := (0 : UInt8)))
  generalize hD2 : splice _ _ _ = D2 at HG2
  have LL2 : Hid (D2.length = 2048) := by rw [Hid, ← hD2, length_splice _ _ _ (by rw [LL1.out]; decide), LL1.out]
  have E2 := Lib.hid hD2; clear hD2
  go_region_law (first
    | (go_simp; go_at_call 45; refine (padded_lit _ _ 32 _ rfl (by decide) (by omega)).mono ?_; rintro e wa ⟨sp, cp, rfl, hsr, hba⟩)
    | (refine step_copy_bytes rfl (.tmp 19) (.tmp 20) 26 26 rfl Tryz.underlying26 rfl _ _ _ _ _ _ rfl rfl (w.heap.size + 1) 8 _ _ (HG2.drew.below hba) rfl hsr (by rw [pad_len _ _ (by decide)]; rfl) (by rw [LL2.out]; rw [pad_len _ _ (by decide)]; omega) (w.heap.size + 1) _ (hB2.drew.trans (hba.mono (sz_alloc hB2.size))) (Nat.le_refl _) ?_; intro w3 HG3 hB3 hO3))
  generalize hD3 : splice _ _ _ = D3 at HG3
  have LL3 : Hid (D3.length = 2048) := by rw [Hid, ← hD3, length_splice _ _ _ (by rw [LL2.out]; rw [pad_len _ _ (by decide)]; omega), LL2.out]
  have E3 := Lib.hid hD3; clear hD3 hO3
  go_wp2_with fail
  go_region_law (first
    | (go_simp; go_at_call 45; refine (padded_lit _ _ 32 _ rfl hvol (by omega)).mono ?_; rintro e wa ⟨sp, cp, rfl, hsr, hba⟩)
    | (refine step_copy_bytes rfl (.tmp 23) (.tmp 25) 26 26 rfl Tryz.underlying26 rfl _ _ _ _ _ _ rfl rfl (w.heap.size + 1) 40 _ _ (HG3.drew.below hba) rfl hsr (by rw [pad_len _ _ hvol]; rfl) (by rw [LL3.out]; rw [pad_len _ _ hvol]; omega) (w.heap.size + 1) _ (hB3.drew.trans (hba.mono (sz_alloc hB3.size))) (Nat.le_refl _) ?_; intro w4 HG4 hB4 hO4))
  generalize hD4 : splice _ _ _ = D4 at HG4
  have LL4 : Hid (D4.length = 2048) := by rw [Hid, ← hD4, length_splice _ _ _ (by rw [LL3.out]; rw [pad_len _ _ hvol]; omega), LL3.out]
  have E4 := Lib.hid hD4; clear hD4 hO4
  go_wp2_with fail
  go_region_law (first
    | (go_simp; go_at_call 46; refine (both32_any _ (by omega) (by omega) _).mono ?_; rintro e w' ⟨rfl, rfl⟩)
    | (refine step_copy_bytes rfl (.tmp 28) (.tmp 30) 26 26 rfl Tryz.underlying26 rfl _ _ _ _ _ _ rfl rfl (w.heap.size + 1) 80 _ (b32 blocks) (HG4.alloc _).drew rfl (SrcB.of_blk (Blk.new w4 _).drew) rfl (by rw [LL4.out]; simp [b32]) (w.heap.size + 1) _ ((hB4.alloc (sz_alloc hB4.size) _).drew) (Nat.le_refl _) ?_; intro w5 HG5 hB5 hO5))
  generalize hD5 : splice _ _ _ = D5 at HG5
  have LL5 : Hid (D5.length = 2048) := by rw [Hid, ← hD5, length_splice _ _ _ (by rw [LL4.out]; simp [b32]), LL4.out]
  have E5 := Lib.hid hD5; clear hD5 hO5
  go_wp2_with fail
  go_region_law (first
    | (go_simp; go_at_call 47; refine (both16_any 1 (by omega) (by omega) _).mono ?_; rintro e w' ⟨rfl, rfl⟩)
    | (refine step_copy_bytes rfl (.tmp 33) (.tmp 34) 26 26 rfl Tryz.underlying26 rfl _ _ _ _ _ _ rfl rfl (w.heap.size + 1) 120 _ (b16 1) (HG5.alloc _).drew rfl (SrcB.of_blk (Blk.new w5 _).drew) rfl (by rw [LL5.out]; simp [b16]) (w.heap.size + 1) _ ((hB5.alloc (sz_alloc hB5.size) _).drew) (Nat.le_refl _) ?_; intro w6 HG6 hB6 hO6))
  generalize hD6 : splice _ _ _ = D6 at HG6
  have LL6 : Hid (D6.length = 2048) := by rw [Hid, ← hD6, length_splice _ _ _ (by rw [LL5.out]; simp [b16]), LL5.out]
  have E6 := Lib.hid hD6; clear hD6 hO6
  go_wp2_with fail
  go_region_law (first
    | (go_simp; go_at_call 47; refine (both16_any 1 (by omega) (by omega) _).mono ?_; rintro e w' ⟨rfl, rfl⟩)
    | (refine step_copy_bytes rfl (.tmp 37) (.tmp 38) 26 26 rfl Tryz.underlying26 rfl _ _ _ _ _ _ rfl rfl (w.heap.size + 1) 124 _ (b16 1) (HG6.alloc _).drew rfl (SrcB.of_blk (Blk.new w6 _).drew) rfl (by rw [LL6.out]; simp [b16]) (w.heap.size + 1) _ ((hB6.alloc (sz_alloc hB6.size) _).drew) (Nat.le_refl _) ?_; intro w7 HG7 hB7 hO7))
  generalize hD7 : splice _ _ _ = D7 at HG7
  have LL7 : Hid (D7.length = 2048) := by rw [Hid, ← hD7, length_splice _ _ _ (by rw [LL6.out]; simp [b16]), LL6.out]
  have E7 := Lib.hid hD7; clear hD7 hO7
  go_wp2_with fail
  go_region_law (first
    | (go_simp; go_at_call 47; refine (both16_any 2048 (by omega) (by omega) _).mono ?_; rintro e w' ⟨rfl, rfl⟩)
    | (refine step_copy_bytes rfl (.tmp 41) (.tmp 42) 26 26 rfl Tryz.underlying26 rfl _ _ _ _ _ _ rfl rfl (w.heap.size + 1) 128 _ (b16 2048) (HG7.alloc _).drew rfl (SrcB.of_blk (Blk.new w7 _).drew) rfl (by rw [LL7.out]; simp [b16]) (w.heap.size + 1) _ ((hB7.alloc (sz_alloc hB7.size) _).drew) (Nat.le_refl _) ?_; intro w8 HG8 hB8 hO8))
  generalize hD8 : splice _ _ _ = D8 at HG8
  have LL8 : Hid (D8.length = 2048) := by rw [Hid, ← hD8, length_splice _ _ _ (by rw [LL7.out]; simp [b16]), LL7.out]
  have E8 := Lib.hid hD8; clear hD8 hO8
  go_wp2_with fail
  go_region_law (first
    | (go_simp; go_at_call 46; refine (both32_any _ (by omega) (by omega) _).mono ?_; rintro e w' ⟨rfl, rfl⟩)
    | (refine step_copy_bytes rfl (.tmp 45) (.tmp 47) 26 26 rfl Tryz.underlying26 rfl _ _ _ _ _ _ rfl rfl (w.heap.size + 1) 132 _ (b32 paths) (HG8.alloc _).drew rfl (SrcB.of_blk (Blk.new w8 _).drew) rfl (by rw [LL8.out]; simp [b32]) (w.heap.size + 1) _ ((hB8.alloc (sz_alloc hB8.size) _).drew) (Nat.le_refl _) ?_; intro w9 HG9 hB9 hO9))
  generalize hD9 : splice _ _ _ = D9 at HG9
  have LL9 : Hid (D9.length = 2048) := by rw [Hid, ← hD9, length_splice _ _ _ (by rw [LL8.out]; simp [b32]), LL8.out]
  have E9 := Lib.hid hD9; clear hD9 hO9
  go_wp2_with fail
  go_region_law (first
    | (go_simp; go_at_call 46; refine (both32_any _ (by omega) (by omega) _).mono ?_; rintro e w' ⟨rfl, rfl⟩)
    | (refine step_copy_bytes rfl (.tmp 50) (.tmp 53) 26 26 rfl Tryz.underlying26 rfl _ _ _ _ _ _ rfl rfl (w.heap.size + 1) 140 _ ((b32 little).take 4) (HG9.alloc _).drew rfl (SrcB.take_blk (Blk.new w9 _).drew 4 (by simp)) rfl (by rw [LL9.out]; simp [b32]) (w.heap.size + 1) _ ((hB9.alloc (sz_alloc hB9.size) _).drew) (Nat.le_refl _) ?_; intro w10 HG10 hB10 hO10))
  generalize hD10 : splice _ _ _ = D10 at HG10
  have LL10 : Hid (D10.length = 2048) := by rw [Hid, ← hD10, length_splice _ _ _ (by rw [LL9.out]; simp [b32]), LL9.out]
  have E10 := Lib.hid hD10; clear hD10 hO10
  go_wp2_with fail
  go_region_law (first
    | (go_simp; go_at_call 46; refine (both32_any _ (by omega) (by omega) _).mono ?_; rintro e w' ⟨rfl, rfl⟩)
    | (refine step_copy_bytes rfl (.tmp 56) (.tmp 59) 26 26 rfl Tryz.underlying26 rfl _ _ _ _ _ _ rfl rfl (w.heap.size + 1) 148 _ ((b32 big).drop 4) (HG10.alloc _).drew rfl (SrcB.drop_blk (Blk.new w10 _).drew 4) rfl (by rw [LL10.out]; simp [b32]) (w.heap.size + 1) _ ((hB10.alloc (sz_alloc hB10.size) _).drew) (Nat.le_refl _) ?_; intro w11 HG11 hB11 hO11))
  generalize hD11 : splice _ _ _ = D11 at HG11
  have LL11 : Hid (D11.length = 2048) := by rw [Hid, ← hD11, length_splice _ _ _ (by rw [LL10.out]; simp [b32]), LL10.out]
  have E11 := Lib.hid hD11; clear hD11 hO11
  go_wp2_with fail
  have x11 := (hB11.cell (p := ⟨w.heap.size, 11, none⟩) (Nat.lt_succ_self _)).trans (new_cell w _ 61 11)
  have x12 := (hB11.cell (p := ⟨w.heap.size, 12, none⟩) (Nat.lt_succ_self _)).trans (new_cell w _ 61 12)
  have x7 := (hB11.cell (p := ⟨w.heap.size, 7, none⟩) (Nat.lt_succ_self _)).trans (new_cell w _ 61 7)
  simp at x11 x12 x7
  have hrec := fun W => isoRecord_any ⟨#[0]⟩ ext size tme true none 0 W 34 rfl (by decide) (by decide) he0 he1 hs0 hs1
  go_region_held3 (fun w' => w'.cell? ⟨w.heap.size, 11, none⟩ = some (.int .u32 ext) ∧ w'.cell? ⟨w.heap.size, 12, none⟩ = some (.int .u32 size) ∧ w'.cell? ⟨w.heap.size, 7, none⟩ = some (.int .i64 tme))
    (first
      | exact ⟨x11, x12, x7⟩
      | (refine ⟨?_, ?_, ?_⟩ <;> (rw [hba.cell (by show w.heap.size < w11.heap.size; have := sz_alloc hB11.size; omega)]; assumption))
      | (refine ⟨?_, ?_, ?_⟩ <;> (rw [World.cell?_of_block (hO12.1 _ (by simp)), hba.cell (by show w.heap.size < w11.heap.size; have := sz_alloc hB11.size; omega)]; assumption))
      | go_keep)
    ((first
    | (go_at_call 44; refine (hrec _).mono ?_; rintro e wa ⟨rfl, ⟨tm, htm, hRB⟩, hba⟩; have TM := Lib.hid htm; clear htm)
    | (refine step_copy_bytes rfl (.tmp 62) (.tmp 70) 26 26 rfl Tryz.underlying26 rfl _ _ _ _ _ _ rfl rfl (w.heap.size + 1) 156 _ _ (HG11.drew.below hba) rfl (SrcB.of_blk hRB) (by rw [recD_len _ _ _ _ _ TM.out]; rfl) (by rw [LL11.out, recD_len _ _ _ _ _ TM.out]; decide) (w.heap.size + 1) _ (hB11.drew.trans (hba.mono (sz_alloc hB11.size))) (Nat.le_refl _) ?_; intro w12 HG12 hB12 hO12)))
  generalize hD12 : splice _ _ _ = D12 at HG12
  have LL12 : Hid (D12.length = 2048) := by rw [Hid, ← hD12, length_splice _ _ _ (by rw [LL11.out, recD_len _ _ _ _ _ TM.out]; decide), LL11.out]
  have E12 := Lib.hid hD12; clear hD12 hO12 hrec x11 x12 x7
  go_wp2_with fail
  go_region_law (first
    | (go_simp; go_at_call 45; refine (padded_lit _ _ 623 _ rfl (by decide) (by omega)).mono ?_; rintro e wa ⟨sp, cp, rfl, hsr, hba⟩)
    | (refine step_copy_bytes rfl (.tmp 73) (.tmp 74) 26 26 rfl Tryz.underlying26 rfl _ _ _ _ _ _ rfl rfl (w.heap.size + 1) 190 _ _ (HG12.drew.below hba) rfl hsr (by rw [pad_len _ _ (by decide)]; rfl) (by rw [LL12.out]; rw [pad_len _ _ (by decide)]; omega) (w.heap.size + 1) _ (hB12.drew.trans (hba.mono (sz_alloc hB12.size))) (Nat.le_refl _) ?_; intro w13 HG13 hB13 hO13))
  generalize hD13 : splice _ _ _ = D13 at HG13
  have LL13 : Hid (D13.length = 2048) := by rw [Hid, ← hD13, length_splice _ _ _ (by rw [LL12.out]; rw [pad_len _ _ (by decide)]; omega), LL12.out]
  have E13 := Lib.hid hD13; clear hD13 hO13
  go_wp2_with fail
  refine wp_loop_rounds 5 ?_
  rw [rounds_succ]
  go_wp2_with (refine wpList_copy_string rfl (.tmp 83) _ 26 9 rfl Tryz.underlying26 rfl _ _ _ zeroTime rfl rfl (w.heap.size + 1) 813 _ HG13 rfl (by decide) (by rw [LL13.out]; decide) (w.heap.size + 1) _ hB13 (Nat.le_refl _) ?_; intro w14 HG14 hB14 hO14)
  generalize hD14 : splice _ _ _ = D14 at HG14
  have LL14 : Hid (D14.length = 2048) := by rw [Hid, ← hD14, length_splice _ _ _ (by rw [LL13.out]; decide), LL13.out]
  have E14 := Lib.hid hD14; clear hD14 hO14
  rw [rounds_succ]
  go_wp2_with (refine wpList_copy_string rfl (.tmp 83) _ 26 9 rfl Tryz.underlying26 rfl _ _ _ zeroTime rfl rfl (w.heap.size + 1) 830 _ HG14 rfl (by decide) (by rw [LL14.out]; decide) (w.heap.size + 1) _ hB14 (Nat.le_refl _) ?_; intro w15 HG15 hB15 hO15)
  generalize hD15 : splice _ _ _ = D15 at HG15
  have LL15 : Hid (D15.length = 2048) := by rw [Hid, ← hD15, length_splice _ _ _ (by rw [LL14.out]; decide), LL14.out]
  have E15 := Lib.hid hD15; clear hD15 hO15
  rw [rounds_succ]
  go_wp2_with (refine wpList_copy_string rfl (.tmp 83) _ 26 9 rfl Tryz.underlying26 rfl _ _ _ zeroTime rfl rfl (w.heap.size + 1) 847 _ HG15 rfl (by decide) (by rw [LL15.out]; decide) (w.heap.size + 1) _ hB15 (Nat.le_refl _) ?_; intro w16 HG16 hB16 hO16)
  generalize hD16 : splice _ _ _ = D16 at HG16
  have LL16 : Hid (D16.length = 2048) := by rw [Hid, ← hD16, length_splice _ _ _ (by rw [LL15.out]; decide), LL15.out]
  have E16 := Lib.hid hD16; clear hD16 hO16
  rw [rounds_succ]
  go_wp2_with (refine wpList_copy_string rfl (.tmp 83) _ 26 9 rfl Tryz.underlying26 rfl _ _ _ zeroTime rfl rfl (w.heap.size + 1) 864 _ HG16 rfl (by decide) (by rw [LL16.out]; decide) (w.heap.size + 1) _ hB16 (Nat.le_refl _) ?_; intro w17 HG17 hB17 hO17)
  generalize hD17 : splice _ _ _ = D17 at HG17
  have LL17 : Hid (D17.length = 2048) := by rw [Hid, ← hD17, length_splice _ _ _ (by rw [LL16.out]; decide), LL16.out]
  have E17 := Lib.hid hD17; clear hD17 hO17
  rw [rounds_succ]
  go_wp2_with (first
    | (refine wpList_copy_string rfl (.tmp 87) _ 26 9 rfl Tryz.underlying26 rfl _ _ _ someTime rfl rfl (w.heap.size + 1) 813 _ HG17 rfl (by decide) (by rw [LL17.out]; decide) (w.heap.size + 1) _ hB17 (Nat.le_refl _) ?_; intro w18 HG18 hB18 hO18; have LL18 : Hid ((splice D17 813 someTime.data.toList).length = 2048) := by rw [Hid, length_splice _ _ _ (by rw [LL17.out]; decide), LL17.out])
    | (refine wpList_copy_string rfl (.tmp 90) _ 26 9 rfl Tryz.underlying26 rfl _ _ _ someTime rfl rfl (w.heap.size + 1) 830 _ HG18 rfl (by decide) (by rw [LL18.out]; decide) (w.heap.size + 1) _ hB18 (Nat.le_refl _) ?_; intro w19 HG19 hB19 hO19; have c881 := HG19.cell_of 881 (by rw [length_splice _ _ _ (by rw [LL18.out]; decide), LL18.out]; decide); have f881 := HG19.free 881))
  go_ret
  refine ⟨⟨w.heap.size + 1, by omega, rfl, tm, TM.out, ?_⟩, ((Below.refl _ _).alloc (Nat.le_refl _) _).trans ((hB19.mono (Nat.le_succ _)).setCell (p := ⟨w.heap.size + 1, 881, none⟩) (Nat.le_succ _) _)⟩
  have h := HG19.store 881 1
  have e2 : volD vol.data.toList ext size blocks paths little big tm = (splice (splice D17 813 someTime.data.toList) 830 someTime.data.toList).set 881 1 := by
    have hl : vol.data.toList.length = vol.size := by simp
    simp only [volD, hl]
    rw [← E17.out, ← E16.out, ← E15.out, ← E14.out, ← E13.out, ← E12.out, ← E11.out, ← E10.out, ← E9.out, ← E8.out, ← E7.out, ← E6.out, ← E5.out, ← E4.out, ← E3.out, ← E2.out]
    rfl
  rw [e2]
  exact h

end Go.Proofs.YtfppgplboomdbaaGreatDoor
