/- Part of the proofs of laws.FnIsoTree and laws.FnIsoAt: lemmas and contracts of functions that the two laws reach, each under the hypotheses that its own statement names. -/
import Derived.Test.YtfppgplboomdbaaGreatDoorMPart18
namespace Go.Proofs.YtfppgplboomdbaaGreatDoor
open Go.RowKit

/-- The number at a place of a row of bytes. -/
def le16 (D : Bs) (a : Nat) : Int := (Lib.leNat [D.getD a 0, D.getD (a + 1) 0] : Nat)
def le32A (D : Bs) (a : Nat) : Int := (Lib.leNat [D.getD a 0, D.getD (a + 1) 0, D.getD (a + 2) 0, D.getD (a + 3) 0] : Nat)
def be32A (D : Bs) (a : Nat) : Int := (Lib.beNat [D.getD a 0, D.getD (a + 1) 0, D.getD (a + 2) 0, D.getD (a + 3) 0] : Nat)
theorem cell_getD {w : World} {g : Nat} {D : Bs} (h : w.rangeAt g 0 (bcs D)) {a : Nat} (ha : a < D.length) : w.cell? ⟨g, a, none⟩ = some (.int .u8 ((D.getD a 0).toNat : Int)) := by
  have h1 := cell_byte h a (D.getD a 0) (by rw [List.getD_eq_getElem?_getD, List.getElem?_eq_getElem ha]; rfl)
  rwa [Nat.zero_add] at h1
theorem le16_any {w : World} {g : Nat} {D : Bs} (h : w.rangeAt g 0 (bcs D)) (a c : Nat) (ha : a + 2 ≤ D.length) : Calls Tryz.prog 85 #[.agg #[], .slice (some ⟨g, a, none⟩) 2 c] w fun e w' => e = .returned (.int .u16 (le16 D a)) ∧ Below w.heap.size w w' :=
  Tryz.binary_LE_Uint16 g a 2 c _ _ w (Nat.le_refl _) (cell_getD h (by omega)) (cell_getD h (by omega))
theorem le32_any {w : World} {g : Nat} {D : Bs} (h : w.rangeAt g 0 (bcs D)) (a c : Nat) (ha : a + 4 ≤ D.length) : Calls Tryz.prog 84 #[.agg #[], .slice (some ⟨g, a, none⟩) 4 c] w fun e w' => e = .returned (.int .u32 (le32A D a)) ∧ Below w.heap.size w w' :=
  Tryz.binary_LE_Uint32 g a 4 c _ _ _ _ w (Nat.le_refl _) (cell_getD h (by omega)) (cell_getD h (by omega)) (cell_getD h (by omega)) (cell_getD h (by omega))
theorem be32_any {w : World} {g : Nat} {D : Bs} (h : w.rangeAt g 0 (bcs D)) (a c : Nat) (ha : a + 4 ≤ D.length) : Calls Tryz.prog 108 #[.agg #[], .slice (some ⟨g, a, none⟩) 4 c] w fun e w' => e = .returned (.int .u32 (be32A D a)) ∧ Below w.heap.size w w' :=
  Tryz.binary_BE_Uint32 g a 4 c _ _ _ _ w (Nat.le_refl _) (cell_getD h (by omega)) (cell_getD h (by omega)) (cell_getD h (by omega)) (cell_getD h (by omega))
theorem seg_getD {D S : Bs} {a n : Nat} (h : seg D a n = S) (k : Nat) (hk : k < n) : D.getD (a + k) 0 = S.getD k 0 := by
  rw [← h]
  unfold seg
  rw [List.getD_eq_getElem?_getD, List.getD_eq_getElem?_getD, List.getElem?_take, if_pos hk, List.getElem?_drop]
theorem le32A_b32 {D : Bs} {a n : Nat} {x : Int} (h : seg D a n = (b32 x).take n) (hn : 4 ≤ n) (h0 : 0 ≤ x) (h1 : x < 4294967296) : le32A D a = x := by
  have e := fun (k : Nat) (hk : k < 4) => seg_getD h k (by omega)
  have t : ∀ k, k < 4 → ((b32 x).take n).getD k 0 = (b32 x).getD k 0 := fun k hk => by
    rw [List.getD_eq_getElem?_getD, List.getD_eq_getElem?_getD, List.getElem?_take, if_pos (by omega)]
  have e0 := (e 0 (by omega)).trans (t 0 (by omega))
  have e1 := (e 1 (by omega)).trans (t 1 (by omega))
  have e2 := (e 2 (by omega)).trans (t 2 (by omega))
  have e3 := (e 3 (by omega)).trans (t 3 (by omega))
  rw [Nat.add_zero] at e0
  unfold le32A
  rw [e0, e1, e2, e3]
  exact leNat_b32 x h0 h1
theorem bytesOf_map (l : Bs) : Lib.bytesOf (l.map fun b => (b.toNat : Int)) = l := by
  unfold Lib.bytesOf
  rw [List.map_map]
  exact (List.map_congr_left (fun b _ => by simp)).trans (List.map_id l)
theorem bytesEq_any {w : World} {g o g2 o2 : Nat} {l l2 : Bs} (n m c c2 : Nat) (hn : l.length = n) (hm : l2.length = m) (h1 : w.rangeAt g o (bcs l)) (h2 : w.rangeAt g2 o2 (bcs l2)) :
    Calls Tryz.prog 105 #[.slice (some ⟨g, o, none⟩) n c, .slice (some ⟨g2, o2, none⟩) m c2] w fun e w' => e = .returned (.bool (l == l2)) ∧ w' = w := by
  have k1 := bytes_str h1 hn c
  have k2 := bytes_str h2 hm c2
  rw [← strOfNums_bytes] at k1 k2
  have := Tryz.bytes_Equal _ _ _ _ w k1 k2
  rw [bytesOf_map, bytesOf_map] at this
  exact this
theorem range_seg {w : World} {g : Nat} {D S : Bs} (h : w.rangeAt g 0 (bcs D)) {a n : Nat} (hs : seg D a n = S) (hl : S.length = n) : w.rangeAt g a (bcs S) := by
  have h1 := rangeAt_sub h a (S := S) (fun k hk => by
    rw [← hs]
    unfold seg
    rw [List.getElem?_take, if_pos (by omega), List.getElem?_drop])
  rwa [Nat.zero_add] at h1
/-- A time in a block. -/
def TimeC (w : World) (b : Nat) : Prop := (∃ x y z : Int, w.cell? ⟨b, 0, none⟩ = some (.int .i64 x) ∧ w.cell? ⟨b, 1, none⟩ = some (.int .i64 y) ∧ w.cell? ⟨b, 2, none⟩ = some (.int .i64 z)) ∧ ∀ k, w.frozen? ⟨b, k, none⟩ = false
theorem TimeC.same {w w' : World} {b : Nat} (h : TimeC w b) (e : w'.heap[b]? = w.heap[b]?) : TimeC w' b := by
  obtain ⟨⟨x, y, z, h0, h1, h2⟩, hf⟩ := h
  exact ⟨⟨x, y, z, (World.cell?_of_block (a := ⟨b, 0, none⟩) e).trans h0, (World.cell?_of_block (a := ⟨b, 1, none⟩) e).trans h1, (World.cell?_of_block (a := ⟨b, 2, none⟩) e).trans h2⟩, fun k => (World.frozen?_of_block (a := ⟨b, k, none⟩) e).trans (hf k)⟩
theorem TimeC.set {w : World} {b : Nat} (h : TimeC w b) (x y z : Int) : TimeC (((w.setCell ⟨b, 0, none⟩ (.int .i64 x)).setCell ⟨b, 1, none⟩ (.int .i64 y)).setCell ⟨b, 2, none⟩ (.int .i64 z)) b := by
  obtain ⟨⟨_, _, _, h0, h1, h2⟩, hf⟩ := h
  obtain ⟨e0, e1, e2⟩ := set3b (.int .i64 x) (.int .i64 y) (.int .i64 z) h0 h1 h2
  refine ⟨⟨x, y, z, e0, e1, e2⟩, fun k => ?_⟩
  have := World.frozen?_setCells b [.int .i64 x, .int .i64 y, .int .i64 z] 0 w ⟨b, k, none⟩
  exact (show _ = _ from this).trans (hf k)
theorem TimeC.lt {w : World} {b : Nat} (h : TimeC w b) : b < w.heap.size := by
  obtain ⟨⟨_, _, _, h0, _⟩, _⟩ := h
  exact World.block_lt_of_cell? w _ h0
theorem TimeC.new (w : World) (t : TypeId) : TimeC (w.alloc (.cells #[.int .i64 0, .int .i64 0, .int .i64 0] t)) w.heap.size := by
  have hr := heap_alloc_new w (.cells #[.int .i64 0, .int .i64 0, .int .i64 0] t)
  exact ⟨⟨0, 0, 0, cell_of_row _ _ 0 _ _ _ hr, cell_of_row _ _ 1 _ _ _ hr, cell_of_row _ _ 2 _ _ _ hr⟩, fun k => by unfold World.frozen?; rw [hr]; simp⟩
/-- A primary volume descriptor that was read. -/
structure PvAt (w : World) (pv : Nat) (vol : Bs) (paths little : Int) (p : Nat) : Prop where
  c1 : w.cell? ⟨pv, 1, none⟩ = some (.string ⟨(vol ++ List.replicate (32 - vol.length) 32).toArray⟩)
  c5 : w.cell? ⟨pv, 5, none⟩ = some (.int .u16 2048)
  c6 : w.cell? ⟨pv, 6, none⟩ = some (.int .u32 paths)
  c7 : w.cell? ⟨pv, 7, none⟩ = some (.int .u32 little)
  c11 : w.cell? ⟨pv, 11, none⟩ = some (.pointer (some ⟨p, 0, none⟩))
structure PvS (g : Nat) (D : Bs) (b1 b2 b3 b4 : Nat) (p1 p2 p3 p4 p5 p6 p7 p8 p9 pa pb pc : Int) (w : World) : Prop where
  rng : w.rangeAt g 0 (bcs D)
  a0 : w.cell? ⟨b1, 0, none⟩ = some (.int .i64 p1)
  a1 : w.cell? ⟨b1, 1, none⟩ = some (.int .i64 p2)
  a2 : w.cell? ⟨b1, 2, none⟩ = some (.int .i64 p3)
  b0 : w.cell? ⟨b2, 0, none⟩ = some (.int .i64 p4)
  b1 : w.cell? ⟨b2, 1, none⟩ = some (.int .i64 p5)
  b2 : w.cell? ⟨b2, 2, none⟩ = some (.int .i64 p6)
  c0 : w.cell? ⟨b3, 0, none⟩ = some (.int .i64 p7)
  c1 : w.cell? ⟨b3, 1, none⟩ = some (.int .i64 p8)
  c2 : w.cell? ⟨b3, 2, none⟩ = some (.int .i64 p9)
  d0 : w.cell? ⟨b4, 0, none⟩ = some (.int .i64 pa)
  d1 : w.cell? ⟨b4, 1, none⟩ = some (.int .i64 pb)
  d2 : w.cell? ⟨b4, 2, none⟩ = some (.int .i64 pc)
theorem PvS.keep {g : Nat} {D : Bs} {b1 b2 b3 b4 : Nat} {p1 p2 p3 p4 p5 p6 p7 p8 p9 pa pb pc : Int} {w w' : World} (h : PvS g D b1 b2 b3 b4 p1 p2 p3 p4 p5 p6 p7 p8 p9 pa pb pc w) (hb : Below w.heap.size w w') (hg : g < w.heap.size) (h4 : b4 < w.heap.size) (ho : b1 < b4 ∧ b2 < b4 ∧ b3 < b4) : PvS g D b1 b2 b3 b4 p1 p2 p3 p4 p5 p6 p7 p8 p9 pa pb pc w' := by
  have hc := fun (b k : Nat) (hlt : b < w.heap.size) => hb.cell (p := ⟨b, k, none⟩) hlt
  obtain ⟨o1, o2, o3⟩ := ho
  exact ⟨fun j v hv => (hc g (0 + j) hg).trans (h.rng j v hv), (hc _ _ (by omega)).trans h.a0, (hc _ _ (by omega)).trans h.a1, (hc _ _ (by omega)).trans h.a2, (hc _ _ (by omega)).trans h.b0, (hc _ _ (by omega)).trans h.b1, (hc _ _ (by omega)).trans h.b2, (hc _ _ (by omega)).trans h.c0, (hc _ _ (by omega)).trans h.c1, (hc _ _ (by omega)).trans h.c2, (hc _ _ (by omega)).trans h.d0, (hc _ _ (by omega)).trans h.d1, (hc _ _ (by omega)).trans h.d2⟩
def rootE (ext size : Int) (tm : Bs) : RecE := ⟨[0], ext, size, tm, true⟩
def PvPost (vol : Bs) (ext size paths little : Int) (tm : Bs) (w : World) (e : Ending) (w' : World) : Prop := ∃ pv p, e = .returned (.tuple #[.pointer (some ⟨pv, 0, none⟩), .nilIface]) ∧ PvAt w' pv vol paths little p ∧ EntAt w' p (rootE ext size tm) (.pointer none) ∧ w.heap.size ≤ pv ∧ w.heap.size ≤ p ∧ Below w.heap.size w w'
set_option maxHeartbeats 8000000 in
set_option maxRecDepth 100000 in
theorem parsePvd_any (g : Nat) (D vol : Bs) (ext size paths little : Int) (tm : Bs) (w : World) (hg : g < w.heap.size) (hD : w.rangeAt g 0 (bcs D)) (hv : VolIs D vol ext size paths little tm) (_hv32 : vol.length ≤ 32) (htm : tm.length = 7) (he : 0 ≤ ext ∧ ext < 4294967296) (hsz : 0 ≤ size ∧ size < 4294967296) (hp : 0 ≤ paths ∧ paths < 4294967296) (hl : 0 ≤ little ∧ little < 4294967296) :
    Calls Tryz.prog 80 #[.slice (some ⟨g, 0, none⟩) 2048 2048] w fun e w' => PvPost vol ext size paths little tm w e w' := by
  have hlen := hv.len
  have HD := Lib.hid hD
  have HV := Lib.hid hv
  have HLEN := Lib.hid hlen
  have hrange : ∀ w', Below w.heap.size w w' → w'.rangeAt g 0 (bcs D) := fun w' hb j v hv => (hb.cell (p := ⟨g, 0 + j, none⟩) hg).trans (hD j v hv)
  have HRG := Lib.hid hrange
  have hbs : le16 D 128 = 2048 := by
    have e0 := seg_getD hv.bs 0 (by omega)
    have e1 := seg_getD hv.bs 1 (by omega)
    unfold le16
    rw [Nat.add_zero] at e0
    rw [e0, e1]; rfl
  have hpaths : le32A D 132 = paths := le32A_b32 (n := 8) (by rw [hv.paths]; rfl) (by omega) hp.1 hp.2
  have hlittle : le32A D 140 = little := le32A_b32 (n := 4) hv.little (by omega) hl.1 hl.2
  have HBS := Lib.hid hbs
  have HPT := Lib.hid hpaths
  have HLT := Lib.hid hlittle
  clear hD hv hlen hrange hbs hpaths hlittle
  go_enter Tryz.func80, Tryz.ntmps80
  go_upto_region 1 with (fail)
  refine wp_region_noPanic ?_
  refine wp_region_held_drew (S := fun w' => True) (by kernel_rfl) trivial (fun hS0 => ?_)
  refine hTake (i := 0) (v := ?_) (some 16) rfl rfl (by kernel_rfl) (by kernel_rfl) (by kernel_rfl) (fun _ _ _ h => h) (Or.inl ⟨by rfl, ?hy1x0⟩) hS0 ?hr1x0
  case hy1x0 => (intro w' hSw; clear hSw; go_simp; try with_reducible rfl)
  try simp only [Act.put, List.setIfInBounds_toArray, List.set_cons_zero, List.set_cons_succ]
  refine hTake (i := 1) (v := ?_) (some 17) rfl rfl (by kernel_rfl) (by kernel_rfl) (by kernel_rfl) (fun _ _ _ h => h) (Or.inl ⟨by rfl, ?hy1x1⟩) hS0 ?hr1x1
  case hy1x1 => (intro w' hSw; clear hSw; go_simp; try with_reducible rfl)
  try simp only [Act.put, List.setIfInBounds_toArray, List.set_cons_zero, List.set_cons_succ]
  refine hTake (i := 2) (v := ?_) (some 18) rfl rfl (by kernel_rfl) (by kernel_rfl) (by kernel_rfl) (fun _ _ _ h => h) (Or.inl ⟨by rfl, ?hy1x2⟩) hS0 ?hr1x2
  case hy1x2 => (intro w' hSw; clear hSw; go_simp; try with_reducible rfl)
  try simp only [Act.put, List.setIfInBounds_toArray, List.set_cons_zero, List.set_cons_succ]
  refine wpAnyH_all (rs := [3]) (by kernel_rfl) (by simp) (rows1 ?_)
  refine hCall (f := 85) (args := #[.agg #[], .slice (some ⟨g, 128, none⟩) 2 1920]) (some 19) rfl rfl rfl (by go_simp) ?_
  refine (le16_any (D := D) (w := w.drew) HD.out 128 1920 (by have := HLEN.out; omega)).mono ?_
  rintro e w1 ⟨rfl, hb1⟩
  refine ⟨_, rfl, trivial, ?_⟩
  rw [HBS.out]
  try simp only [Act.put, List.setIfInBounds_toArray, List.set_cons_zero, List.set_cons_succ]
  refine hTake (i := 4) (v := ?_) (some 4) rfl rfl (by kernel_rfl) (by kernel_rfl) (by kernel_rfl) (fun _ _ _ h => h) (Or.inl ⟨by rfl, ?hy1x4⟩) hS0 ?hr1x4
  case hy1x4 => (intro w' hSw; clear hSw; go_simp; try with_reducible rfl)
  try simp only [Act.put, List.setIfInBounds_toArray, List.set_cons_zero, List.set_cons_succ]
  refine wpAnyH_done (by kernel_rfl) ?_ _
  refine NoPanic.normal ?_
  have hbw1 : Below w.heap.size w w1 := below_of_drew hb1
  have HB1 := Lib.hid hbw1
  clear hb1 hbw1
  go_upto_region 5 with (fail)
  obtain ⟨A0, hA0⟩ : ∃ A0 : World, A0 = w1.alloc (.cells #[.int .u8 48, .int .u8 48, .int .u8 48, .int .u8 48, .int .u8 48, .int .u8 48, .int .u8 48, .int .u8 48, .int .u8 48, .int .u8 48, .int .u8 48, .int .u8 48, .int .u8 48, .int .u8 48, .int .u8 48, .int .u8 48, .int .u8 0] 5) := ⟨_, rfl⟩
  rw [← hA0]
  obtain ⟨A1, hA1⟩ : ∃ A1 : World, A1 = A0.alloc (.cells #[.int .i64 0, .int .i64 0, .int .i64 0] 142) := ⟨_, rfl⟩
  rw [← hA1]
  obtain ⟨A2, hA2⟩ : ∃ A2 : World, A2 = A1.alloc (.cells #[.int .i64 0, .int .i64 0, .int .i64 0] 142) := ⟨_, rfl⟩
  rw [← hA2]
  obtain ⟨A3, hA3⟩ : ∃ A3 : World, A3 = A2.alloc (.cells #[.int .i64 0, .int .i64 0, .int .i64 0] 142) := ⟨_, rfl⟩
  rw [← hA3]
  obtain ⟨A4, hA4⟩ : ∃ A4 : World, A4 = A3.alloc (.cells #[.int .i64 0, .int .i64 0, .int .i64 0] 142) := ⟨_, rfl⟩
  rw [← hA4]
  have s0 : A0.heap.size = w1.heap.size + 1 := by rw [hA0]; simp
  have s1 : A1.heap.size = w1.heap.size + 1 + 1 := by rw [hA1, World.size_alloc, s0]
  have s2 : A2.heap.size = w1.heap.size + 1 + 1 + 1 := by rw [hA2, World.size_alloc, s1]
  have s3 : A3.heap.size = w1.heap.size + 1 + 1 + 1 + 1 := by rw [hA3, World.size_alloc, s2]
  have s4 : A4.heap.size = w1.heap.size + 1 + 1 + 1 + 1 + 1 := by rw [hA4, World.size_alloc, s3]
  have k12 : Below A1.heap.size A1 A2 := by rw [hA2]; exact (Below.refl _ _).alloc (Nat.le_refl _) _
  have k23 : Below A2.heap.size A2 A3 := by rw [hA3]; exact (Below.refl _ _).alloc (Nat.le_refl _) _
  have k34 : Below A3.heap.size A3 A4 := by rw [hA4]; exact (Below.refl _ _).alloc (Nat.le_refl _) _
  have k01 : Below A0.heap.size A0 A1 := by rw [hA1]; exact (Below.refl _ _).alloc (Nat.le_refl _) _
  have kw0 : Below w1.heap.size w1 A0 := by rw [hA0]; exact (Below.refl _ _).alloc (Nat.le_refl _) _
  have k24 : Below A2.heap.size A2 A4 := k23.trans (k34.mono (by omega))
  have k14 : Below A1.heap.size A1 A4 := k12.trans (k24.mono (by omega))
  have k04 : Below A0.heap.size A0 A4 := k01.trans (k14.mono (by omega))
  have hb4 : Below w1.heap.size w1 A4 := kw0.trans (k04.mono (by omega))
  have T1 : TimeC A4 (w1.heap.size + 1) := by
    have h := TimeC.new A0 142
    rw [← hA1, s0] at h
    exact h.same (k14.block _ (by omega))
  have T2 : TimeC A4 (w1.heap.size + 1 + 1) := by
    have h := TimeC.new A1 142
    rw [← hA2, s1] at h
    exact h.same (k24.block _ (by omega))
  have T3 : TimeC A4 (w1.heap.size + 1 + 1 + 1) := by
    have h := TimeC.new A2 142
    rw [← hA3, s2] at h
    exact h.same (k34.block _ (by omega))
  have T4 : TimeC A4 (w1.heap.size + 1 + 1 + 1 + 1) := by
    have h := TimeC.new A3 142
    rw [← hA4, s3] at h
    exact h
  have hz : A4.rangeAt w1.heap.size 0 (bcs zeroTime.data.toList) := fun j v hv => by
    rw [k04.cell (p := ⟨w1.heap.size, 0 + j, none⟩) (by show w1.heap.size < _; omega)]
    have h := row_at w1 (bcs zeroTime.data.toList) 5 j v hv
    rw [Addr.add_mid] at h
    rw [hA0]
    exact h
  obtain ⟨z, hzz⟩ : ∃ z, w1.heap.size = z := ⟨_, rfl⟩
  rw [hzz] at T1 T2 T3 T4 hz s4 ⊢
  obtain ⟨b1, e1⟩ : ∃ b, z + 1 = b := ⟨_, rfl⟩
  rw [e1] at T1 T2 T3 T4 s4 ⊢
  obtain ⟨b2, e2⟩ : ∃ b, b1 + 1 = b := ⟨_, rfl⟩
  rw [e2] at T2 T3 T4 s4 ⊢
  obtain ⟨b3, e3⟩ : ∃ b, b2 + 1 = b := ⟨_, rfl⟩
  rw [e3] at T3 T4 s4 ⊢
  obtain ⟨b4, e4⟩ : ∃ b, b3 + 1 = b := ⟨_, rfl⟩
  rw [e4] at T4 s4 ⊢
  have hwz : w.heap.size ≤ z := by rw [← hzz]; exact HB1.out.size
  have hbA : Below w.heap.size w A4 := HB1.out.trans (hb4.mono (by have := HB1.out.size; omega))
  have ho : z < b1 ∧ b1 < b2 ∧ b2 < b3 ∧ b3 < b4 ∧ b4 < A4.heap.size := by omega
  have HBA := Lib.hid hbA
  have HZ := Lib.hid hz
  have HT1 := Lib.hid T1
  have HT2 := Lib.hid T2
  have HT3 := Lib.hid T3
  have HT4 := Lib.hid T4
  obtain ⟨ho1, ho2, ho3, ho4, ho5⟩ := ho
  clear hA0 hA1 hA2 hA3 hA4 s0 s1 s2 s3 s4 k12 k23 k34 k01 kw0 k24 k14 k04 hb4 hz T1 T2 T3 T4 hbA e1 e2 e3 e4 hzz HB1
  go_upto_region 9 with (fail)
  have hbe : Calls Tryz.prog 105 #[.slice (some ⟨g, 813, none⟩) 17 1235, .slice (some ⟨z, 0, none⟩) 17 17] A4 fun e w' => e = .returned (.bool false) ∧ w' = A4 := by
    have h := bytesEq_any 17 17 1235 17 rfl rfl (range_seg (HRG.out A4 HBA.out) HV.out.t1 rfl) HZ.out
    rw [show (someTime.data.toList == zeroTime.data.toList) = false from by decide] at h
    exact h
  have HBE := Lib.hid hbe
  clear hbe
  go_upto_region 13 with (first
    | (go_at_call 105
       refine HBE.out.mono ?_
       rintro e wx ⟨rfl, hw⟩
       rw [hw]
       clear hw)
    | (go_at_call 106
       refine (decTime_any g 813 1235 A4 (range_seg (HRG.out A4 HBA.out) HV.out.t1 rfl) (by have := HBA.out.size; omega) (by omega)).mono ?_
       rintro e A4b ⟨⟨x1, y1, v1, rfl⟩, hb⟩
       have HT1b := Lib.hid (HT1.out.same (hb.block _ (by omega)))
       obtain ⟨⟨_, _, _, h0, h1, h2⟩, hf⟩ := HT1b.out
       have HBb := Lib.hid hb
       have hsb := hb.size
       clear hb))
  clear h0 h1 h2 hf HBE
  have hT1 := HT1b.out.set x1 y1 v1
  have hbk : ∀ j, j < A4.heap.size → j ≠ b1 → (((A4b.setCell ⟨b1, 0, none⟩ (.int .i64 x1)).setCell ⟨b1, 1, none⟩ (.int .i64 y1)).setCell ⟨b1, 2, none⟩ (.int .i64 v1)).heap[j]? = A4.heap[j]? := fun j hj hne => by
    rw [Below.heap_setCell _ _ _ _ (by show j ≠ b1; exact hne), Below.heap_setCell _ _ _ _ (by show j ≠ b1; exact hne), Below.heap_setCell _ _ _ _ (by show j ≠ b1; exact hne)]
    exact HBb.out.block j hj
  have hbN : Below w.heap.size w (((A4b.setCell ⟨b1, 0, none⟩ (.int .i64 x1)).setCell ⟨b1, 1, none⟩ (.int .i64 y1)).setCell ⟨b1, 2, none⟩ (.int .i64 v1)) := (((HBA.out.trans (HBb.out.mono HBA.out.size)).setCell (by show w.heap.size ≤ b1; omega) _).setCell (by show w.heap.size ≤ b1; omega) _).setCell (by show w.heap.size ≤ b1; omega) _
  have hsN : (((A4b.setCell ⟨b1, 0, none⟩ (.int .i64 x1)).setCell ⟨b1, 1, none⟩ (.int .i64 y1)).setCell ⟨b1, 2, none⟩ (.int .i64 v1)).heap.size = A4b.heap.size := by simp only [World.setCell]; rw [Array.size_modify, Array.size_modify, Array.size_modify]
  generalize ((A4b.setCell ⟨b1, 0, none⟩ (.int .i64 x1)).setCell ⟨b1, 1, none⟩ (.int .i64 y1)).setCell ⟨b1, 2, none⟩ (.int .i64 v1) = A5 at hT1 hbk hbN hsN ⊢
  have hzN : A5.rangeAt z 0 (bcs zeroTime.data.toList) := fun j v hv => (World.cell?_of_block (a := ⟨z, 0 + j, none⟩) (hbk z (by omega) (by omega))).trans (HZ.out j v hv)
  have hT2 := HT2.out.same (hbk b2 (by omega) (by omega))
  have hT3 := HT3.out.same (hbk b3 (by omega) (by omega))
  have hT4 := HT4.out.same (hbk b4 (by omega) (by omega))
  have ho5 : b4 < A5.heap.size := by omega
  clear HT1 HT2 HT3 HT4 HZ HBA HBb HT1b hbk hsN hsb
  have HZ := Lib.hid hzN
  have HBA := Lib.hid hbN
  have HT1 := Lib.hid hT1
  have HT2 := Lib.hid hT2
  have HT3 := Lib.hid hT3
  have HT4 := Lib.hid hT4
  clear hzN hbN hT1 hT2 hT3 hT4
  go_upto_region 13 with (fail)
  have hbe : Calls Tryz.prog 105 #[.slice (some ⟨g, 830, none⟩) 17 1218, .slice (some ⟨z, 0, none⟩) 17 17] A5 fun e w' => e = .returned (.bool false) ∧ w' = A5 := by
    have h := bytesEq_any 17 17 1218 17 rfl rfl (range_seg (HRG.out A5 HBA.out) HV.out.t2 rfl) HZ.out
    rw [show (someTime.data.toList == zeroTime.data.toList) = false from by decide] at h
    exact h
  have HBE := Lib.hid hbe
  clear hbe
  go_upto_region 17 with (first
    | (go_at_call 105
       refine HBE.out.mono ?_
       rintro e wx ⟨rfl, hw⟩
       rw [hw]
       clear hw)
    | (go_at_call 106
       refine (decTime_any g 830 1218 A5 (range_seg (HRG.out A5 HBA.out) HV.out.t2 rfl) (by have := HBA.out.size; omega) (by omega)).mono ?_
       rintro e A5b ⟨⟨x2, y2, v2, rfl⟩, hb⟩
       have HT2b := Lib.hid (HT2.out.same (hb.block _ (by omega)))
       obtain ⟨⟨_, _, _, h0, h1, h2⟩, hf⟩ := HT2b.out
       have HBb := Lib.hid hb
       have hsb := hb.size
       clear hb))
  clear h0 h1 h2 hf HBE
  have hT2 := HT2b.out.set x2 y2 v2
  have hbk : ∀ j, j < A5.heap.size → j ≠ b2 → (((A5b.setCell ⟨b2, 0, none⟩ (.int .i64 x2)).setCell ⟨b2, 1, none⟩ (.int .i64 y2)).setCell ⟨b2, 2, none⟩ (.int .i64 v2)).heap[j]? = A5.heap[j]? := fun j hj hne => by
    rw [Below.heap_setCell _ _ _ _ (by show j ≠ b2; exact hne), Below.heap_setCell _ _ _ _ (by show j ≠ b2; exact hne), Below.heap_setCell _ _ _ _ (by show j ≠ b2; exact hne)]
    exact HBb.out.block j hj
  have hbN : Below w.heap.size w (((A5b.setCell ⟨b2, 0, none⟩ (.int .i64 x2)).setCell ⟨b2, 1, none⟩ (.int .i64 y2)).setCell ⟨b2, 2, none⟩ (.int .i64 v2)) := (((HBA.out.trans (HBb.out.mono HBA.out.size)).setCell (by show w.heap.size ≤ b2; omega) _).setCell (by show w.heap.size ≤ b2; omega) _).setCell (by show w.heap.size ≤ b2; omega) _
  have hsN : (((A5b.setCell ⟨b2, 0, none⟩ (.int .i64 x2)).setCell ⟨b2, 1, none⟩ (.int .i64 y2)).setCell ⟨b2, 2, none⟩ (.int .i64 v2)).heap.size = A5b.heap.size := by simp only [World.setCell]; rw [Array.size_modify, Array.size_modify, Array.size_modify]
  generalize ((A5b.setCell ⟨b2, 0, none⟩ (.int .i64 x2)).setCell ⟨b2, 1, none⟩ (.int .i64 y2)).setCell ⟨b2, 2, none⟩ (.int .i64 v2) = A6 at hT2 hbk hbN hsN ⊢
  have hzN : A6.rangeAt z 0 (bcs zeroTime.data.toList) := fun j v hv => (World.cell?_of_block (a := ⟨z, 0 + j, none⟩) (hbk z (by omega) (by omega))).trans (HZ.out j v hv)
  have hT1 := HT1.out.same (hbk b1 (by omega) (by omega))
  have hT3 := HT3.out.same (hbk b3 (by omega) (by omega))
  have hT4 := HT4.out.same (hbk b4 (by omega) (by omega))
  have ho5 : b4 < A6.heap.size := by omega
  clear HT1 HT2 HT3 HT4 HZ HBA HBb HT2b hbk hsN hsb
  have HZ := Lib.hid hzN
  have HBA := Lib.hid hbN
  have HT1 := Lib.hid hT1
  have HT2 := Lib.hid hT2
  have HT3 := Lib.hid hT3
  have HT4 := Lib.hid hT4
  clear hzN hbN hT1 hT2 hT3 hT4
  go_upto_region 17 with (fail)
  have hbe : Calls Tryz.prog 105 #[.slice (some ⟨g, 847, none⟩) 17 1201, .slice (some ⟨z, 0, none⟩) 17 17] A6 fun e w' => e = .returned (.bool true) ∧ w' = A6 := by
    have h := bytesEq_any 17 17 1201 17 rfl rfl (range_seg (HRG.out A6 HBA.out) HV.out.t3 rfl) HZ.out
    rw [show (zeroTime.data.toList == zeroTime.data.toList) = true from by decide] at h
    exact h
  have HBE := Lib.hid hbe
  clear hbe
  go_upto_region 21 with (first
    | (go_at_call 105
       refine HBE.out.mono ?_
       rintro e wx ⟨rfl, hw⟩
       rw [hw]
       clear hw))
  clear HBE
  go_upto_region 21 with (fail)
  have hbe : Calls Tryz.prog 105 #[.slice (some ⟨g, 864, none⟩) 17 1184, .slice (some ⟨z, 0, none⟩) 17 17] A6 fun e w' => e = .returned (.bool true) ∧ w' = A6 := by
    have h := bytesEq_any 17 17 1184 17 rfl rfl (range_seg (HRG.out A6 HBA.out) HV.out.t4 rfl) HZ.out
    rw [show (zeroTime.data.toList == zeroTime.data.toList) = true from by decide] at h
    exact h
  have HBE := Lib.hid hbe
  clear hbe
  go_upto_region 25 with (first
    | (go_at_call 105
       refine HBE.out.mono ?_
       rintro e wx ⟨rfl, hw⟩
       rw [hw]
       clear hw))
  clear HBE
  have hroot : A6.rangeAt g 156 (bcs (recB (rootE ext size tm))) := by
    have h := range_seg (HRG.out A6 HBA.out) HV.out.root (recD_len _ _ _ _ _ htm)
    have e : recL [0] ext size tm true = recB (rootE ext size tm) := recL_eq _ _ _ _ _ htm
    rw [e] at h
    exact h
  have hrok : RecOK (rootE ext size tm) := ⟨htm, by show 1 ≤ [(0 : UInt8)].length; decide, by show [(0 : UInt8)].length ≤ 100; decide, he.1, he.2, hsz.1, hsz.2⟩
  have HDE := Lib.hid (dirEntB_any g 156 34 1892 (rootE ext size tm) A6 hrok (RecAt.of hroot hrok) (show 34 = 33 + [(0 : UInt8)].length + (33 + [(0 : UInt8)].length) % 2 from rfl) (by omega))
  clear hroot
  go_upto_region 28 with (first
    | (go_at_call 107
       refine HDE.out.mono ?_
       rintro e A7 ⟨p, rfl, hp0, hep, hb7⟩
       have HEP := Lib.hid hep
       have HB7 := Lib.hid hb7
       have hs7 := hb7.size
       clear hep hb7))
  have hbA7 : Below w.heap.size w A7 := HBA.out.trans (HB7.out.mono HBA.out.size)
  have r7 := HRG.out A7 hbA7
  have u1 := HT1.out.same (HB7.out.block b1 (by omega))
  have u2 := HT2.out.same (HB7.out.block b2 (by omega))
  have u3 := HT3.out.same (HB7.out.block b3 (by omega))
  have u4 := HT4.out.same (HB7.out.block b4 (by omega))
  obtain ⟨⟨p1, p2, p3, c10, c11, c12⟩, _⟩ := u1
  obtain ⟨⟨p4, p5, p6, c20, c21, c22⟩, _⟩ := u2
  obtain ⟨⟨p7, p8, p9, c30, c31, c32⟩, _⟩ := u3
  obtain ⟨⟨pa, pb, pc, c40, c41, c42⟩, _⟩ := u4
  have hSA : PvS g D b1 b2 b3 b4 p1 p2 p3 p4 p5 p6 p7 p8 p9 pa pb pc A7.drew := ⟨r7, c10, c11, c12, c20, c21, c22, c30, c31, c32, c40, c41, c42⟩
  have HBA7 := Lib.hid hbA7
  have hstr : ∀ w' : World, w'.rangeAt g 0 (bcs D) → ∀ a n cc, a + n ≤ 2048 → (convert 26 9 (.slice (some ⟨g, a, none⟩) n cc)).run Tryz.prog w' = .ok (.string ⟨(seg D a n).toArray⟩) w' := fun w' hr a n cc han => bytes_str (range_seg hr rfl (seg_len _ _ _ (by have := HLEN.out; omega))) (seg_len _ _ _ (by have := HLEN.out; omega)) cc
  have HSTR := Lib.hid hstr
  have hl7 : b4 < A7.drew.heap.size := by show b4 < A7.heap.size; omega
  have hg7 : g < A7.drew.heap.size := by show g < A7.heap.size; have := HBA7.out.size; omega
  clear hstr r7 c10 c11 c12 c20 c21 c22 c30 c31 c32 c40 c41 c42 HT1 HT2 HT3 HT4 hbA7 HDE
  have hord : b1 < b4 ∧ b2 < b4 ∧ b3 < b4 := by omega
  have hN7 : w.heap.size ≤ A7.heap.size := HBA7.out.size
  clear ho1 ho2 ho3 ho4 ho5 hwz hs7
  refine wp_region_noPanic ?_
  refine wp_region_held_drew (S := PvS g D b1 b2 b3 b4 p1 p2 p3 p4 p5 p6 p7 p8 p9 pa pb pc) (by kernel_rfl) hSA (fun hS0 => ?_)
  refine hTake (i := 0) (v := ?_) (some 86) rfl rfl (by kernel_rfl) (by kernel_rfl) (by kernel_rfl) (fun _ _ _ h => h) (Or.inl ⟨by rfl, ?hy28x0⟩) hS0 ?hr28x0
  case hy28x0 => (intro w' hSw; clear hSw; go_simp; try with_reducible rfl)
  try simp only [Act.put, List.setIfInBounds_toArray, List.set_cons_zero, List.set_cons_succ]
  refine hTake (i := 1) (v := ?_) (some 87) rfl rfl (by kernel_rfl) (by kernel_rfl) (by kernel_rfl) (fun _ _ _ h => h) (Or.inl ⟨by rfl, ?hy28x1⟩) hS0 ?hr28x1
  case hy28x1 => (intro w' hSw; clear hSw; go_simp; try with_reducible rfl)
  try simp only [Act.put, List.setIfInBounds_toArray, List.set_cons_zero, List.set_cons_succ]
  refine hTake (i := 2) (v := ?_) (some 88) rfl rfl (by kernel_rfl) (by kernel_rfl) (by kernel_rfl) (fun _ _ _ h => h) (Or.inl ⟨by rfl, ?hy28x2⟩) hS0 ?hr28x2
  case hy28x2 => (intro w' hSw; have q := HSTR.out w' hSw.rng 8 32 2040 (by omega); clear hSw; go_simp; try with_reducible rfl)
  try simp only [Act.put, List.setIfInBounds_toArray, List.set_cons_zero, List.set_cons_succ]
  refine hTake (i := 3) (v := ?_) (some 89) rfl rfl (by kernel_rfl) (by kernel_rfl) (by kernel_rfl) (fun _ _ _ h => h) (Or.inl ⟨by rfl, ?hy28x3⟩) hS0 ?hr28x3
  case hy28x3 => (intro w' hSw; clear hSw; go_simp; try with_reducible rfl)
  try simp only [Act.put, List.setIfInBounds_toArray, List.set_cons_zero, List.set_cons_succ]
  refine hTake (i := 4) (v := ?_) (some 90) rfl rfl (by kernel_rfl) (by kernel_rfl) (by kernel_rfl) (fun _ _ _ h => h) (Or.inl ⟨by rfl, ?hy28x4⟩) hS0 ?hr28x4
  case hy28x4 => (intro w' hSw; clear hSw; go_simp; try with_reducible rfl)
  try simp only [Act.put, List.setIfInBounds_toArray, List.set_cons_zero, List.set_cons_succ]
  refine hTake (i := 5) (v := ?_) (some 91) rfl rfl (by kernel_rfl) (by kernel_rfl) (by kernel_rfl) (fun _ _ _ h => h) (Or.inl ⟨by rfl, ?hy28x5⟩) hS0 ?hr28x5
  case hy28x5 => (intro w' hSw; have q := HSTR.out w' hSw.rng 40 32 2008 (by omega); clear hSw; go_simp; try with_reducible rfl)
  try simp only [Act.put, List.setIfInBounds_toArray, List.set_cons_zero, List.set_cons_succ]
  refine hTake (i := 6) (v := ?_) (some 92) rfl rfl (by kernel_rfl) (by kernel_rfl) (by kernel_rfl) (fun _ _ _ h => h) (Or.inl ⟨by rfl, ?hy28x6⟩) hS0 ?hr28x6
  case hy28x6 => (intro w' hSw; clear hSw; go_simp; try with_reducible rfl)
  try simp only [Act.put, List.setIfInBounds_toArray, List.set_cons_zero, List.set_cons_succ]
  refine hTake (i := 7) (v := ?_) (some 93) rfl rfl (by kernel_rfl) (by kernel_rfl) (by kernel_rfl) (fun _ _ _ h => h) (Or.inl ⟨by rfl, ?hy28x7⟩) hS0 ?hr28x7
  case hy28x7 => (intro w' hSw; clear hSw; go_simp; try with_reducible rfl)
  try simp only [Act.put, List.setIfInBounds_toArray, List.set_cons_zero, List.set_cons_succ]
  refine hTake (i := 8) (v := ?_) (some 94) rfl rfl (by kernel_rfl) (by kernel_rfl) (by kernel_rfl) (fun _ _ _ h => h) (Or.inl ⟨by rfl, ?hy28x8⟩) hS0 ?hr28x8
  case hy28x8 => (intro w' hSw; clear hSw; go_simp; try with_reducible rfl)
  try simp only [Act.put, List.setIfInBounds_toArray, List.set_cons_zero, List.set_cons_succ]
  refine hTake (i := 10) (v := ?_) (some 96) rfl rfl (by kernel_rfl) (by kernel_rfl) (by kernel_rfl) (fun _ _ _ h => h) (Or.inl ⟨by rfl, ?hy28x10⟩) hS0 ?hr28x10
  case hy28x10 => (intro w' hSw; clear hSw; go_simp; try with_reducible rfl)
  try simp only [Act.put, List.setIfInBounds_toArray, List.set_cons_zero, List.set_cons_succ]
  refine hTake (i := 11) (v := ?_) (some 97) rfl rfl (by kernel_rfl) (by kernel_rfl) (by kernel_rfl) (fun _ _ _ h => h) (Or.inl ⟨by rfl, ?hy28x11⟩) hS0 ?hr28x11
  case hy28x11 => (intro w' hSw; clear hSw; go_simp; try with_reducible rfl)
  try simp only [Act.put, List.setIfInBounds_toArray, List.set_cons_zero, List.set_cons_succ]
  refine hTake (i := 12) (v := ?_) (some 98) rfl rfl (by kernel_rfl) (by kernel_rfl) (by kernel_rfl) (fun _ _ _ h => h) (Or.inl ⟨by rfl, ?hy28x12⟩) hS0 ?hr28x12
  case hy28x12 => (intro w' hSw; clear hSw; go_simp; try with_reducible rfl)
  try simp only [Act.put, List.setIfInBounds_toArray, List.set_cons_zero, List.set_cons_succ]
  refine hTake (i := 14) (v := ?_) (some 100) rfl rfl (by kernel_rfl) (by kernel_rfl) (by kernel_rfl) (fun _ _ _ h => h) (Or.inl ⟨by rfl, ?hy28x14⟩) hS0 ?hr28x14
  case hy28x14 => (intro w' hSw; clear hSw; go_simp; try with_reducible rfl)
  try simp only [Act.put, List.setIfInBounds_toArray, List.set_cons_zero, List.set_cons_succ]
  refine hTake (i := 15) (v := ?_) (some 101) rfl rfl (by kernel_rfl) (by kernel_rfl) (by kernel_rfl) (fun _ _ _ h => h) (Or.inl ⟨by rfl, ?hy28x15⟩) hS0 ?hr28x15
  case hy28x15 => (intro w' hSw; clear hSw; go_simp; try with_reducible rfl)
  try simp only [Act.put, List.setIfInBounds_toArray, List.set_cons_zero, List.set_cons_succ]
  refine hTake (i := 16) (v := ?_) (some 102) rfl rfl (by kernel_rfl) (by kernel_rfl) (by kernel_rfl) (fun _ _ _ h => h) (Or.inl ⟨by rfl, ?hy28x16⟩) hS0 ?hr28x16
  case hy28x16 => (intro w' hSw; clear hSw; go_simp; try with_reducible rfl)
  try simp only [Act.put, List.setIfInBounds_toArray, List.set_cons_zero, List.set_cons_succ]
  refine hTake (i := 18) (v := ?_) (some 104) rfl rfl (by kernel_rfl) (by kernel_rfl) (by kernel_rfl) (fun _ _ _ h => h) (Or.inl ⟨by rfl, ?hy28x18⟩) hS0 ?hr28x18
  case hy28x18 => (intro w' hSw; clear hSw; go_simp; try with_reducible rfl)
  try simp only [Act.put, List.setIfInBounds_toArray, List.set_cons_zero, List.set_cons_succ]
  refine hTake (i := 19) (v := ?_) (some 105) rfl rfl (by kernel_rfl) (by kernel_rfl) (by kernel_rfl) (fun _ _ _ h => h) (Or.inl ⟨by rfl, ?hy28x19⟩) hS0 ?hr28x19
  case hy28x19 => (intro w' hSw; clear hSw; go_simp; try with_reducible rfl)
  try simp only [Act.put, List.setIfInBounds_toArray, List.set_cons_zero, List.set_cons_succ]
  refine hTake (i := 20) (v := ?_) (some 106) rfl rfl (by kernel_rfl) (by kernel_rfl) (by kernel_rfl) (fun _ _ _ h => h) (Or.inl ⟨by rfl, ?hy28x20⟩) hS0 ?hr28x20
  case hy28x20 => (intro w' hSw; clear hSw; go_simp; try with_reducible rfl)
  try simp only [Act.put, List.setIfInBounds_toArray, List.set_cons_zero, List.set_cons_succ]
  refine hTake (i := 21) (v := ?_) (some 107) rfl rfl (by kernel_rfl) (by kernel_rfl) (by kernel_rfl) (fun _ _ _ h => h) (Or.inl ⟨by rfl, ?hy28x21⟩) hS0 ?hr28x21
  case hy28x21 => (intro w' hSw; clear hSw; go_simp; try with_reducible rfl)
  try simp only [Act.put, List.setIfInBounds_toArray, List.set_cons_zero, List.set_cons_succ]
  refine hTake (i := 23) (v := ?_) (some 109) rfl rfl (by kernel_rfl) (by kernel_rfl) (by kernel_rfl) (fun _ _ _ h => h) (Or.inl ⟨by rfl, ?hy28x23⟩) hS0 ?hr28x23
  case hy28x23 => (intro w' hSw; clear hSw; go_simp; try with_reducible rfl)
  try simp only [Act.put, List.setIfInBounds_toArray, List.set_cons_zero, List.set_cons_succ]
  refine hTake (i := 24) (v := ?_) (some 110) rfl rfl (by kernel_rfl) (by kernel_rfl) (by kernel_rfl) (fun _ _ _ h => h) (Or.inl ⟨by rfl, ?hy28x24⟩) hS0 ?hr28x24
  case hy28x24 => (intro w' hSw; clear hSw; go_simp; try with_reducible rfl)
  try simp only [Act.put, List.setIfInBounds_toArray, List.set_cons_zero, List.set_cons_succ]
  refine hTake (i := 25) (v := ?_) (some 111) rfl rfl (by kernel_rfl) (by kernel_rfl) (by kernel_rfl) (fun _ _ _ h => h) (Or.inl ⟨by rfl, ?hy28x25⟩) hS0 ?hr28x25
  case hy28x25 => (intro w' hSw; clear hSw; go_simp; try with_reducible rfl)
  try simp only [Act.put, List.setIfInBounds_toArray, List.set_cons_zero, List.set_cons_succ]
  refine hTake (i := 27) (v := ?_) (some 113) rfl rfl (by kernel_rfl) (by kernel_rfl) (by kernel_rfl) (fun _ _ _ h => h) (Or.inl ⟨by rfl, ?hy28x27⟩) hS0 ?hr28x27
  case hy28x27 => (intro w' hSw; clear hSw; go_simp; try with_reducible rfl)
  try simp only [Act.put, List.setIfInBounds_toArray, List.set_cons_zero, List.set_cons_succ]
  refine hTake (i := 28) (v := ?_) (some 114) rfl rfl (by kernel_rfl) (by kernel_rfl) (by kernel_rfl) (fun _ _ _ h => h) (Or.inl ⟨by rfl, ?hy28x28⟩) hS0 ?hr28x28
  case hy28x28 => (intro w' hSw; clear hSw; go_simp; try with_reducible rfl)
  try simp only [Act.put, List.setIfInBounds_toArray, List.set_cons_zero, List.set_cons_succ]
  refine hTake (i := 29) (v := ?_) (some 115) rfl rfl (by kernel_rfl) (by kernel_rfl) (by kernel_rfl) (fun _ _ _ h => h) (Or.inl ⟨by rfl, ?hy28x29⟩) hS0 ?hr28x29
  case hy28x29 => (intro w' hSw; clear hSw; go_simp; try with_reducible rfl)
  try simp only [Act.put, List.setIfInBounds_toArray, List.set_cons_zero, List.set_cons_succ]
  refine hTake (i := 31) (v := ?_) (some 117) rfl rfl (by kernel_rfl) (by kernel_rfl) (by kernel_rfl) (fun _ _ _ h => h) (Or.inl ⟨by rfl, ?hy28x31⟩) hS0 ?hr28x31
  case hy28x31 => (intro w' hSw; clear hSw; go_simp; try with_reducible rfl)
  try simp only [Act.put, List.setIfInBounds_toArray, List.set_cons_zero, List.set_cons_succ]
  refine hTake (i := 32) (v := ?_) (some 118) rfl rfl (by kernel_rfl) (by kernel_rfl) (by kernel_rfl) (fun _ _ _ h => h) (Or.inl ⟨by rfl, ?hy28x32⟩) hS0 ?hr28x32
  case hy28x32 => (intro w' hSw; clear hSw; go_simp; try with_reducible rfl)
  try simp only [Act.put, List.setIfInBounds_toArray, List.set_cons_zero, List.set_cons_succ]
  refine hTake (i := 33) (v := ?_) (some 119) rfl rfl (by kernel_rfl) (by kernel_rfl) (by kernel_rfl) (fun _ _ _ h => h) (Or.inl ⟨by rfl, ?hy28x33⟩) hS0 ?hr28x33
  case hy28x33 => (intro w' hSw; clear hSw; go_simp; try with_reducible rfl)
  try simp only [Act.put, List.setIfInBounds_toArray, List.set_cons_zero, List.set_cons_succ]
  refine hTake (i := 35) (v := ?_) (some 121) rfl rfl (by kernel_rfl) (by kernel_rfl) (by kernel_rfl) (fun _ _ _ h => h) (Or.inl ⟨by rfl, ?hy28x35⟩) hS0 ?hr28x35
  case hy28x35 => (intro w' hSw; clear hSw; go_simp; try with_reducible rfl)
  try simp only [Act.put, List.setIfInBounds_toArray, List.set_cons_zero, List.set_cons_succ]
  refine hTake (i := 36) (v := ?_) (some 122) rfl rfl (by kernel_rfl) (by kernel_rfl) (by kernel_rfl) (fun _ _ _ h => h) (Or.inl ⟨by rfl, ?hy28x36⟩) hS0 ?hr28x36
  case hy28x36 => (intro w' hSw; clear hSw; go_simp; try with_reducible rfl)
  try simp only [Act.put, List.setIfInBounds_toArray, List.set_cons_zero, List.set_cons_succ]
  refine hTake (i := 37) (v := ?_) (some 123) rfl rfl (by kernel_rfl) (by kernel_rfl) (by kernel_rfl) (fun _ _ _ h => h) (Or.inl ⟨by rfl, ?hy28x37⟩) hS0 ?hr28x37
  case hy28x37 => (intro w' hSw; clear hSw; go_simp; try with_reducible rfl)
  try simp only [Act.put, List.setIfInBounds_toArray, List.set_cons_zero, List.set_cons_succ]
  refine hTake (i := 39) (v := ?_) (some 125) rfl rfl (by kernel_rfl) (by kernel_rfl) (by kernel_rfl) (fun _ _ _ h => h) (Or.inl ⟨by rfl, ?hy28x39⟩) hS0 ?hr28x39
  case hy28x39 => (intro w' hSw; clear hSw; go_simp; try with_reducible rfl)
  try simp only [Act.put, List.setIfInBounds_toArray, List.set_cons_zero, List.set_cons_succ]
  refine hTake (i := 40) (v := ?_) (some 126) rfl rfl (by kernel_rfl) (by kernel_rfl) (by kernel_rfl) (fun _ _ _ h => h) (Or.inl ⟨by rfl, ?hy28x40⟩) hS0 ?hr28x40
  case hy28x40 => (intro w' hSw; clear hSw; go_simp; try with_reducible rfl)
  try simp only [Act.put, List.setIfInBounds_toArray, List.set_cons_zero, List.set_cons_succ]
  refine hTake (i := 41) (v := ?_) (some 127) rfl rfl (by kernel_rfl) (by kernel_rfl) (by kernel_rfl) (fun _ _ _ h => h) (Or.inl ⟨by rfl, ?hy28x41⟩) hS0 ?hr28x41
  case hy28x41 => (intro w' hSw; have q := HSTR.out w' hSw.rng 190 128 1858 (by omega); clear hSw; go_simp; try with_reducible rfl)
  try simp only [Act.put, List.setIfInBounds_toArray, List.set_cons_zero, List.set_cons_succ]
  refine hTake (i := 42) (v := ?_) (some 128) rfl rfl (by kernel_rfl) (by kernel_rfl) (by kernel_rfl) (fun _ _ _ h => h) (Or.inl ⟨by rfl, ?hy28x42⟩) hS0 ?hr28x42
  case hy28x42 => (intro w' hSw; clear hSw; go_simp; try with_reducible rfl)
  try simp only [Act.put, List.setIfInBounds_toArray, List.set_cons_zero, List.set_cons_succ]
  refine hTake (i := 43) (v := ?_) (some 129) rfl rfl (by kernel_rfl) (by kernel_rfl) (by kernel_rfl) (fun _ _ _ h => h) (Or.inl ⟨by rfl, ?hy28x43⟩) hS0 ?hr28x43
  case hy28x43 => (intro w' hSw; clear hSw; go_simp; try with_reducible rfl)
  try simp only [Act.put, List.setIfInBounds_toArray, List.set_cons_zero, List.set_cons_succ]
  refine hTake (i := 44) (v := ?_) (some 130) rfl rfl (by kernel_rfl) (by kernel_rfl) (by kernel_rfl) (fun _ _ _ h => h) (Or.inl ⟨by rfl, ?hy28x44⟩) hS0 ?hr28x44
  case hy28x44 => (intro w' hSw; have q := HSTR.out w' hSw.rng 318 128 1730 (by omega); clear hSw; go_simp; try with_reducible rfl)
  try simp only [Act.put, List.setIfInBounds_toArray, List.set_cons_zero, List.set_cons_succ]
  refine hTake (i := 45) (v := ?_) (some 131) rfl rfl (by kernel_rfl) (by kernel_rfl) (by kernel_rfl) (fun _ _ _ h => h) (Or.inl ⟨by rfl, ?hy28x45⟩) hS0 ?hr28x45
  case hy28x45 => (intro w' hSw; clear hSw; go_simp; try with_reducible rfl)
  try simp only [Act.put, List.setIfInBounds_toArray, List.set_cons_zero, List.set_cons_succ]
  refine hTake (i := 46) (v := ?_) (some 132) rfl rfl (by kernel_rfl) (by kernel_rfl) (by kernel_rfl) (fun _ _ _ h => h) (Or.inl ⟨by rfl, ?hy28x46⟩) hS0 ?hr28x46
  case hy28x46 => (intro w' hSw; clear hSw; go_simp; try with_reducible rfl)
  try simp only [Act.put, List.setIfInBounds_toArray, List.set_cons_zero, List.set_cons_succ]
  refine hTake (i := 47) (v := ?_) (some 133) rfl rfl (by kernel_rfl) (by kernel_rfl) (by kernel_rfl) (fun _ _ _ h => h) (Or.inl ⟨by rfl, ?hy28x47⟩) hS0 ?hr28x47
  case hy28x47 => (intro w' hSw; have q := HSTR.out w' hSw.rng 446 128 1602 (by omega); clear hSw; go_simp; try with_reducible rfl)
  try simp only [Act.put, List.setIfInBounds_toArray, List.set_cons_zero, List.set_cons_succ]
  refine hTake (i := 48) (v := ?_) (some 134) rfl rfl (by kernel_rfl) (by kernel_rfl) (by kernel_rfl) (fun _ _ _ h => h) (Or.inl ⟨by rfl, ?hy28x48⟩) hS0 ?hr28x48
  case hy28x48 => (intro w' hSw; clear hSw; go_simp; try with_reducible rfl)
  try simp only [Act.put, List.setIfInBounds_toArray, List.set_cons_zero, List.set_cons_succ]
  refine hTake (i := 49) (v := ?_) (some 135) rfl rfl (by kernel_rfl) (by kernel_rfl) (by kernel_rfl) (fun _ _ _ h => h) (Or.inl ⟨by rfl, ?hy28x49⟩) hS0 ?hr28x49
  case hy28x49 => (intro w' hSw; clear hSw; go_simp; try with_reducible rfl)
  try simp only [Act.put, List.setIfInBounds_toArray, List.set_cons_zero, List.set_cons_succ]
  refine hTake (i := 50) (v := ?_) (some 136) rfl rfl (by kernel_rfl) (by kernel_rfl) (by kernel_rfl) (fun _ _ _ h => h) (Or.inl ⟨by rfl, ?hy28x50⟩) hS0 ?hr28x50
  case hy28x50 => (intro w' hSw; have q := HSTR.out w' hSw.rng 574 128 1474 (by omega); clear hSw; go_simp; try with_reducible rfl)
  try simp only [Act.put, List.setIfInBounds_toArray, List.set_cons_zero, List.set_cons_succ]
  refine hTake (i := 51) (v := ?_) (some 137) rfl rfl (by kernel_rfl) (by kernel_rfl) (by kernel_rfl) (fun _ _ _ h => h) (Or.inl ⟨by rfl, ?hy28x51⟩) hS0 ?hr28x51
  case hy28x51 => (intro w' hSw; clear hSw; go_simp; try with_reducible rfl)
  try simp only [Act.put, List.setIfInBounds_toArray, List.set_cons_zero, List.set_cons_succ]
  refine hTake (i := 52) (v := ?_) (some 138) rfl rfl (by kernel_rfl) (by kernel_rfl) (by kernel_rfl) (fun _ _ _ h => h) (Or.inl ⟨by rfl, ?hy28x52⟩) hS0 ?hr28x52
  case hy28x52 => (intro w' hSw; clear hSw; go_simp; try with_reducible rfl)
  try simp only [Act.put, List.setIfInBounds_toArray, List.set_cons_zero, List.set_cons_succ]
  refine hTake (i := 53) (v := ?_) (some 139) rfl rfl (by kernel_rfl) (by kernel_rfl) (by kernel_rfl) (fun _ _ _ h => h) (Or.inl ⟨by rfl, ?hy28x53⟩) hS0 ?hr28x53
  case hy28x53 => (intro w' hSw; have q := HSTR.out w' hSw.rng 702 37 1346 (by omega); clear hSw; go_simp; try with_reducible rfl)
  try simp only [Act.put, List.setIfInBounds_toArray, List.set_cons_zero, List.set_cons_succ]
  refine hTake (i := 54) (v := ?_) (some 140) rfl rfl (by kernel_rfl) (by kernel_rfl) (by kernel_rfl) (fun _ _ _ h => h) (Or.inl ⟨by rfl, ?hy28x54⟩) hS0 ?hr28x54
  case hy28x54 => (intro w' hSw; clear hSw; go_simp; try with_reducible rfl)
  try simp only [Act.put, List.setIfInBounds_toArray, List.set_cons_zero, List.set_cons_succ]
  refine hTake (i := 55) (v := ?_) (some 141) rfl rfl (by kernel_rfl) (by kernel_rfl) (by kernel_rfl) (fun _ _ _ h => h) (Or.inl ⟨by rfl, ?hy28x55⟩) hS0 ?hr28x55
  case hy28x55 => (intro w' hSw; clear hSw; go_simp; try with_reducible rfl)
  try simp only [Act.put, List.setIfInBounds_toArray, List.set_cons_zero, List.set_cons_succ]
  refine hTake (i := 56) (v := ?_) (some 142) rfl rfl (by kernel_rfl) (by kernel_rfl) (by kernel_rfl) (fun _ _ _ h => h) (Or.inl ⟨by rfl, ?hy28x56⟩) hS0 ?hr28x56
  case hy28x56 => (intro w' hSw; have q := HSTR.out w' hSw.rng 739 37 1309 (by omega); clear hSw; go_simp; try with_reducible rfl)
  try simp only [Act.put, List.setIfInBounds_toArray, List.set_cons_zero, List.set_cons_succ]
  refine hTake (i := 57) (v := ?_) (some 143) rfl rfl (by kernel_rfl) (by kernel_rfl) (by kernel_rfl) (fun _ _ _ h => h) (Or.inl ⟨by rfl, ?hy28x57⟩) hS0 ?hr28x57
  case hy28x57 => (intro w' hSw; clear hSw; go_simp; try with_reducible rfl)
  try simp only [Act.put, List.setIfInBounds_toArray, List.set_cons_zero, List.set_cons_succ]
  refine hTake (i := 58) (v := ?_) (some 144) rfl rfl (by kernel_rfl) (by kernel_rfl) (by kernel_rfl) (fun _ _ _ h => h) (Or.inl ⟨by rfl, ?hy28x58⟩) hS0 ?hr28x58
  case hy28x58 => (intro w' hSw; clear hSw; go_simp; try with_reducible rfl)
  try simp only [Act.put, List.setIfInBounds_toArray, List.set_cons_zero, List.set_cons_succ]
  refine hTake (i := 59) (v := ?_) (some 145) rfl rfl (by kernel_rfl) (by kernel_rfl) (by kernel_rfl) (fun _ _ _ h => h) (Or.inl ⟨by rfl, ?hy28x59⟩) hS0 ?hr28x59
  case hy28x59 => (intro w' hSw; have q := HSTR.out w' hSw.rng 776 37 1272 (by omega); clear hSw; go_simp; try with_reducible rfl)
  try simp only [Act.put, List.setIfInBounds_toArray, List.set_cons_zero, List.set_cons_succ]
  refine hTake (i := 60) (v := ?_) (some 146) rfl rfl (by kernel_rfl) (by kernel_rfl) (by kernel_rfl) (fun _ _ _ h => h) (Or.inl ⟨by rfl, ?hy28x60⟩) hS0 ?hr28x60
  case hy28x60 => (intro w' hSw; have q0 := hSw.a0; have q1 := hSw.a1; have q2 := hSw.a2; clear hSw; go_simp; try with_reducible rfl)
  try simp only [Act.put, List.setIfInBounds_toArray, List.set_cons_zero, List.set_cons_succ]
  refine hTake (i := 61) (v := ?_) (some 147) rfl rfl (by kernel_rfl) (by kernel_rfl) (by kernel_rfl) (fun _ _ _ h => h) (Or.inl ⟨by rfl, ?hy28x61⟩) hS0 ?hr28x61
  case hy28x61 => (intro w' hSw; have q0 := hSw.b0; have q1 := hSw.b1; have q2 := hSw.b2; clear hSw; go_simp; try with_reducible rfl)
  try simp only [Act.put, List.setIfInBounds_toArray, List.set_cons_zero, List.set_cons_succ]
  refine hTake (i := 62) (v := ?_) (some 148) rfl rfl (by kernel_rfl) (by kernel_rfl) (by kernel_rfl) (fun _ _ _ h => h) (Or.inl ⟨by rfl, ?hy28x62⟩) hS0 ?hr28x62
  case hy28x62 => (intro w' hSw; have q0 := hSw.c0; have q1 := hSw.c1; have q2 := hSw.c2; clear hSw; go_simp; try with_reducible rfl)
  try simp only [Act.put, List.setIfInBounds_toArray, List.set_cons_zero, List.set_cons_succ]
  refine hTake (i := 63) (v := ?_) (some 149) rfl rfl (by kernel_rfl) (by kernel_rfl) (by kernel_rfl) (fun _ _ _ h => h) (Or.inl ⟨by rfl, ?hy28x63⟩) hS0 ?hr28x63
  case hy28x63 => (intro w' hSw; have q0 := hSw.d0; have q1 := hSw.d1; have q2 := hSw.d2; clear hSw; go_simp; try with_reducible rfl)
  try simp only [Act.put, List.setIfInBounds_toArray, List.set_cons_zero, List.set_cons_succ]
  refine hTake (i := 64) (v := ?_) (some 150) rfl rfl (by kernel_rfl) (by kernel_rfl) (by kernel_rfl) (fun _ _ _ h => h) (Or.inl ⟨by rfl, ?hy28x64⟩) hS0 ?hr28x64
  case hy28x64 => (intro w' hSw; clear hSw; go_simp; try with_reducible rfl)
  try simp only [Act.put, List.setIfInBounds_toArray, List.set_cons_zero, List.set_cons_succ]
  refine wpAnyH_all (rs := [9]) (by kernel_rfl) (by simp) (rows1 ?_)
  refine hCall (f := 84) (args := #[.agg #[], .slice (some ⟨g, 80, none⟩) 4 1968]) (some 95) rfl rfl rfl (by go_simp) ?_
  refine (le32_any (D := D) (w := A7.drew) hS0.rng 80 1968 (by have := HLEN.out; omega)).mono ?_
  rintro e w21 ⟨rfl, hb21⟩
  have hS21 := hS0.keep hb21 hg7 hl7 hord
  have hl21 := Nat.lt_of_lt_of_le hl7 hb21.size
  have hg21 := Nat.lt_of_lt_of_le hg7 hb21.size
  refine ⟨_, rfl, hS21, ?_⟩
  try simp only [Act.put, List.setIfInBounds_toArray, List.set_cons_zero, List.set_cons_succ]
  refine wpAnyH_all (rs := [13]) (by kernel_rfl) (by simp) (rows1 ?_)
  refine hCall (f := 85) (args := #[.agg #[], .slice (some ⟨g, 120, none⟩) 2 1928]) (some 99) rfl rfl rfl (by go_simp) ?_
  refine (le16_any (D := D) (w := w21) hS21.rng 120 1928 (by have := HLEN.out; omega)).mono ?_
  rintro e w22 ⟨rfl, hb22⟩
  have hS22 := hS21.keep hb22 hg21 hl21 hord
  have hl22 := Nat.lt_of_lt_of_le hl21 hb22.size
  have hg22 := Nat.lt_of_lt_of_le hg21 hb22.size
  refine ⟨_, rfl, hS22, ?_⟩
  try simp only [Act.put, List.setIfInBounds_toArray, List.set_cons_zero, List.set_cons_succ]
  refine wpAnyH_all (rs := [17]) (by kernel_rfl) (by simp) (rows1 ?_)
  refine hCall (f := 85) (args := #[.agg #[], .slice (some ⟨g, 124, none⟩) 2 1924]) (some 103) rfl rfl rfl (by go_simp) ?_
  refine (le16_any (D := D) (w := w22) hS22.rng 124 1924 (by have := HLEN.out; omega)).mono ?_
  rintro e w23 ⟨rfl, hb23⟩
  have hS23 := hS22.keep hb23 hg22 hl22 hord
  have hl23 := Nat.lt_of_lt_of_le hl22 hb23.size
  have hg23 := Nat.lt_of_lt_of_le hg22 hb23.size
  refine ⟨_, rfl, hS23, ?_⟩
  try simp only [Act.put, List.setIfInBounds_toArray, List.set_cons_zero, List.set_cons_succ]
  refine wpAnyH_all (rs := [22]) (by kernel_rfl) (by simp) (rows1 ?_)
  refine hCall (f := 84) (args := #[.agg #[], .slice (some ⟨g, 132, none⟩) 4 1916]) (some 108) rfl rfl rfl (by go_simp) ?_
  refine (le32_any (D := D) (w := w23) hS23.rng 132 1916 (by have := HLEN.out; omega)).mono ?_
  rintro e w24 ⟨rfl, hb24⟩
  have hS24 := hS23.keep hb24 hg23 hl23 hord
  have hl24 := Nat.lt_of_lt_of_le hl23 hb24.size
  have hg24 := Nat.lt_of_lt_of_le hg23 hb24.size
  refine ⟨_, rfl, hS24, ?_⟩
  rw [HPT.out]
  try simp only [Act.put, List.setIfInBounds_toArray, List.set_cons_zero, List.set_cons_succ]
  refine wpAnyH_all (rs := [26]) (by kernel_rfl) (by simp) (rows1 ?_)
  refine hCall (f := 84) (args := #[.agg #[], .slice (some ⟨g, 140, none⟩) 4 1908]) (some 112) rfl rfl rfl (by go_simp) ?_
  refine (le32_any (D := D) (w := w24) hS24.rng 140 1908 (by have := HLEN.out; omega)).mono ?_
  rintro e w25 ⟨rfl, hb25⟩
  have hS25 := hS24.keep hb25 hg24 hl24 hord
  have hl25 := Nat.lt_of_lt_of_le hl24 hb25.size
  have hg25 := Nat.lt_of_lt_of_le hg24 hb25.size
  refine ⟨_, rfl, hS25, ?_⟩
  rw [HLT.out]
  try simp only [Act.put, List.setIfInBounds_toArray, List.set_cons_zero, List.set_cons_succ]
  refine wpAnyH_all (rs := [30]) (by kernel_rfl) (by simp) (rows1 ?_)
  refine hCall (f := 84) (args := #[.agg #[], .slice (some ⟨g, 144, none⟩) 4 1904]) (some 116) rfl rfl rfl (by go_simp) ?_
  refine (le32_any (D := D) (w := w25) hS25.rng 144 1904 (by have := HLEN.out; omega)).mono ?_
  rintro e w26 ⟨rfl, hb26⟩
  have hS26 := hS25.keep hb26 hg25 hl25 hord
  have hl26 := Nat.lt_of_lt_of_le hl25 hb26.size
  have hg26 := Nat.lt_of_lt_of_le hg25 hb26.size
  refine ⟨_, rfl, hS26, ?_⟩
  try simp only [Act.put, List.setIfInBounds_toArray, List.set_cons_zero, List.set_cons_succ]
  refine wpAnyH_all (rs := [34]) (by kernel_rfl) (by simp) (rows1 ?_)
  refine hCall (f := 108) (args := #[.agg #[], .slice (some ⟨g, 148, none⟩) 4 1900]) (some 120) rfl rfl rfl (by go_simp) ?_
  refine (be32_any (D := D) (w := w26) hS26.rng 148 1900 (by have := HLEN.out; omega)).mono ?_
  rintro e w27 ⟨rfl, hb27⟩
  have hS27 := hS26.keep hb27 hg26 hl26 hord
  have hl27 := Nat.lt_of_lt_of_le hl26 hb27.size
  have hg27 := Nat.lt_of_lt_of_le hg26 hb27.size
  refine ⟨_, rfl, hS27, ?_⟩
  try simp only [Act.put, List.setIfInBounds_toArray, List.set_cons_zero, List.set_cons_succ]
  refine wpAnyH_all (rs := [38]) (by kernel_rfl) (by simp) (rows1 ?_)
  refine hCall (f := 108) (args := #[.agg #[], .slice (some ⟨g, 152, none⟩) 4 1896]) (some 124) rfl rfl rfl (by go_simp) ?_
  refine (be32_any (D := D) (w := w27) hS27.rng 152 1896 (by have := HLEN.out; omega)).mono ?_
  rintro e w28 ⟨rfl, hb28⟩
  have hS28 := hS27.keep hb28 hg27 hl27 hord
  have hl28 := Nat.lt_of_lt_of_le hl27 hb28.size
  have hg28 := Nat.lt_of_lt_of_le hg27 hb28.size
  refine ⟨_, rfl, hS28, ?_⟩
  try simp only [Act.put, List.setIfInBounds_toArray, List.set_cons_zero, List.set_cons_succ]
  refine hTake (i := 65) (v := .agg #[.string ⟨(seg D 8 32).toArray⟩, .string ⟨(seg D 40 32).toArray⟩, .int .u32 (le32A D 80), .int .u16 (le16 D 120), .int .u16 (le16 D 124), .int .u16 2048, .int .u32 paths, .int .u32 little, .int .u32 (le32A D 144), .int .u32 (be32A D 148), .int .u32 (be32A D 152), .pointer (some ⟨p, 0, none⟩), .string ⟨(seg D 190 128).toArray⟩, .string ⟨(seg D 318 128).toArray⟩, .string ⟨(seg D 446 128).toArray⟩, .string ⟨(seg D 574 128).toArray⟩, .string ⟨(seg D 702 37).toArray⟩, .string ⟨(seg D 739 37).toArray⟩, .string ⟨(seg D 776 37).toArray⟩, .int .i64 p1, .int .i64 p2, .int .i64 p3, .int .i64 p4, .int .i64 p5, .int .i64 p6, .int .i64 p7, .int .i64 p8, .int .i64 p9, .int .i64 pa, .int .i64 pb, .int .i64 pc]) (some 151) rfl rfl (by kernel_rfl) (by kernel_rfl) (by kernel_rfl) (fun _ _ _ h => h) (Or.inl ⟨by rfl, fun w' hSw => by kernel_rfl⟩) hS28 ?_
  try simp only [Act.put, List.setIfInBounds_toArray, List.set_cons_zero, List.set_cons_succ]
  have hc1 : Below A7.heap.size A7 w21 := below_of_drew hb21
  have hc2 := hc1.trans (hb22.mono hc1.size)
  have hc3 := hc2.trans (hb23.mono hc2.size)
  have hc4 := hc3.trans (hb24.mono hc3.size)
  have hc5 := hc4.trans (hb25.mono hc4.size)
  have hc6 := hc5.trans (hb26.mono hc5.size)
  have hc7 := hc6.trans (hb27.mono hc6.size)
  have hc8 := hc7.trans (hb28.mono hc7.size)
  have hc9 := hc8.alloc hc8.size (.cells #[.string ⟨(seg D 8 32).toArray⟩, .string ⟨(seg D 40 32).toArray⟩, .int .u32 (le32A D 80), .int .u16 (le16 D 120), .int .u16 (le16 D 124), .int .u16 2048, .int .u32 paths, .int .u32 little, .int .u32 (le32A D 144), .int .u32 (be32A D 148), .int .u32 (be32A D 152), .pointer (some ⟨p, 0, none⟩), .string ⟨(seg D 190 128).toArray⟩, .string ⟨(seg D 318 128).toArray⟩, .string ⟨(seg D 446 128).toArray⟩, .string ⟨(seg D 574 128).toArray⟩, .string ⟨(seg D 702 37).toArray⟩, .string ⟨(seg D 739 37).toArray⟩, .string ⟨(seg D 776 37).toArray⟩, .int .i64 p1, .int .i64 p2, .int .i64 p3, .int .i64 p4, .int .i64 p5, .int .i64 p6, .int .i64 p7, .int .i64 p8, .int .i64 p9, .int .i64 pa, .int .i64 pb, .int .i64 pc] 144)
  have hS9 := hS28.keep ((Below.refl _ w28).alloc (Nat.le_refl _) (.cells #[.string ⟨(seg D 8 32).toArray⟩, .string ⟨(seg D 40 32).toArray⟩, .int .u32 (le32A D 80), .int .u16 (le16 D 120), .int .u16 (le16 D 124), .int .u16 2048, .int .u32 paths, .int .u32 little, .int .u32 (le32A D 144), .int .u32 (be32A D 148), .int .u32 (be32A D 152), .pointer (some ⟨p, 0, none⟩), .string ⟨(seg D 190 128).toArray⟩, .string ⟨(seg D 318 128).toArray⟩, .string ⟨(seg D 446 128).toArray⟩, .string ⟨(seg D 574 128).toArray⟩, .string ⟨(seg D 702 37).toArray⟩, .string ⟨(seg D 739 37).toArray⟩, .string ⟨(seg D 776 37).toArray⟩, .int .i64 p1, .int .i64 p2, .int .i64 p3, .int .i64 p4, .int .i64 p5, .int .i64 p6, .int .i64 p7, .int .i64 p8, .int .i64 p9, .int .i64 pa, .int .i64 pb, .int .i64 pc] 144)) hg28 hl28 hord
  refine wpAnyH_all (rs := [66]) (by kernel_rfl) (by simp) (rows1 ?_)
  refine hRun (v := .pointer (some ⟨w28.heap.size, 0, none⟩)) (w' := w28.alloc (.cells #[.string ⟨(seg D 8 32).toArray⟩, .string ⟨(seg D 40 32).toArray⟩, .int .u32 (le32A D 80), .int .u16 (le16 D 120), .int .u16 (le16 D 124), .int .u16 2048, .int .u32 paths, .int .u32 little, .int .u32 (le32A D 144), .int .u32 (be32A D 148), .int .u32 (be32A D 152), .pointer (some ⟨p, 0, none⟩), .string ⟨(seg D 190 128).toArray⟩, .string ⟨(seg D 318 128).toArray⟩, .string ⟨(seg D 446 128).toArray⟩, .string ⟨(seg D 574 128).toArray⟩, .string ⟨(seg D 702 37).toArray⟩, .string ⟨(seg D 739 37).toArray⟩, .string ⟨(seg D 776 37).toArray⟩, .int .i64 p1, .int .i64 p2, .int .i64 p3, .int .i64 p4, .int .i64 p5, .int .i64 p6, .int .i64 p7, .int .i64 p8, .int .i64 p9, .int .i64 pa, .int .i64 pb, .int .i64 pc] 144)) (some 152) rfl rfl rfl (by kernel_rfl) ?_
  refine ⟨hS9, ?_⟩
  try simp only [Act.put, List.setIfInBounds_toArray, List.set_cons_zero, List.set_cons_succ]
  refine hTake (i := 67) (v := ?_) (some 2) rfl rfl (by kernel_rfl) (by kernel_rfl) (by kernel_rfl) (fun _ _ _ h => h) (Or.inl ⟨by rfl, ?hy28x67⟩) hS9 ?hr28x67
  case hy28x67 => (intro w' hSw; clear hSw; go_simp; try with_reducible rfl)
  try simp only [Act.put, List.setIfInBounds_toArray, List.set_cons_zero, List.set_cons_succ]
  refine hTake (i := 68) (v := ?_) (some 3) rfl rfl (by kernel_rfl) (by kernel_rfl) (by kernel_rfl) (fun _ _ _ h => h) (Or.inl ⟨by rfl, ?hy28x68⟩) hS9 ?hr28x68
  case hy28x68 => (intro w' hSw; clear hSw; go_simp; try with_reducible rfl)
  try simp only [Act.put, List.setIfInBounds_toArray, List.set_cons_zero, List.set_cons_succ]
  refine wpAnyH_done (by kernel_rfl) ?_ _
  refine NoPanic.normal ?_
  have hrow := heap_alloc_new w28 (.cells #[.string ⟨(seg D 8 32).toArray⟩, .string ⟨(seg D 40 32).toArray⟩, .int .u32 (le32A D 80), .int .u16 (le16 D 120), .int .u16 (le16 D 124), .int .u16 2048, .int .u32 paths, .int .u32 little, .int .u32 (le32A D 144), .int .u32 (be32A D 148), .int .u32 (be32A D 152), .pointer (some ⟨p, 0, none⟩), .string ⟨(seg D 190 128).toArray⟩, .string ⟨(seg D 318 128).toArray⟩, .string ⟨(seg D 446 128).toArray⟩, .string ⟨(seg D 574 128).toArray⟩, .string ⟨(seg D 702 37).toArray⟩, .string ⟨(seg D 739 37).toArray⟩, .string ⟨(seg D 776 37).toArray⟩, .int .i64 p1, .int .i64 p2, .int .i64 p3, .int .i64 p4, .int .i64 p5, .int .i64 p6, .int .i64 p7, .int .i64 p8, .int .i64 p9, .int .i64 pa, .int .i64 pb, .int .i64 pc] 144)
  have HROW := Lib.hid hrow
  have HC9 := Lib.hid hc9
  have HC8 := Lib.hid hc8.size
  clear hrow hc9 hS9 hc1 hc2 hc3 hc4 hc5 hc6 hc7 hc8 hb21 hb22 hb23 hb24 hb25 hb26 hb27 hb28 hS0 hS21 hS22 hS23 hS24 hS25 hS26 hS27 hS28 hSA
  generalize w28.alloc (.cells #[.string ⟨(seg D 8 32).toArray⟩, .string ⟨(seg D 40 32).toArray⟩, .int .u32 (le32A D 80), .int .u16 (le16 D 120), .int .u16 (le16 D 124), .int .u16 2048, .int .u32 paths, .int .u32 little, .int .u32 (le32A D 144), .int .u32 (be32A D 148), .int .u32 (be32A D 152), .pointer (some ⟨p, 0, none⟩), .string ⟨(seg D 190 128).toArray⟩, .string ⟨(seg D 318 128).toArray⟩, .string ⟨(seg D 446 128).toArray⟩, .string ⟨(seg D 574 128).toArray⟩, .string ⟨(seg D 702 37).toArray⟩, .string ⟨(seg D 739 37).toArray⟩, .string ⟨(seg D 776 37).toArray⟩, .int .i64 p1, .int .i64 p2, .int .i64 p3, .int .i64 p4, .int .i64 p5, .int .i64 p6, .int .i64 p7, .int .i64 p8, .int .i64 p9, .int .i64 pa, .int .i64 pb, .int .i64 pc] 144) = w9 at HROW HC9 ⊢
  go_wp2
  go_ret2
  have hR := fun (k : Nat) => cell_of_row _ _ k _ _ _ HROW.out
  refine ⟨w28.heap.size, p, rfl, ⟨?_, hR 5, hR 6, hR 7, hR 11⟩, HEP.out.below HC9.out, Nat.le_trans hN7 HC8.out, Nat.le_trans HBA.out.size hp0, HBA7.out.trans (HC9.out.mono hN7)⟩
  have h := hR 1
  rw [← HV.out.vol]
  exact h

end Go.Proofs.YtfppgplboomdbaaGreatDoor
