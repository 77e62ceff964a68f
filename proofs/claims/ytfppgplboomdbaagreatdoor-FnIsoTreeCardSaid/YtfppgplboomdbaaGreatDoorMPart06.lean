/- Part of the proofs of laws.FnIsoTree and laws.FnIsoAt: lemmas and contracts of functions that the two laws reach, each under the hypotheses that its own statement names. -/
import Derived.Test.YtfppgplboomdbaaGreatDoorMG1
import Derived.Test.YtfppgplboomdbaaGreatDoorMS0
import Derived.Deep.DeepCutAuto
namespace Go.Proofs.YtfppgplboomdbaaGreatDoor
open Go.RowKit

/-- A record that can be read. -/
structure RecOK (r : RecE) : Prop where
  tm : r.tm.length = 7
  id1 : 1 ≤ r.id.length
  id2 : r.id.length ≤ 100
  ext0 : 0 ≤ r.ext
  ext1 : r.ext < 4294967296
  size0 : 0 ≤ r.size
  size1 : r.size < 4294967296
def recN (r : RecE) : Nat := 33 + r.id.length + (33 + r.id.length) % 2
theorem rangeAt_sub {w : World} {g o : Nat} {L S : Bs} (h : w.rangeAt g o (bcs L)) (a : Nat) (hs : ∀ k, k < S.length → L[a + k]? = S[k]?) : w.rangeAt g (o + a) (bcs S) := fun j v hv => by
  have hj : j < S.length := by
    rcases Nat.lt_or_ge j S.length with h1 | h1
    · exact h1
    · rw [List.getElem?_eq_none (by rw [bcs_length]; exact h1)] at hv; cases hv
  rw [Nat.add_assoc]
  refine h (a + j) v ?_
  rw [bcs_get] at hv ⊢
  rw [hs j hj]; exact hv
theorem cell_byte {w : World} {g o : Nat} {L : Bs} (h : w.rangeAt g o (bcs L)) (k : Nat) (b : UInt8) (hb : L[k]? = some b) : w.cell? ⟨g, o + k, none⟩ = some (.int .u8 (b.toNat : Int)) := h k _ (by rw [bcs_get, hb]; rfl)
theorem recB_len (r : RecE) (h : RecOK r) : (recB r).length = recN r := recC_len _ _ _ _ _ h.tm
theorem by8_small (n : Nat) (h : n < 256) : ((by8 (n : Int)).toNat : Int) = n := by rw [by8_toNat]; omega
/-- The cells of a record. -/
structure RecAt (w : World) (g o : Nat) (r : RecE) : Prop where
  c0 : w.cell? ⟨g, o, none⟩ = some (.int .u8 (recN r : Nat))
  c1 : w.cell? ⟨g, o + 1, none⟩ = some (.int .u8 0)
  ext : w.rangeAt g (o + 2) (bcs (b32 r.ext))
  size : w.rangeAt g (o + 10) (bcs (b32 r.size))
  tm : w.rangeAt g (o + 18) (bcs r.tm)
  c25 : w.cell? ⟨g, o + 25, none⟩ = some (.int .u8 (if r.dir then 2 else 0))
  c28 : w.cell? ⟨g, o + 28, none⟩ = some (.int .u8 1)
  c29 : w.cell? ⟨g, o + 29, none⟩ = some (.int .u8 0)
  c32 : w.cell? ⟨g, o + 32, none⟩ = some (.int .u8 (r.id.length : Nat))
  id : w.rangeAt g (o + 33) (bcs r.id)
theorem RecAt.of {w : World} {g o : Nat} {r : RecE} (hr : w.rangeAt g o (bcs (recB r))) (h : RecOK r) : RecAt w g o r := by
  obtain ⟨a0, a1, a2, a3, a4, a5, a6, a7, a8, a9⟩ := recC_get r.id r.ext r.size r.tm r.dir h.tm
  have h1 := h.id1
  have h2 := h.id2
  refine ⟨?_, ?_, rangeAt_sub hr 2 a2, rangeAt_sub hr 10 a3, rangeAt_sub hr 18 (fun k hk => a4 k (by rw [h.tm] at hk; exact hk)), ?_, ?_, ?_, ?_, rangeAt_sub hr 33 a9⟩
  · have := cell_byte hr 0 _ a0
    rw [by8_small _ (by omega)] at this
    exact this
  · exact cell_byte hr 1 _ a1
  · have := cell_byte hr 25 _ a5
    rw [this]; cases r.dir <;> rfl
  · exact cell_byte hr 28 _ a6
  · exact cell_byte hr 29 _ a7
  · have := cell_byte hr 32 _ a8
    rw [by8_small _ (by omega)] at this
    exact this
theorem leNat_b32 (n : Int) (h0 : 0 ≤ n) (h1 : n < 4294967296) : ((Lib.leNat [by8 n, by8 (n / 256), by8 (n / 65536), by8 (n / 16777216)] : Nat) : Int) = n := by
  have := le32_b32 n h0 h1
  simp only [Lib.leNat]
  omega
theorem LE32_any (g o c : Nat) (n : Int) (w : World) (h0 : 0 ≤ n) (h1 : n < 4294967296) (hr : w.rangeAt g o (bcs (b32 n))) :
    Calls Tryz.prog 84 #[.agg #[], .slice (some ⟨g, o, none⟩) 4 c] w fun e w' => e = .returned (.int .u32 n) ∧ Below w.heap.size w w' := by
  refine (Tryz.binary_LE_Uint32 g o 4 c (by8 n) (by8 (n / 256)) (by8 (n / 65536)) (by8 (n / 16777216)) w (Nat.le_refl _) (hr 0 _ rfl) (hr 1 _ rfl) (hr 2 _ rfl) (hr 3 _ rfl)).mono ?_
  rintro e w' ⟨rfl, hb⟩
  exact ⟨by rw [leNat_b32 n h0 h1], hb⟩
theorem LE16_one (g o c : Nat) (w : World) (hc0 : w.cell? ⟨g, o, none⟩ = some (.int .u8 1)) (hc1 : w.cell? ⟨g, o + 1, none⟩ = some (.int .u8 0)) :
    Calls Tryz.prog 85 #[.agg #[], .slice (some ⟨g, o, none⟩) 2 c] w fun e w' => e = .returned (.int .u16 1) ∧ Below w.heap.size w w' := by
  refine (Tryz.binary_LE_Uint16 g o 2 c 1 0 w (Nat.le_refl _) hc0 hc1).mono ?_
  rintro e w' ⟨rfl, hb⟩
  exact ⟨rfl, hb⟩
theorem RecAt.below {w w' : World} {g o : Nat} {r : RecE} (h : RecAt w g o r) (hb : Below w.heap.size w w') : RecAt w' g o r ∧ g < w'.heap.size := by
  have hg : g < w.heap.size := World.block_lt_of_cell? w _ h.c0
  have hc := fun (k : Nat) => hb.cell (p := ⟨g, k, none⟩) hg
  exact ⟨⟨(hc _).trans h.c0, (hc _).trans h.c1, rangeAt_below h.ext hb hg, rangeAt_below h.size hb hg, rangeAt_below h.tm hb hg, (hc _).trans h.c25, (hc _).trans h.c28, (hc _).trans h.c29, (hc _).trans h.c32, rangeAt_below h.id hb hg⟩, Nat.lt_of_lt_of_le hg hb.size⟩
theorem strOfNums_bytes (l : Bs) : strOfNums (l.map fun b => (b.toNat : Int)) = ⟨l.toArray⟩ := by
  unfold strOfNums
  have e : (l.map fun b => (b.toNat : Int)).map (fun n => UInt8.ofNat n.toNat) = l := by
    rw [List.map_map]
    conv => rhs; rw [← List.map_id l]
    apply List.map_congr_left
    intro b _
    simp
  rw [e]
theorem bytes_str {w : World} {g o il : Nat} {l : Bs} (h : w.rangeAt g o (bcs l)) (hl : l.length = il) (c : Nat) : (convert 26 9 (.slice (some ⟨g, o, none⟩) il c)).run Tryz.prog w = .ok (.string ⟨l.toArray⟩) w := by
  have := run_convert_bytes_arg (P := Tryz.prog) (w := w) 26 5 Tryz.underlying26 Tryz.underlying5 g o il c (l.map fun b => (b.toNat : Int)) (by simp [hl]) (fun i hi => by
    have hi2 : i < l.length := by omega
    rw [h i (.int .u8 (l[i].toNat : Int)) (by rw [bcs_get, List.getElem?_eq_getElem hi2]; rfl)]
    simp [hi2]) 9 Tryz.underlying9
  rw [strOfNums_bytes] at this
  exact this

end Go.Proofs.YtfppgplboomdbaaGreatDoor

namespace Go.Proofs.YtfppgplboomdbaaGreatDoor
open Go.RowKit

/-- A directory entry in memory. -/
def dcells (loc size a b c : Int) (dir self par : Bool) (fs : Value) (name : ByteArray) (ext : Value) : List Value :=
  [.int .u8 0, .int .u32 loc, .int .u32 size, .int .i64 a, .int .i64 b, .int .i64 c, .bool false, .bool dir, .bool false, .bool false, .bool false, .bool false, .bool self, .bool par, .bool false, .int .u16 1, fs, .string name, ext]
def selfB (r : RecE) : Bool := r.id == [0]
def parB (r : RecE) : Bool := r.id == [1]
def nameB (r : RecE) : ByteArray := if r.id = [0] ∨ r.id = [1] then ⟨#[]⟩ else ⟨r.id.toArray⟩
/-- Behind p lies the entry of a record. -/
def EntAt (w : World) (p : Nat) (r : RecE) (fs : Value) : Prop := ∃ (a b c : Int) (ge : Nat), w.heap[p]? = some (.cells (dcells r.ext r.size a b c r.dir (selfB r) (parB r) fs (nameB r) (.slice (some ⟨ge, 0, none⟩) 0 0)).toArray 158 (0, 0))
theorem EntAt.below {w w' : World} {p : Nat} {r : RecE} {fs : Value} (h : EntAt w p r fs) (hb : Below w.heap.size w w') : EntAt w' p r fs := by
  obtain ⟨a, b, c, ge, h1⟩ := h
  exact ⟨a, b, c, ge, (hb.block _ (lt_of_block h1)).trans h1⟩
def DePost (w : World) (r : RecE) (e : Ending) (w' : World) : Prop := ∃ p, e = .returned (.tuple #[.pointer (some ⟨p, 0, none⟩), .nilIface]) ∧ w.heap.size ≤ p ∧ EntAt w' p r (.pointer none) ∧ Below w.heap.size w w'

set_option maxHeartbeats 8000000 in
set_option maxRecDepth 100000 in
theorem dirEnt_any (g o n c : Nat) (r : RecE) (w : World) (h : RecOK r) (hr : RecAt w g o r) (hn : n = recN r) (hnc : n ≤ c) :
    Calls Tryz.prog 131 #[.slice (some ⟨g, o, none⟩) n c, .slice none 0 0, .bool false] w fun e w' => DePost w r e w' := by
  have hid1 := h.id1
  have hid2 := h.id2
  have hN : recN r = 33 + r.id.length + (33 + r.id.length) % 2 := rfl
  generalize hil : r.id.length = il at hid1 hid2 hN
  rw [← hn] at hN
  have hn1 : 34 ≤ n := by omega
  have hn2 : n ≤ 134 := by omega
  have hn3 : 33 + il ≤ n := by omega
  have hn4 : n ≤ 34 + il := by omega
  have c0 := hr.c0
  rw [← hn] at c0
  have c1 := hr.c1
  have HR := Lib.hid hr
  have HH := Lib.hid h
  have HN := Lib.hid hN
  have HIL := Lib.hid hil
  have hgl : g < w.heap.size := World.block_lt_of_cell? w _ c0
  clear hr h hN hn hil
  have q6 : (6 : Int) ≤ (c : Int) := by omega
  have q14 : (14 : Int) ≤ (c : Int) := by omega
  have q25 : (25 : Int) ≤ (c : Int) := by omega
  have q30 : (30 : Int) ≤ (c : Int) := by omega
  have z2 : ¬ c = 2 := by omega
  have z10 : ¬ c = 10 := by omega
  have z18 : ¬ c = 18 := by omega
  have z28 : ¬ c = 28 := by omega
  have z33 : ¬ c = 33 := by omega
  go_enter Tryz.func131, Tryz.ntmps131
  go_upto_region 7 with (fail)
  clear c0 c1
  go_cut [10] from 45 to 48 (fun t wx => t = .int .u32 r.ext ∧ Below w.heap.size w wx)
  case first =>
    refine wp_region_noPanic ?_
    refine wp_region_held_drew (S := fun w' => True) (by kernel_rfl) trivial (fun hS0 => ?_)
    refine hTake (i := 0) (v := ?_) (some 45) rfl rfl (by kernel_rfl) (by kernel_rfl) (by kernel_rfl) (fun _ _ _ h => h) (Or.inl ⟨by rfl, ?hy7x0⟩) hS0 ?hr7x0
    case hy7x0 => (intro w' hSw; clear hSw; go_simp; try with_reducible rfl)
    try simp only [Act.put, List.setIfInBounds_toArray, List.set_cons_zero, List.set_cons_succ]
    refine hTake (i := 1) (v := ?_) (some 46) rfl rfl (by kernel_rfl) (by kernel_rfl) (by kernel_rfl) (fun _ _ _ h => h) (Or.inl ⟨by rfl, ?hy7x1⟩) hS0 ?hr7x1
    case hy7x1 => (intro w' hSw; clear hSw; go_simp; try with_reducible rfl)
    try simp only [Act.put, List.setIfInBounds_toArray, List.set_cons_zero, List.set_cons_succ]
    refine hTake (i := 2) (v := ?_) (some 47) rfl rfl (by kernel_rfl) (by kernel_rfl) (by kernel_rfl) (fun _ _ _ h => h) (Or.inl ⟨by rfl, ?hy7x2⟩) hS0 ?hr7x2
    case hy7x2 => (intro w' hSw; clear hSw; go_simp; try with_reducible rfl)
    try simp only [Act.put, List.setIfInBounds_toArray, List.set_cons_zero, List.set_cons_succ]
    refine wpAnyH_all (rs := [3]) (by kernel_rfl) (by simp) (rows1 ?_)
    refine hCall (f := 84) (args := #[.agg #[], .slice (some ⟨g, o + 2, none⟩) 4 (c - 2)]) (some 48) rfl rfl rfl (by go_simp) ?_
    refine (LE32_any g (o + 2) _ r.ext w.drew HH.out.ext0 HH.out.ext1 HR.out.ext).mono ?_
    rintro e w9 ⟨rfl, hb9⟩
    refine ⟨_, rfl, trivial, ?_⟩
    try simp only [Act.put, List.setIfInBounds_toArray, List.set_cons_zero, List.set_cons_succ]
    refine hTake (i := 4) (v := ?_) (some 10) rfl rfl (by kernel_rfl) (by kernel_rfl) (by kernel_rfl) (fun _ _ _ h => h) (Or.inl ⟨by rfl, ?hq7⟩) trivial ?hz7
    case hq7 => (intro w' hSw; clear hSw; go_simp; try with_reducible rfl)
    try simp only [Act.put, List.setIfInBounds_toArray, List.set_cons_zero, List.set_cons_succ]
    refine wpAnyH_done (by kernel_rfl) ?_ _
    refine NoPanic.normal ?_
    go_wp2_with fail
    go_meet
    exact ⟨rfl, below_of_drew hb9⟩
  obtain ⟨rfl, hb1⟩ := hcut
  obtain ⟨w1, rfl⟩ : ∃ w1 : World, w1 = wc := ⟨_, rfl⟩
  have hR1 := HR.out.below hb1
  obtain ⟨hrx1, hg1⟩ := hR1
  have HR1 := Lib.hid hrx1
  have HB1 := Lib.hid hb1
  clear hrx1 hb1
  go_upto_region 8 with (fail)
  go_cut [11] from 49 to 52 (fun t wx => t = .int .u32 r.size ∧ Below w1.heap.size w1 wx)
  case first =>
    refine wp_region_noPanic ?_
    refine wp_region_held_drew (S := fun w' => True) (by kernel_rfl) trivial (fun hS0 => ?_)
    refine hTake (i := 0) (v := ?_) (some 49) rfl rfl (by kernel_rfl) (by kernel_rfl) (by kernel_rfl) (fun _ _ _ h => h) (Or.inl ⟨by rfl, ?hy8x0⟩) hS0 ?hr8x0
    case hy8x0 => (intro w' hSw; clear hSw; go_simp; try with_reducible rfl)
    try simp only [Act.put, List.setIfInBounds_toArray, List.set_cons_zero, List.set_cons_succ]
    refine hTake (i := 1) (v := ?_) (some 50) rfl rfl (by kernel_rfl) (by kernel_rfl) (by kernel_rfl) (fun _ _ _ h => h) (Or.inl ⟨by rfl, ?hy8x1⟩) hS0 ?hr8x1
    case hy8x1 => (intro w' hSw; clear hSw; go_simp; try with_reducible rfl)
    try simp only [Act.put, List.setIfInBounds_toArray, List.set_cons_zero, List.set_cons_succ]
    refine hTake (i := 2) (v := ?_) (some 51) rfl rfl (by kernel_rfl) (by kernel_rfl) (by kernel_rfl) (fun _ _ _ h => h) (Or.inl ⟨by rfl, ?hy8x2⟩) hS0 ?hr8x2
    case hy8x2 => (intro w' hSw; clear hSw; go_simp; try with_reducible rfl)
    try simp only [Act.put, List.setIfInBounds_toArray, List.set_cons_zero, List.set_cons_succ]
    refine wpAnyH_all (rs := [3]) (by kernel_rfl) (by simp) (rows1 ?_)
    refine hCall (f := 84) (args := #[.agg #[], .slice (some ⟨g, o + 10, none⟩) 4 (c - 10)]) (some 52) rfl rfl rfl (by go_simp) ?_
    refine (LE32_any g (o + 10) _ r.size w1.drew HH.out.size0 HH.out.size1 HR1.out.size).mono ?_
    rintro e w9 ⟨rfl, hb9⟩
    refine ⟨_, rfl, trivial, ?_⟩
    try simp only [Act.put, List.setIfInBounds_toArray, List.set_cons_zero, List.set_cons_succ]
    refine hTake (i := 4) (v := ?_) (some 11) rfl rfl (by kernel_rfl) (by kernel_rfl) (by kernel_rfl) (fun _ _ _ h => h) (Or.inl ⟨by rfl, ?hq8⟩) trivial ?hz8
    case hq8 => (intro w' hSw; clear hSw; go_simp; try with_reducible rfl)
    try simp only [Act.put, List.setIfInBounds_toArray, List.set_cons_zero, List.set_cons_succ]
    refine wpAnyH_done (by kernel_rfl) ?_ _
    refine NoPanic.normal ?_
    go_wp2_with fail
    go_meet
    exact ⟨rfl, below_of_drew hb9⟩
  obtain ⟨rfl, hb2⟩ := hcut
  obtain ⟨w2, rfl⟩ : ∃ w2 : World, w2 = wc := ⟨_, rfl⟩
  have hR2 := HR1.out.below hb2
  obtain ⟨hrx2, hg2⟩ := hR2
  have HR2 := Lib.hid hrx2
  have HB2 := Lib.hid hb2
  clear hrx2 hb2
  have c25 := HR2.out.c25
  go_upto_region 17 with (first
    | (go_at_call 142
       refine (bytesToTime_any g (o + 18) _ r.tm _ HH.out.tm HR2.out.tm).mono ?_
       rintro e w3 ⟨⟨a, b, d, rfl⟩, hb3⟩
       have hR3 := HR2.out.below hb3
       obtain ⟨hrx3, hg3⟩ := hR3
       have c25 := hrx3.c25
       obtain ⟨fl, hfl⟩ : ∃ fl : Int, fl = (if r.dir = true then (2 : Int) else 0) := ⟨_, rfl⟩
       rw [← hfl] at c25
       have bf1 : (bits BinOp.and IntKind.u8 fl 1 == 1) = false := by rw [hfl]; cases r.dir <;> decide
       have bf2 : (bits BinOp.and IntKind.u8 fl 2 == 2) = r.dir := by rw [hfl]; cases r.dir <;> decide
       have bf4 : (bits BinOp.and IntKind.u8 fl 4 == 4) = false := by rw [hfl]; cases r.dir <;> decide
       have bf8 : (bits BinOp.and IntKind.u8 fl 8 == 8) = false := by rw [hfl]; cases r.dir <;> decide
       have bf16 : (bits BinOp.and IntKind.u8 fl 16 == 16) = false := by rw [hfl]; cases r.dir <;> decide
       have bf128 : (bits BinOp.and IntKind.u8 fl 128 == 128) = false := by rw [hfl]; cases r.dir <;> decide
       clear hfl
       have HR3 := Lib.hid hrx3
       have HB3 := Lib.hid hb3
       clear hrx3 hb3))
  obtain ⟨w4, hw4⟩ : ∃ w4 : World, w4 = w3.alloc (.cells #[.int .i64 a, .int .i64 b, .int .i64 d] 142) := ⟨_, rfl⟩
  have hb4 : Below w3.heap.size w3 w4 := by rw [hw4]; exact (Below.refl _ _).alloc (Nat.le_refl _) _
  have t0 : w4.cell? ⟨w3.heap.size, 0, none⟩ = some (.int .i64 a) := by rw [hw4, new_cell]; rfl
  have t1 : w4.cell? ⟨w3.heap.size, 1, none⟩ = some (.int .i64 b) := by rw [hw4, new_cell]; rfl
  have t2 : w4.cell? ⟨w3.heap.size, 2, none⟩ = some (.int .i64 d) := by rw [hw4, new_cell]; rfl
  have hz4 : w3.heap.size < w4.heap.size := by rw [hw4]; simp
  rw [← hw4]
  clear hw4 c25 bf1 bf2 bf4 bf8 bf16 bf128
  have hR4 := HR3.out.below hb4
  obtain ⟨hrx4, hg4⟩ := hR4
  have HR4 := Lib.hid hrx4
  have HB4 := Lib.hid hb4
  clear hrx4 hb4
  go_cut [20] from 77 to 80 (fun t wx => t = .int .u16 1 ∧ Below w4.heap.size w4 wx)
  case first =>
    refine wp_region_noPanic ?_
    refine wp_region_held_drew (S := fun w' => True) (by kernel_rfl) trivial (fun hS0 => ?_)
    refine hTake (i := 0) (v := ?_) (some 77) rfl rfl (by kernel_rfl) (by kernel_rfl) (by kernel_rfl) (fun _ _ _ h => h) (Or.inl ⟨by rfl, ?hy17x0⟩) hS0 ?hr17x0
    case hy17x0 => (intro w' hSw; clear hSw; go_simp; try with_reducible rfl)
    try simp only [Act.put, List.setIfInBounds_toArray, List.set_cons_zero, List.set_cons_succ]
    refine hTake (i := 1) (v := ?_) (some 78) rfl rfl (by kernel_rfl) (by kernel_rfl) (by kernel_rfl) (fun _ _ _ h => h) (Or.inl ⟨by rfl, ?hy17x1⟩) hS0 ?hr17x1
    case hy17x1 => (intro w' hSw; clear hSw; go_simp; try with_reducible rfl)
    try simp only [Act.put, List.setIfInBounds_toArray, List.set_cons_zero, List.set_cons_succ]
    refine hTake (i := 2) (v := ?_) (some 79) rfl rfl (by kernel_rfl) (by kernel_rfl) (by kernel_rfl) (fun _ _ _ h => h) (Or.inl ⟨by rfl, ?hy17x2⟩) hS0 ?hr17x2
    case hy17x2 => (intro w' hSw; clear hSw; go_simp; try with_reducible rfl)
    try simp only [Act.put, List.setIfInBounds_toArray, List.set_cons_zero, List.set_cons_succ]
    refine wpAnyH_all (rs := [3]) (by kernel_rfl) (by simp) (rows1 ?_)
    refine hCall (f := 85) (args := #[.agg #[], .slice (some ⟨g, o + 28, none⟩) 2 (c - 28)]) (some 80) rfl rfl rfl (by go_simp) ?_
    refine (LE16_one g (o + 28) _ w4.drew HR4.out.c28 HR4.out.c29).mono ?_
    rintro e w9 ⟨rfl, hb9⟩
    refine ⟨_, rfl, trivial, ?_⟩
    try simp only [Act.put, List.setIfInBounds_toArray, List.set_cons_zero, List.set_cons_succ]
    refine hTake (i := 4) (v := ?_) (some 20) rfl rfl (by kernel_rfl) (by kernel_rfl) (by kernel_rfl) (fun _ _ _ h => h) (Or.inl ⟨by rfl, ?hq17⟩) trivial ?hz17
    case hq17 => (intro w' hSw; clear hSw; go_simp; try with_reducible rfl)
    try simp only [Act.put, List.setIfInBounds_toArray, List.set_cons_zero, List.set_cons_succ]
    refine wpAnyH_done (by kernel_rfl) ?_ _
    refine NoPanic.normal ?_
    go_wp2_with fail
    go_meet
    exact ⟨rfl, below_of_drew hb9⟩

  obtain ⟨rfl, hb5⟩ := hcut
  obtain ⟨w5, rfl⟩ : ∃ w5 : World, w5 = wc := ⟨_, rfl⟩
  have hR5 := HR4.out.below hb5
  obtain ⟨hrx5, hg5⟩ := hR5
  have HR5 := Lib.hid hrx5
  have HB5 := Lib.hid hb5
  clear hrx5 hb5
  have c32 := HR5.out.c32
  rw [HIL.out] at c32
  have s33 : 33 + (il : Int) ≤ (c : Int) := by omega
  have s33' : (0 : Int) ≤ 33 + (il : Int) := by omega
  have e33 : 33 + il - 33 = il := by omega
  go_upto_region 21 with (fail)
  have hmk : ∀ w : World, (Instr.makeSlice 156 (.int .i64 0) (.int .i64 0)).run Tryz.prog w = .ok (.slice (some ⟨w.heap.size, 0, none⟩) 0 0) (w.alloc (.cells #[] 224)) := fun _ => by kernel_rfl
  have hcs : (convert 26 9 (.slice (some ⟨g, o + 33, none⟩) il (c - 33))).run Tryz.prog w5 = .ok (.string ⟨r.id.toArray⟩) w5 := bytes_str HR5.out.id HIL.out _
  have hbw : Below w.heap.size w w5 := HB1.out.trans ((HB2.out.mono HB1.out.size).trans ((HB3.out.mono (by have := HB1.out.size; have := HB2.out.size; omega)).trans ((HB4.out.mono (by have := HB1.out.size; have := HB2.out.size; have := HB3.out.size; omega)).trans (HB5.out.mono (by have := HB1.out.size; have := HB2.out.size; have := HB3.out.size; have := HB4.out.size; omega)))))
  have hw5 := hbw.size
  have HBW := Lib.hid hbw
  replace t0 := (HB5.out.cell (p := ⟨w3.heap.size, 0, none⟩) hz4).trans t0
  replace t1 := (HB5.out.cell (p := ⟨w3.heap.size, 1, none⟩) hz4).trans t1
  replace t2 := (HB5.out.cell (p := ⟨w3.heap.size, 2, none⟩) hz4).trans t2
  have hz5 : w3.heap.size < w5.heap.size := by (have := HB5.out.size); omega
  clear hbw c32 e33
  rcases Nat.lt_or_ge 1 il with h1 | h1
  · have hs : selfB r = false := by (cases hb : selfB r); rfl; (have := HIL.out; simp [selfB] at hb; rw [hb] at this; simp at this; omega)
    have hp : parB r = false := by (cases hb : parB r); rfl; (have := HIL.out; simp [parB] at hb; rw [hb] at this; simp at this; omega)
    have hnm : nameB r = ⟨r.id.toArray⟩ := by
      unfold nameB
      rw [if_neg]
      rintro (e | e) <;> (have := HIL.out; rw [e] at this; simp at this; omega)
    have HS := Lib.hid hs
    have HP := Lib.hid hp
    have HM := Lib.hid hnm
    clear hs hp hnm
    have k1 : decide ((1 : Int) < (il : Int)) = true := by simp; omega
    have k2 : ((il : Int) == 1) = false := by simp; omega
    rcases Nat.mod_two_eq_zero_or_one il with hpar | hpar
    · have k3 : ((il : Int) % 2 == 0) = true := by simp; omega
      have k4 : decide ((33 : Int) + ((il : Int) + 1) < (n : Int)) = false := by (have := HN.out); simp; omega
      clear hpar
      go_wp2
      go_ret2
      refine ⟨w5.heap.size + 1, rfl, by omega, ⟨a, b, d, w5.heap.size, ?_⟩, ?_⟩
      · have h := heap_alloc_new (w5.alloc (.cells #[] 224)) (.cells (dcells r.ext r.size a b d r.dir false false (.pointer none) ⟨r.id.toArray⟩ (.slice (some ⟨w5.heap.size, 0, none⟩) 0 0)).toArray 158)
        rw [HS.out, HP.out, HM.out]
        have hsz : (w5.alloc (.cells #[] 224)).heap.size = w5.heap.size + 1 := by simp
        rw [hsz] at h
        exact h
      · exact HBW.out.trans (((Below.refl _ _).alloc (by omega) _).alloc (by simp; omega) _)
    · have k3 : ((il : Int) % 2 == 0) = false := by simp; omega
      have k4 : decide ((33 : Int) + (il : Int) < (n : Int)) = false := by (have := HN.out); simp; omega
      clear hpar
      go_wp2
      go_ret2
      refine ⟨w5.heap.size + 1, rfl, by omega, ⟨a, b, d, w5.heap.size, ?_⟩, ?_⟩
      · have h := heap_alloc_new (w5.alloc (.cells #[] 224)) (.cells (dcells r.ext r.size a b d r.dir false false (.pointer none) ⟨r.id.toArray⟩ (.slice (some ⟨w5.heap.size, 0, none⟩) 0 0)).toArray 158)
        rw [HS.out, HP.out, HM.out]
        have hsz : (w5.alloc (.cells #[] 224)).heap.size = w5.heap.size + 1 := by simp
        rw [hsz] at h
        exact h
      · exact HBW.out.trans (((Below.refl _ _).alloc (by omega) _).alloc (by simp; omega) _)
  · obtain rfl : il = 1 := by omega
    obtain rfl : n = 34 := by (have := HN.out); omega
    obtain ⟨x, hx⟩ : ∃ x, r.id = [x] := List.length_eq_one_iff.1 HIL.out
    have cx : w5.cell? ⟨g, o + 33, none⟩ = some (.int .u8 (x.toNat : Int)) := by
      have h := HR5.out.id
      rw [hx] at h
      exact h 0 _ rfl
    have HX := Lib.hid hx
    clear hx h1
    by_cases x0 : x = 0
    · subst x0
      have hs : selfB r = true := by simp [selfB, HX.out]
      have hp : parB r = false := by simp [parB, HX.out]
      have hnm : nameB r = ⟨#[]⟩ := by simp [nameB, HX.out]
      have HS := Lib.hid hs
      have HP := Lib.hid hp
      have HM := Lib.hid hnm
      clear hs hp hnm
      go_wp2
      go_ret2
      refine ⟨w5.heap.size + 1, rfl, by omega, ⟨a, b, d, w5.heap.size, ?_⟩, ?_⟩
      · have h := heap_alloc_new (w5.alloc (.cells #[] 224)) (.cells (dcells r.ext r.size a b d r.dir true false (.pointer none) ⟨#[]⟩ (.slice (some ⟨w5.heap.size, 0, none⟩) 0 0)).toArray 158)
        rw [HS.out, HP.out, HM.out]
        have hsz : (w5.alloc (.cells #[] 224)).heap.size = w5.heap.size + 1 := by simp
        rw [hsz] at h
        exact h
      · exact HBW.out.trans (((Below.refl _ _).alloc (by omega) _).alloc (by simp; omega) _)
    · by_cases x1 : x = 1
      · subst x1
        have hs : selfB r = false := by simp [selfB, HX.out]
        have hp : parB r = true := by simp [parB, HX.out]
        have hnm : nameB r = ⟨#[]⟩ := by simp [nameB, HX.out]
        have HS := Lib.hid hs
        have HP := Lib.hid hp
        have HM := Lib.hid hnm
        clear hs hp hnm x0
        go_wp2
        go_ret2
        refine ⟨w5.heap.size + 1, rfl, by omega, ⟨a, b, d, w5.heap.size, ?_⟩, ?_⟩
        · have h := heap_alloc_new (w5.alloc (.cells #[] 224)) (.cells (dcells r.ext r.size a b d r.dir false true (.pointer none) ⟨#[]⟩ (.slice (some ⟨w5.heap.size, 0, none⟩) 0 0)).toArray 158)
          rw [HS.out, HP.out, HM.out]
          have hsz : (w5.alloc (.cells #[] 224)).heap.size = w5.heap.size + 1 := by simp
          rw [hsz] at h
          exact h
        · exact HBW.out.trans (((Below.refl _ _).alloc (by omega) _).alloc (by simp; omega) _)
      · have hs : selfB r = false := by simp [selfB, HX.out, x0]
        have hp : parB r = false := by simp [parB, HX.out, x1]
        have hnm : nameB r = ⟨r.id.toArray⟩ := by
          unfold nameB
          rw [if_neg]
          rw [HX.out]
          rintro (e | e)
          · exact x0 (by simpa using e)
          · exact x1 (by simpa using e)
        have HS := Lib.hid hs
        have HP := Lib.hid hp
        have HM := Lib.hid hnm
        have k5 : ((x.toNat : Int) == 0) = false := by
          simp
          intro e
          exact x0 (UInt8.toNat_inj.1 (by simpa using e))
        have k6 : ((x.toNat : Int) == 1) = false := by
          simp
          intro e
          exact x1 (UInt8.toNat_inj.1 (by simp; omega))
        clear hs hp hnm x0 x1
        go_wp2
        go_ret2
        refine ⟨w5.heap.size + 1, rfl, by omega, ⟨a, b, d, w5.heap.size, ?_⟩, ?_⟩
        · have h := heap_alloc_new (w5.alloc (.cells #[] 224)) (.cells (dcells r.ext r.size a b d r.dir false false (.pointer none) ⟨r.id.toArray⟩ (.slice (some ⟨w5.heap.size, 0, none⟩) 0 0)).toArray 158)
          rw [HS.out, HP.out, HM.out]
          have hsz : (w5.alloc (.cells #[] 224)).heap.size = w5.heap.size + 1 := by simp
          rw [hsz] at h
          exact h
        · exact HBW.out.trans (((Below.refl _ _).alloc (by omega) _).alloc (by simp; omega) _)

end Go.Proofs.YtfppgplboomdbaaGreatDoor
