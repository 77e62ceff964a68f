/- Part of the proofs of laws.FnIsoTree and laws.FnIsoAt: lemmas and contracts of functions that the two laws reach, each under the hypotheses that its own statement names. -/
import Derived.Test.YtfppgplboomdbaaGreatDoorMPart00
namespace Go.Proofs.YtfppgplboomdbaaGreatDoor
open Go.RowKit

def b32 (n : Int) : Bs := [by8 n, by8 (n / 256), by8 (n / 65536), by8 (n / 16777216), by8 (n / 16777216), by8 (n / 65536), by8 (n / 256), by8 n]
def b16 (n : Int) : Bs := [by8 n, by8 (n / 256), by8 (n / 256), by8 n]

/-- A record of a directory: the steps by which it is made. -/
def recD (id : Bs) (ext size : Int) (tm : Bs) (dir : Bool) : Bs :=
  let N := 33 + id.length + (33 + id.length) % 2
  let D4 := splice (splice (splice (List.replicate N 0) 2 (b32 ext)) 10 (b32 size)) 18 tm
  let D5 := if dir then D4.set 25 2 else D4
  let D7 := splice ((splice D5 28 (b16 1)).set 32 (by8 id.length)) 33 id
  (if id.length % 2 = 0 then splice D7 (33 + id.length) [0] else D7).set 0 (by8 N)
def recL := recD

set_option maxHeartbeats 2000000 in
set_option maxRecDepth 100000 in
theorem isoRecord_any (id : ByteArray) (ext size t : Int) (dir : Bool) (ad : Option Addr) (c : Nat) (w : World) (N : Nat) (hN : N = 33 + id.size + (33 + id.size) % 2) (hid : id.size ≤ 100) (hi0 : 1 ≤ id.size) (he0 : 0 ≤ ext) (he1 : ext ≤ 4294967295) (hs0 : 0 ≤ size) (hs1 : size ≤ 4294967295) :
    Calls Tryz.prog 44 #[.string id, .int .u32 ext, .int .u32 size, .int .i64 t, .bool dir, .slice ad 0 c] w fun e w' => e = .returned (.slice (some ⟨w.heap.size, 0, none⟩) N N) ∧ (∃ tm : Bs, tm.length = 7 ∧ Blk w' w.heap.size (recL id.data.toList ext size tm dir)) ∧ Below w.heap.size w w' := by
  obtain ⟨i5, hi, hz0, hz1, hz2⟩ := info_parts Tryz.info5
  have HN := Lib.hid hN
  have hn1 : 33 + id.size ≤ N := by omega
  have hn2 : N ≤ 200 := by omega
  clear hN
  go_enter Tryz.func44, Tryz.ntmps44
  go_wp2_with (refine wpList_make_bytes rfl _ _ 26 rfl i5 Tryz.underlying26 hi hz0 hz1 hz2 .i64 .i64 _ _ 33 N rfl rfl rfl (by have := HN.out; omega) (by omega) (by omega) w.heap.size w (Below.refl _ _) (Nat.le_refl _) ?_; intro w1 HG1 hB1 hB1' hs1)
  have L1 := Lib.hid (List.length_replicate (n := N) (a := (0 : UInt8)))
  go_region_law (first
    | (refine step_copy_bytes rfl (.tmp 28) (.tmp 30) 26 26 rfl Tryz.underlying26 rfl _ _ _ _ _ _ rfl rfl w.heap.size 2 _ (b32 ext) (HG1.alloc _).drew (by rw [if_neg (by omega)]) (SrcB.of_blk (Blk.new w1 _).drew) rfl (by rw [L1.out]; simp [b32]; omega) w.heap.size w ((hB1.alloc hB1.size _).drew) (Nat.le_refl _) ?_; intro w2 HG2 hB2 hO2)
    | (go_simp; go_at_call 46; refine (both32_any _ (by omega) (by omega) _).mono ?_; rintro e w' ⟨rfl, rfl⟩))
  generalize hD2 : splice _ _ _ = D2 at HG2
  have L2 : D2.length = N := by rw [← hD2, length_splice _ _ _ (by rw [L1.out]; simp [b32]; omega), L1.out]
  have E2 := Lib.hid hD2
  clear hD2 hO2
  have LL2 := Lib.hid L2; clear L2
  go_wp2
  go_region_law (first
    | (refine step_copy_bytes rfl (.tmp 33) (.tmp 35) 26 26 rfl Tryz.underlying26 rfl _ _ _ _ _ _ rfl rfl w.heap.size 10 _ (b32 size) (HG2.alloc _).drew (by rw [if_neg (by omega)]) (SrcB.of_blk (Blk.new w2 _).drew) rfl (by rw [LL2.out]; simp [b32]; omega) w.heap.size w ((hB2.alloc hB2.size _).drew) (Nat.le_refl _) ?_; intro w3 HG3 hB3 hO3)
    | (go_simp; go_at_call 46; refine (both32_any _ (by omega) (by omega) _).mono ?_; rintro e w' ⟨rfl, rfl⟩))
  generalize hD3 : splice _ _ _ = D3 at HG3
  have L3 : D3.length = N := by rw [← hD3, length_splice _ _ _ (by rw [LL2.out]; simp [b32]; omega), LL2.out]
  have E3 := Lib.hid hD3
  clear hD3 hO3
  have LL3 := Lib.hid L3; clear L3
  go_wp2
  go_region_law (first
    | (refine step_copy_bytes rfl (.tmp 38) (.tmp 40) 26 26 rfl Tryz.underlying26 rfl _ _ _ _ _ _ rfl rfl w.heap.size 18 _ tm (HG3.alloc _).drew (by rw [if_neg (by omega)]) (SrcB.of_blk (Blk.new w3 _).drew) (by rw [TM.out]; rfl) (by rw [LL3.out, TM.out]; omega) w.heap.size w ((hB3.alloc hB3.size _).drew) (Nat.le_refl _) ?_; intro w4 HG4 hB4 hO4)
    | (go_simp; go_at_call 60; refine (isoTime_any _ _).mono ?_; rintro e w' ⟨rfl, tm, htm, rfl⟩; have TM := Lib.hid htm; clear htm))
  generalize hD4 : splice _ _ _ = D4 at HG4
  have L4 : D4.length = N := by rw [← hD4, length_splice _ _ _ (by rw [LL3.out, TM.out]; omega), LL3.out]
  have E4 := Lib.hid hD4
  clear hD4 hO4
  have LL4 := Lib.hid L4; clear L4
  have c25 := HG4.cell_of 25 (by rw [LL4.out]; omega)
  have f25 := HG4.free 25
  cases dir
  · go_wp2
    clear c25 f25
    go_region_law (first
      | (refine step_copy_bytes rfl (.tmp 46) (.tmp 47) 26 26 rfl Tryz.underlying26 rfl _ _ _ _ _ _ rfl rfl w.heap.size 28 _ (b16 1) (HG4.alloc _).drew (by rw [if_neg (by omega)]) (SrcB.of_blk (Blk.new w4 _).drew) rfl (by rw [LL4.out]; simp [b16]; omega) w.heap.size w ((hB4.alloc hB4.size _).drew) (Nat.le_refl _) ?_; intro w6 HG6 hB6 hO6)
      | (go_simp; go_at_call 47; refine (both16_any 1 (by omega) (by omega) _).mono ?_; rintro e w' ⟨rfl, rfl⟩))
    generalize hD6 : splice _ _ _ = D6 at HG6
    have L6 : D6.length = N := by rw [← hD6, length_splice _ _ _ (by rw [LL4.out]; simp [b16]; omega), LL4.out]
    have E6 := Lib.hid hD6
    clear hD6 hO6
    have LL6 := Lib.hid L6; clear L6
    have c32 := HG6.cell_of 32 (by rw [LL6.out]; omega)
    have f32 := HG6.free 32
    have HG7 : Blk (w6.setCell ⟨w.heap.size, 32, none⟩ (.int .u8 id.size)) w.heap.size (D6.set 32 (by8 id.size)) := by
      have h := HG6.store 32 (by8 id.size)
      rwa [← bcell_of _ (by omega) (by omega)] at h
    have hB7 := hB6.setCell (p := ⟨w.heap.size, 32, none⟩) (Nat.le_refl _) (.int .u8 id.size)
    have LL7 : Hid ((D6.set 32 (by8 id.size)).length = N) := by rw [Hid, List.length_set]; exact LL6.out
    generalize hD7 : D6.set 32 (by8 id.size) = D7 at HG7 LL7
    have E7 := Lib.hid hD7
    clear hD7
    by_cases hpar : id.size % 2 = 0
    · have HN2 : Hid (N = 34 + id.size) := by have := HN.out; simp only [Hid]; omega
      have HP := Lib.hid hpar
      have hp1 : ((33 + (id.size : Int)) % 2 == 1) = true := by simp; omega
      have hp2 : ((33 + (id.size : Int) + 1) % 2 == 1) = false := by simp; omega
      clear hpar
      go_wp2_with (first
        | (refine wpList_append_str_room rfl (.tmp 54) (.tmp 55) 26 9 rfl i5 Tryz.underlying26 Tryz.underlying9 hi hz1 w.heap.size 33 N _ id rfl rfl HG7 (by omega) (by rw [LL7.out]; omega) w.heap.size w hB7 (Nat.le_refl _) ?_; intro w8 HG8 hB8 hO8; have LL8 := Lib.hid (length_splice D7 33 id.data.toList (by rw [LL7.out]; simp; omega)); clear hO8)
        | (refine wpList_append_room rfl (.tmp 61) (.tmp 62) 26 rfl i5 Tryz.underlying26 hi hz1 w.heap.size (33 + id.size) N _ [0] _ _ rfl rfl (by simp) (HG8.alloc _) (SrcB.of_blk (Blk.new w8 [0])) (by have := HN2.out; simp; omega) (by rw [LL8.out, LL7.out]; have := HN2.out; simp; omega) w.heap.size w (hB8.alloc hB8.size _) (Nat.le_refl _) ?_; intro w9 HG9 hB9 hO9; have c0 := HG9.cell_of 0 (by rw [length_splice _ _ _ (by rw [LL8.out, LL7.out]; have := HN2.out; simp; omega), LL8.out, LL7.out]; omega); have f0 := HG9.free 0; clear hO9)
        | (refine wpList_append_zero rfl (.tmp 64) (.tmp 65) 26 rfl 5 i5 Tryz.underlying26 hi _ _ _ _ _ rfl rfl (by have := HN2.out; omega) ?_))
      go_ret
      refine ⟨?_, ⟨tm, TM.out, ?_⟩, hB9.setCell (p := ⟨w.heap.size, 0, none⟩) (Nat.le_refl _) _⟩
      · have := HN2.out
        have e : 33 + id.size + 1 = N := by omega
        show Ending.returned (Value.slice _ (33 + id.size + 1) N) = _
        rw [e]
      · have h := HG9.store 0 (by8 N)
        have := HN2.out
        rw [← bcell_of _ (by omega) (by omega)] at h
        have e : (33 + (id.size : Int) + 1) = (N : Int) := by omega
        have e2 : recL id.data.toList ext size tm false = (splice (splice D7 33 id.data.toList) (33 + id.size) [0]).set 0 (by8 N) := by
          have hl : id.data.toList.length = id.size := by simp
          simp only [recL, recD, hl, HP.out, if_true, Bool.false_eq_true, if_false]
          rw [← HN.out, ← E7.out, ← E6.out, ← E4.out, ← E3.out, ← E2.out]
        rw [e2]
        first | exact h | (rw [e]; exact h)
    · have HP := Lib.hid hpar
      have HN2 : Hid (N = 33 + id.size) := by have := HN.out; simp only [Hid]; omega
      have hp1 : ((33 + (id.size : Int)) % 2 == 1) = false := by simp; omega
      clear hpar
      go_wp2_with (first
        | (refine wpList_append_str_room rfl (.tmp 54) (.tmp 55) 26 9 rfl i5 Tryz.underlying26 Tryz.underlying9 hi hz1 w.heap.size 33 N _ id rfl rfl HG7 (by omega) (by rw [LL7.out]; omega) w.heap.size w hB7 (Nat.le_refl _) ?_; intro w8 HG8 hB8 hO8; have c0 := HG8.cell_of 0 (by rw [length_splice D7 33 id.data.toList (by rw [LL7.out]; simp; omega), LL7.out]; omega); have f0 := HG8.free 0; clear hO8)
        | (refine wpList_append_zero rfl (.tmp 64) (.tmp 65) 26 rfl 5 i5 Tryz.underlying26 hi _ _ _ _ _ rfl rfl (by have := HN2.out; omega) ?_))
      go_ret
      refine ⟨?_, ⟨tm, TM.out, ?_⟩, hB8.setCell (p := ⟨w.heap.size, 0, none⟩) (Nat.le_refl _) _⟩
      · have := HN2.out
        have e : 33 + id.size = N := by omega
        show Ending.returned (Value.slice _ (33 + id.size) N) = _
        rw [e]
      · have h := HG8.store 0 (by8 N)
        have := HN2.out
        rw [← bcell_of _ (by omega) (by omega)] at h
        have e : (33 + (id.size : Int)) = (N : Int) := by omega
        have e2 : recL id.data.toList ext size tm false = (splice D7 33 id.data.toList).set 0 (by8 N) := by
          have hl : id.data.toList.length = id.size := by simp
          simp only [recL, recD, hl, Bool.false_eq_true, if_false]
          rw [if_neg HP.out]
          rw [← HN.out, ← E7.out, ← E6.out, ← E4.out, ← E3.out, ← E2.out]
        rw [e2]
        first | exact h | (rw [e]; exact h)
  · go_wp2
    have HG5 : Blk (w4.setCell ⟨w.heap.size, 25, none⟩ (.int .u8 2)) w.heap.size (D4.set 25 2) := HG4.store 25 2
    have hB5 := hB4.setCell (p := ⟨w.heap.size, 25, none⟩) (Nat.le_refl _) (.int .u8 2)
    have LL5 : Hid ((D4.set 25 2).length = N) := by rw [Hid, List.length_set]; exact LL4.out
    generalize hw5 : w4.setCell ⟨w.heap.size, 25, none⟩ (.int .u8 2) = w5 at HG5 hB5 ⊢
    clear hw5 c25 f25
    go_region_law (first
      | (refine step_copy_bytes rfl (.tmp 46) (.tmp 47) 26 26 rfl Tryz.underlying26 rfl _ _ _ _ _ _ rfl rfl w.heap.size 28 _ (b16 1) (HG5.alloc _).drew (by rw [if_neg (by omega)]) (SrcB.of_blk (Blk.new w5 _).drew) rfl (by rw [LL5.out]; simp [b16]; omega) w.heap.size w ((hB5.alloc hB5.size _).drew) (Nat.le_refl _) ?_; intro w6 HG6 hB6 hO6)
      | (go_simp; go_at_call 47; refine (both16_any 1 (by omega) (by omega) _).mono ?_; rintro e w' ⟨rfl, rfl⟩))
    generalize hD6 : splice _ _ _ = D6 at HG6
    have L6 : D6.length = N := by rw [← hD6, length_splice _ _ _ (by rw [LL5.out]; simp [b16]; omega), LL5.out]
    have E6 := Lib.hid hD6
    clear hD6 hO6
    have LL6 := Lib.hid L6; clear L6
    have c32 := HG6.cell_of 32 (by rw [LL6.out]; omega)
    have f32 := HG6.free 32
    have HG7 : Blk (w6.setCell ⟨w.heap.size, 32, none⟩ (.int .u8 id.size)) w.heap.size (D6.set 32 (by8 id.size)) := by
      have h := HG6.store 32 (by8 id.size)
      rwa [← bcell_of _ (by omega) (by omega)] at h
    have hB7 := hB6.setCell (p := ⟨w.heap.size, 32, none⟩) (Nat.le_refl _) (.int .u8 id.size)
    have LL7 : Hid ((D6.set 32 (by8 id.size)).length = N) := by rw [Hid, List.length_set]; exact LL6.out
    generalize hD7 : D6.set 32 (by8 id.size) = D7 at HG7 LL7
    have E7 := Lib.hid hD7
    clear hD7
    by_cases hpar : id.size % 2 = 0
    · have HN2 : Hid (N = 34 + id.size) := by have := HN.out; simp only [Hid]; omega
      have HP := Lib.hid hpar
      have hp1 : ((33 + (id.size : Int)) % 2 == 1) = true := by simp; omega
      have hp2 : ((33 + (id.size : Int) + 1) % 2 == 1) = false := by simp; omega
      clear hpar
      go_wp2_with (first
        | (refine wpList_append_str_room rfl (.tmp 54) (.tmp 55) 26 9 rfl i5 Tryz.underlying26 Tryz.underlying9 hi hz1 w.heap.size 33 N _ id rfl rfl HG7 (by omega) (by rw [LL7.out]; omega) w.heap.size w hB7 (Nat.le_refl _) ?_; intro w8 HG8 hB8 hO8; have LL8 := Lib.hid (length_splice D7 33 id.data.toList (by rw [LL7.out]; simp; omega)); clear hO8)
        | (refine wpList_append_room rfl (.tmp 61) (.tmp 62) 26 rfl i5 Tryz.underlying26 hi hz1 w.heap.size (33 + id.size) N _ [0] _ _ rfl rfl (by simp) (HG8.alloc _) (SrcB.of_blk (Blk.new w8 [0])) (by have := HN2.out; simp; omega) (by rw [LL8.out, LL7.out]; have := HN2.out; simp; omega) w.heap.size w (hB8.alloc hB8.size _) (Nat.le_refl _) ?_; intro w9 HG9 hB9 hO9; have c0 := HG9.cell_of 0 (by rw [length_splice _ _ _ (by rw [LL8.out, LL7.out]; have := HN2.out; simp; omega), LL8.out, LL7.out]; omega); have f0 := HG9.free 0; clear hO9)
        | (refine wpList_append_zero rfl (.tmp 64) (.tmp 65) 26 rfl 5 i5 Tryz.underlying26 hi _ _ _ _ _ rfl rfl (by have := HN2.out; omega) ?_))
      go_ret
      refine ⟨?_, ⟨tm, TM.out, ?_⟩, hB9.setCell (p := ⟨w.heap.size, 0, none⟩) (Nat.le_refl _) _⟩
      · have := HN2.out
        have e : 33 + id.size + 1 = N := by omega
        show Ending.returned (Value.slice _ (33 + id.size + 1) N) = _
        rw [e]
      · have h := HG9.store 0 (by8 N)
        have := HN2.out
        rw [← bcell_of _ (by omega) (by omega)] at h
        have e : (33 + (id.size : Int) + 1) = (N : Int) := by omega
        have e2 : recL id.data.toList ext size tm true = (splice (splice D7 33 id.data.toList) (33 + id.size) [0]).set 0 (by8 N) := by
          have hl : id.data.toList.length = id.size := by simp
          simp only [recL, recD, hl, HP.out, if_true]
          rw [← HN.out, ← E7.out, ← E6.out, ← E4.out, ← E3.out, ← E2.out]
        rw [e2]
        first | exact h | (rw [e]; exact h)
    · have HP := Lib.hid hpar
      have HN2 : Hid (N = 33 + id.size) := by have := HN.out; simp only [Hid]; omega
      have hp1 : ((33 + (id.size : Int)) % 2 == 1) = false := by simp; omega
      clear hpar
      go_wp2_with (first
        | (refine wpList_append_str_room rfl (.tmp 54) (.tmp 55) 26 9 rfl i5 Tryz.underlying26 Tryz.underlying9 hi hz1 w.heap.size 33 N _ id rfl rfl HG7 (by omega) (by rw [LL7.out]; omega) w.heap.size w hB7 (Nat.le_refl _) ?_; intro w8 HG8 hB8 hO8; have c0 := HG8.cell_of 0 (by rw [length_splice D7 33 id.data.toList (by rw [LL7.out]; simp; omega), LL7.out]; omega); have f0 := HG8.free 0; clear hO8)
        | (refine wpList_append_zero rfl (.tmp 64) (.tmp 65) 26 rfl 5 i5 Tryz.underlying26 hi _ _ _ _ _ rfl rfl (by have := HN2.out; omega) ?_))
      go_ret
      refine ⟨?_, ⟨tm, TM.out, ?_⟩, hB8.setCell (p := ⟨w.heap.size, 0, none⟩) (Nat.le_refl _) _⟩
      · have := HN2.out
        have e : 33 + id.size = N := by omega
        show Ending.returned (Value.slice _ (33 + id.size) N) = _
        rw [e]
      · have h := HG8.store 0 (by8 N)
        have := HN2.out
        rw [← bcell_of _ (by omega) (by omega)] at h
        have e : (33 + (id.size : Int)) = (N : Int) := by omega
        have e2 : recL id.data.toList ext size tm true = (splice D7 33 id.data.toList).set 0 (by8 N) := by
          have hl : id.data.toList.length = id.size := by simp
          simp only [recL, recD, hl, if_true]
          rw [if_neg HP.out]
          rw [← HN.out, ← E7.out, ← E6.out, ← E4.out, ← E3.out, ← E2.out]
        rw [e2]
        first | exact h | (rw [e]; exact h)

end Go.Proofs.YtfppgplboomdbaaGreatDoor
