/- Part of the proofs of laws.FnIsoTree and laws.FnIsoAt: lemmas and contracts of functions that the two laws reach, each under the hypotheses that its own statement names. -/
import Derived.Test.YtfppgplboomdbaaGreatDoorMPart05
import Derived.Handy
namespace Go.Proofs.YtfppgplboomdbaaGreatDoor
open Go.RowKit

def SomeI (e : Ending) : Prop := ∃ r : Int, e = .returned (.int .i64 r)
def SomeT (e : Ending) : Prop := ∃ a b c : Int, e = .returned (.agg #[.int .i64 a, .int .i64 b, .int .i64 c])
set_option maxHeartbeats 2000000 in
set_option maxRecDepth 100000 in
theorem days_any (y m d : Int) (w : World) : Calls Tryz.prog 140 #[.int .i64 y, .int .i64 m, .int .i64 d] w fun e w' => SomeI e ∧ w = w' := by
  go_enter Tryz.func140, Tryz.ntmps140
  go_wp2
  all_goals (go_ret; exact ⟨⟨_, rfl⟩, rfl⟩)
set_option maxHeartbeats 2000000 in
set_option maxRecDepth 100000 in
theorem Unix_any (s n : Int) (w : World) : Calls Tryz.prog 141 #[.int .i64 s, .int .i64 n] w fun e w' => SomeT e ∧ Below w.heap.size w w' := by
  go_enter Tryz.func141, Tryz.ntmps141
  go_wp2
  all_goals (go_returns; exact ⟨⟨_, _, _, rfl⟩, (Below.refl _ _).alloc (Nat.le_refl _) _⟩)
theorem FixedZone_any (s : ByteArray) (n : Int) (w : World) : Calls Tryz.prog 151 #[.string s, .int .i64 n] w fun e w' => e = .returned (.int .i64 n) ∧ w = w' := by
  go_enter Tryz.func151, Tryz.ntmps151
  go_wp2
  go_ret
  exact ⟨rfl, rfl⟩
theorem time_old {w w2 : World} {a b c : Int} (hb : Below (w.alloc (.cells #[.int .i64 a, .int .i64 b, .int .i64 c] 142)).heap.size (w.alloc (.cells #[.int .i64 a, .int .i64 b, .int .i64 c] 142)) w2) :
    w2.cell? ⟨w.heap.size, 0, none⟩ = some (.int .i64 a) ∧ w2.cell? ⟨w.heap.size, 1, none⟩ = some (.int .i64 b) ∧ w2.cell? ⟨w.heap.size, 2, none⟩ = some (.int .i64 c) ∧ w2.frozen? ⟨w.heap.size, 0, none⟩ = false ∧ w2.frozen? ⟨w.heap.size, 1, none⟩ = false ∧ w2.frozen? ⟨w.heap.size, 2, none⟩ = false := by
  have ht := there_alloc_new w #[.int .i64 a, .int .i64 b, .int .i64 c] 142 3 rfl
  have hs : w.heap.size < (w.alloc (.cells #[.int .i64 a, .int .i64 b, .int .i64 c] 142)).heap.size := by simp
  have hc := fun o => (hb.cell (p := ⟨w.heap.size, o, none⟩) hs).trans (new_cell w #[.int .i64 a, .int .i64 b, .int .i64 c] 142 o)
  have hf := fun o => hb.frozen (p := ⟨w.heap.size, o, none⟩) hs
  have t0 := (ht 0 (by omega)).2
  have t1 := (ht 1 (by omega)).2
  have t2 := (ht 2 (by omega)).2
  rw [Nat.zero_add] at t0 t1 t2
  exact ⟨hc 0, hc 1, hc 2, (hf 0).trans t0, (hf 1).trans t1, (hf 2).trans t2⟩
theorem set3 {w2 : World} {k : Nat} {x y z : Value} (a b c : Value) (h0 : w2.cell? ⟨k, 0, none⟩ = some x) (h1 : w2.cell? ⟨k, 1, none⟩ = some y) (h2 : w2.cell? ⟨k, 2, none⟩ = some z) (o : Obj) :
    ((((w2.setCell ⟨k, 0, none⟩ a).setCell ⟨k, 1, none⟩ b).setCell ⟨k, 2, none⟩ c).alloc o).cell? ⟨k, 0, none⟩ = some a ∧ ((((w2.setCell ⟨k, 0, none⟩ a).setCell ⟨k, 1, none⟩ b).setCell ⟨k, 2, none⟩ c).alloc o).cell? ⟨k, 1, none⟩ = some b ∧ ((((w2.setCell ⟨k, 0, none⟩ a).setCell ⟨k, 1, none⟩ b).setCell ⟨k, 2, none⟩ c).alloc o).cell? ⟨k, 2, none⟩ = some c := by
  have hin : ∀ i, i < [a, b, c].length → (w2.cell? ⟨k, 0 + i, none⟩).isSome = true := fun i hi => by
    have : i = 0 ∨ i = 1 ∨ i = 2 := by simp at hi; omega
    rcases this with rfl | rfl | rfl
    · show (w2.cell? ⟨k, 0, none⟩).isSome = true
      rw [h0]; rfl
    · show (w2.cell? ⟨k, 1, none⟩).isSome = true
      rw [h1]; rfl
    · show (w2.cell? ⟨k, 2, none⟩).isSome = true
      rw [h2]; rfl
  have key := World.cell?_setCells_in k [a, b, c] 0 w2 hin
  exact ⟨cell_ad (key 0 (by simp)) o, cell_ad (key 1 (by simp)) o, cell_ad (key 2 (by simp)) o⟩
theorem set3b {w2 : World} {k : Nat} {x y z : Value} (a b c : Value) (h0 : w2.cell? ⟨k, 0, none⟩ = some x) (h1 : w2.cell? ⟨k, 1, none⟩ = some y) (h2 : w2.cell? ⟨k, 2, none⟩ = some z) :
    (((w2.setCell ⟨k, 0, none⟩ a).setCell ⟨k, 1, none⟩ b).setCell ⟨k, 2, none⟩ c).cell? ⟨k, 0, none⟩ = some a ∧ (((w2.setCell ⟨k, 0, none⟩ a).setCell ⟨k, 1, none⟩ b).setCell ⟨k, 2, none⟩ c).cell? ⟨k, 1, none⟩ = some b ∧ (((w2.setCell ⟨k, 0, none⟩ a).setCell ⟨k, 1, none⟩ b).setCell ⟨k, 2, none⟩ c).cell? ⟨k, 2, none⟩ = some c := by
  have hin : ∀ i, i < [a, b, c].length → (w2.cell? ⟨k, 0 + i, none⟩).isSome = true := fun i hi => by
    have : i = 0 ∨ i = 1 ∨ i = 2 := by simp at hi; omega
    rcases this with rfl | rfl | rfl
    · show (w2.cell? ⟨k, 0, none⟩).isSome = true
      rw [h0]; rfl
    · show (w2.cell? ⟨k, 1, none⟩).isSome = true
      rw [h1]; rfl
    · show (w2.cell? ⟨k, 2, none⟩).isSome = true
      rw [h2]; rfl
  have key := World.cell?_setCells_in k [a, b, c] 0 w2 hin
  exact ⟨key 0 (by simp), key 1 (by simp), key 2 (by simp)⟩
theorem cells_below {w w' : World} (hb : Below w.heap.size w w') : (∀ b o, b < w.heap.size → w'.cell? ⟨b, o, none⟩ = w.cell? ⟨b, o, none⟩) ∧ (∀ b o, b < w.heap.size → w'.frozen? ⟨b, o, none⟩ = w.frozen? ⟨b, o, none⟩) := below_cells hb
set_option maxHeartbeats 2000000 in
set_option maxRecDepth 100000 in
theorem Date_any (y m d h mi s ns z : Int) (w : World) : Calls Tryz.prog 130 #[.int .i64 y, .int .i64 m, .int .i64 d, .int .i64 h, .int .i64 mi, .int .i64 s, .int .i64 ns, .int .i64 z] w fun e w' => SomeT e ∧ Below w.heap.size w w' := by
  go_enter Tryz.func130, Tryz.ntmps130
  go_wp2_with (first
    | (go_at_call 140; refine (days_any _ _ _ _).mono ?_; rintro e w2 ⟨⟨r, rfl⟩, rfl⟩)
    | (go_at_call 141; refine (Unix_any _ _ _).mono ?_; rintro e w2 ⟨⟨a, b, c, rfl⟩, hb⟩; have hz := hb.size; have hz2 : w.heap.size < w2.heap.size := by (simp at hz; omega)
       have q := time_old hb
       obtain ⟨q0, q1, q2, f0, f1, f2⟩ := q; have HB := Lib.hid hb; clear hb hz))
  obtain ⟨e0, e1, e2⟩ := set3 (.int .i64 a) (.int .i64 b) (.int .i64 z) q0 q1 q2 (.cells #[.int .i64 a, .int .i64 b, .int .i64 z] 142)
  refine bodyPost_ret (v := .agg #[.int .i64 a, .int .i64 b, .int .i64 z]) (by simp [results, Tryz.results130, go_sem, e0, e1, e2]) rfl ?_
  exact ⟨⟨_, _, _, rfl⟩, ((((((Below.refl _ _).alloc (Nat.le_refl _) _).trans (HB.out.mono (by simp))).setCell (Nat.le_refl _) _).setCell (Nat.le_refl _) _).setCell (Nat.le_refl _) _).alloc (by simp [World.setCell]; omega) _⟩
set_option maxHeartbeats 2000000 in
set_option maxRecDepth 100000 in
theorem bytesToTime_any (g o c : Nat) (t : Bs) (w : World) (ht : t.length = 7) (hr : w.rangeAt g o (bcs t)) :
    Calls Tryz.prog 142 #[.slice (some ⟨g, o, none⟩) 7 c] w fun e w' => SomeT e ∧ Below w.heap.size w w' := by
  obtain ⟨b0, b1, b2, b3, b4, b5, b6, rfl⟩ := list7 ht
  have c0 := hr 0 _ rfl
  have c1 := hr 1 _ rfl
  have c2 := hr 2 _ rfl
  have c3 := hr 3 _ rfl
  have c4 := hr 4 _ rfl
  have c5 := hr 5 _ rfl
  have c6 := hr 6 _ rfl
  rw [Nat.add_zero] at c0
  clear hr
  have hgl : g < w.heap.size := World.block_lt_of_cell? w _ c0
  have hgne : g ≠ w.heap.size := by omega
  go_enter Tryz.func142, Tryz.ntmps142
  go_wp2_with (first
    | (go_at_call 151; refine (FixedZone_any _ _ _).mono ?_; rintro e w2 ⟨rfl, rfl⟩)
    | (go_at_call 130; refine (Date_any _ _ _ _ _ _ _ _ _).mono ?_; rintro e w2 ⟨⟨a, b, c, rfl⟩, hb⟩; have hz := hb.size; have hz2 : w.heap.size < w2.heap.size := by (simp at hz; omega)
       have q := time_old hb
       obtain ⟨q0, q1, q2, f0, f1, f2⟩ := q; have HB := Lib.hid hb; clear hb hz))
  obtain ⟨e0, e1, e2⟩ := set3b (.int .i64 a) (.int .i64 b) (.int .i64 c) q0 q1 q2
  refine bodyPost_ret (v := .agg #[.int .i64 a, .int .i64 b, .int .i64 c]) (by simp [results, Tryz.results142, go_sem, e0, e1, e2]) rfl ?_
  exact ⟨⟨_, _, _, rfl⟩, (((((Below.refl _ _).alloc (Nat.le_refl _) _).trans (HB.out.mono (by simp))).setCell (Nat.le_refl _) _).setCell (Nat.le_refl _) _).setCell (Nat.le_refl _) _⟩

end Go.Proofs.YtfppgplboomdbaaGreatDoor
