/- Part of the proofs of laws.FnIsoTree and laws.FnIsoAt: lemmas and contracts of functions that the two laws reach, each under the hypotheses that its own statement names. -/
import Derived.Test.YtfppgplboomdbaaGreatDoorMK8
import Derived.StillTailTactics
namespace Go.Proofs.YtfppgplboomdbaaGreatDoor
open Go.RowKit

set_option maxHeartbeats 1000000 in
theorem regular_any (m : Int) (b : Bool) (w : World) (h : m = 493 ∨ m = 2147484141) (hb : b = decide (m = 493)) : Calls Tryz.prog 104 #[.int .u32 m] w fun e w' => e = .returned (.bool b) ∧ w' = w := by
  subst hb
  rcases h with rfl | rfl
  · go_enter Tryz.func104, Tryz.ntmps104
    go_wp2
    go_ret
    exact ⟨rfl, rfl⟩
  · go_enter Tryz.func104, Tryz.ntmps104
    go_wp2
    go_ret
    exact ⟨rfl, rfl⟩
set_option maxHeartbeats 1000000 in
theorem extBits_any (m : Int) (w : World) (h : m = 493 ∨ m = 2147484141) : Calls Tryz.prog 102 #[.int .u32 m] w fun e w' => e = .returned (.int .u32 493) ∧ w' = w := by
  rcases h with rfl | rfl
  · go_enter Tryz.func102, Tryz.ntmps102
    go_wp2
    go_ret
    exact ⟨rfl, rfl⟩
  · go_enter Tryz.func102, Tryz.ntmps102
    go_wp2
    go_ret
    exact ⟨rfl, rfl⟩
set_option maxHeartbeats 1000000 in
theorem unixT_any (a b c : Int) (w : World) : Calls Tryz.prog 103 #[.agg #[.int .i64 a, .int .i64 b, .int .i64 c]] w fun e w' => (∃ t : Int, e = .returned (.int .i64 t)) ∧ Below w.heap.size w w' := by
  go_enter Tryz.func103, Tryz.ntmps103
  go_wp2
  go_ret
  exact ⟨⟨_, rfl⟩, (Below.refl _ _).alloc (Nat.le_refl _) _⟩
set_option maxHeartbeats 1000000 in
theorem modTime_any (p fp : Nat) (r : RecE) (w : World) (hE : EntAt w p r (.pointer (some ⟨fp, 0, none⟩))) : Calls Tryz.prog 175 #[.pointer (some ⟨p, 0, none⟩)] w fun e w' => (∃ a b c : Int, e = .returned (.agg #[.int .i64 a, .int .i64 b, .int .i64 c])) ∧ Below w.heap.size w w' := by
  obtain ⟨a, b, c, ge, h1⟩ := hE
  have c3 : w.cell? ⟨p, 3, none⟩ = some (.int .i64 a) := by rw [cell_of_row _ _ _ _ _ _ h1]; rfl
  have c4 : w.cell? ⟨p, 4, none⟩ = some (.int .i64 b) := by rw [cell_of_row _ _ _ _ _ _ h1]; rfl
  have c5 : w.cell? ⟨p, 5, none⟩ = some (.int .i64 c) := by rw [cell_of_row _ _ _ _ _ _ h1]; rfl
  have hl := lt_of_block h1
  go_enter Tryz.func175, Tryz.ntmps175
  go_wp2
  go_returns
  exact ⟨⟨a, b, c, rfl⟩, (Below.refl _ _).alloc (Nat.le_refl _) _⟩
set_option maxHeartbeats 2000000 in
theorem mode_any (p fp : Nat) (r : RecE) (m : Int) (w : World) (hE : EntAt w p r (.pointer (some ⟨fp, 0, none⟩))) (hm : m = if r.dir then 2147484141 else 493) : Calls Tryz.prog 176 #[.pointer (some ⟨p, 0, none⟩)] w fun e w' => e = .returned (.int .u32 m) ∧ w' = w := by
  obtain ⟨_, _, ⟨ge, c18⟩, _⟩ := hE.cells
  have y7 := hE.full.2.2.1
  have HM := Lib.hid hm
  clear hE hm
  go_enter Tryz.func176, Tryz.ntmps176
  go_wp2
  go_loopw [16] (fun iv wr => iv = .int .i64 0 ∧ wr = w) (fun _ _ => 0)
  case atStart => exact ⟨rfl, rfl⟩
  case round =>
    obtain ⟨rfl, rfl⟩ := hrel
    cases hd : r.dir with
    | true =>
      rw [hd] at y7
      go_wp2
      go_ret
      refine ⟨?_, rfl⟩
      rw [HM.out, hd]; rfl
    | false =>
      rw [hd] at y7
      go_wp2
      go_loopw [38] (fun iv w2 => iv = .int .i64 0 ∧ w2 = wr) (fun _ _ => 0)
      case atStart => exact ⟨rfl, rfl⟩
      case round =>
        obtain ⟨rfl, rfl⟩ := hrel
        go_wp2
        go_ret
        refine ⟨?_, rfl⟩
        rw [HM.out, hd]; rfl

structure StatAt (w : World) (sp : Nat) : Prop where
  lt : sp < w.heap.size
  c7 : w.cell? ⟨sp, 7, none⟩ = some (.int .u32 0)
  c8 : w.cell? ⟨sp, 8, none⟩ = some (.int .u32 0)
  c9 : w.cell? ⟨sp, 9, none⟩ = some (.int .u32 0)
  c10 : w.cell? ⟨sp, 10, none⟩ = some (.int .u32 0)
  c11 : w.cell? ⟨sp, 11, none⟩ = some (.string ⟨#[]⟩)
set_option maxHeartbeats 4000000 in
set_option maxRecDepth 100000 in
theorem statT_any (p fp : Nat) (r : RecE) (w : World) (hE : EntAt w p r (.pointer (some ⟨fp, 0, none⟩))) : Calls Tryz.prog 180 #[.pointer (some ⟨p, 0, none⟩)] w fun e w' => ∃ sp, e = .returned (.pointer (some ⟨sp, 0, none⟩)) ∧ w.heap.size ≤ sp ∧ StatAt w' sp ∧ Below w.heap.size w w' := by
  obtain ⟨_, _, ⟨ge, c18⟩, _⟩ := hE.cells
  obtain ⟨a, b, c, ge2, h1⟩ := hE
  have hc := fun (k : Nat) => cell_of_row w p k _ _ _ h1
  have k0 : w.cell? ⟨p, 0, none⟩ = some (.int .u8 0) := by rw [cell_of_row _ _ _ _ _ _ h1]; rfl
  have k1 : w.cell? ⟨p, 1, none⟩ = some (.int .u32 r.ext) := by rw [cell_of_row _ _ _ _ _ _ h1]; rfl
  have k15 : w.cell? ⟨p, 15, none⟩ = some (.int .u16 1) := by rw [cell_of_row _ _ _ _ _ _ h1]; rfl
  have k6 : w.cell? ⟨p, 6, none⟩ = some (.bool false) := by rw [cell_of_row _ _ _ _ _ _ h1]; rfl
  have k8 : w.cell? ⟨p, 8, none⟩ = some (.bool false) := by rw [cell_of_row _ _ _ _ _ _ h1]; rfl
  have k9 : w.cell? ⟨p, 9, none⟩ = some (.bool false) := by rw [cell_of_row _ _ _ _ _ _ h1]; rfl
  have k10 : w.cell? ⟨p, 10, none⟩ = some (.bool false) := by rw [cell_of_row _ _ _ _ _ _ h1]; rfl
  have hl := lt_of_block h1
  clear hc
  go_enter Tryz.func180, Tryz.ntmps180
  go_upto_region 1 with (fail)
  go_cut [3] from 9 to 38 (fun t3 wx => ∃ sp, t3 = .pointer (some ⟨sp, 0, none⟩) ∧ w.heap.size ≤ sp ∧ StatAt wx sp ∧ Below w.heap.size w wx)
  case first =>
    go_still_tail 29, (by kernel_rfl)
    go_wp2_with fail
    go_meet
    exact ⟨w.heap.size, rfl, Nat.le_refl _, ⟨by show w.heap.size < (w.alloc _).heap.size; simp, new_cell w _ 255 7, new_cell w _ 255 8, new_cell w _ 255 9, new_cell w _ 255 10, new_cell w _ 255 11⟩, ((Below.refl _ _).alloc (Nat.le_refl _) _).drew⟩
  obtain ⟨sp, rfl, hsp, hst, hb⟩ := hcut
  obtain ⟨w1, rfl⟩ : ∃ w1 : World, w1 = wc := ⟨_, rfl⟩
  have f18 := (hb.cell (p := ⟨p, 18, none⟩) hl).trans c18
  have HST := Lib.hid hst
  have HB := Lib.hid hb
  clear hst hb k0 k1 k15 k6 k8 k9 k10 c18
  go_wp2
  go_loopw [44] (fun iv wr => iv = .int .i64 0 ∧ wr = w1) (fun _ _ => 0)
  case atStart => exact ⟨rfl, rfl⟩
  case round =>
    obtain ⟨rfl, rfl⟩ := hrel
    go_wp2
    go_ret
    exact ⟨sp, rfl, hsp, HST.out, HB.out⟩
set_option maxHeartbeats 1000000 in
theorem sys_any (p fp : Nat) (r : RecE) (w : World) (hE : EntAt w p r (.pointer (some ⟨fp, 0, none⟩))) : Calls Tryz.prog 178 #[.pointer (some ⟨p, 0, none⟩)] w fun e w' => ∃ sp, e = .returned (.iface 253 (.pointer (some ⟨sp, 0, none⟩))) ∧ w.heap.size ≤ sp ∧ StatAt w' sp ∧ Below w.heap.size w w' := by
  go_enter Tryz.func178, Tryz.ntmps178
  go_wp2_with (go_at_call 180; refine (statT_any p fp r w hE).mono ?_; rintro e w2 ⟨sp, rfl, h1, h2, h3⟩; have H2 := Lib.hid h2; have H3 := Lib.hid h3; clear h2 h3)
  go_ret
  exact ⟨sp, rfl, h1, H2.out, H3.out⟩
def lcells (l : LeafD) : List Value := [.string l.path, .string l.name, .bool l.dir, .bool false, .bool false, .int .u32 l.perm, .int .i64 l.size, .int .i64 l.time, .int .u32 0, .int .u32 0, .int .u32 0, .int .u32 0, .string ⟨#[]⟩, .string ⟨#[]⟩, .string l.data]
theorem setCell_same {w : World} {b o : Nat} {v : Value} (h : w.cell? ⟨b, o, none⟩ = some v) : w.setCell ⟨b, o, none⟩ v = w := by
  have hh : w.heap.modify b (fun | .cells c elem frozen => Obj.cells (c.setIfInBounds o v) elem frozen | x => x) = w.heap := by
    refine Array.ext_getElem? (fun j => ?_)
    rw [Array.getElem?_modify]
    split
    · rename_i e
      subst e
      simp only [World.cell?] at h
      cases hb : w.heap[b]? with
      | none => rfl
      | some x =>
        rw [hb] at h
        cases x with
        | cells c el fr =>
          simp at h
          have hc : c.setIfInBounds o v = c := by
            refine Array.ext_getElem? (fun k => ?_)
            rw [Array.getElem?_setIfInBounds]
            split
            · rename_i e; subst e
              have := (Array.getElem?_eq_some_iff.1 h).1
              rw [if_pos this, h]
            · rfl
          simp [hc]
        | _ => rfl
    · rfl
  unfold World.setCell
  simp only [Option.isSome_none, Bool.false_eq_true, if_false]
  exact congrArg (fun h => ({ w with heap := h } : World)) hh

end Go.Proofs.YtfppgplboomdbaaGreatDoor

namespace Go.Proofs.YtfppgplboomdbaaGreatDoor
open Go.RowKit

set_option maxHeartbeats 1000000 in
theorem validate_any (w : World) : Calls Tryz.prog 61 #[.int .i64 2048] w fun e w' => e = .returned .nilIface ∧ w' = w := by
  go_enter Tryz.func61, Tryz.ntmps61
  go_wp2
  go_ret
  exact ⟨rfl, rfl⟩
set_option maxHeartbeats 1000000 in
theorem joliet_nil (v : Value) (w : World) : Calls Tryz.prog 66 #[.pointer none, v] w fun e w' => e = .returned (.tuple #[.pointer none, .pointer none, .bool false]) ∧ w' = w := by
  go_enter Tryz.func66, Tryz.ntmps66
  go_wp2
  go_ret3
  exact ⟨rfl, rfl⟩
set_option maxHeartbeats 1000000 in
theorem label_any (fp pv : Nat) (vid : ByteArray) (w : World) (h1 : w.cell? ⟨fp, 7, none⟩ = some (.pointer (some ⟨pv, 0, none⟩))) (h2 : w.cell? ⟨pv, 1, none⟩ = some (.string vid)) : Calls Tryz.prog 50 #[.pointer (some ⟨fp, 0, none⟩)] w fun e w' => e = .returned (.string vid) ∧ w' = w := by
  go_enter Tryz.func50, Tryz.ntmps50
  go_wp2
  go_ret
  exact ⟨rfl, rfl⟩

theorem bs_at {s : ByteArray} {L : Bs} (h : s.data.toList = L) {i : Nat} (hi : i < s.size) {c : UInt8} (hc : L[i]? = some c) : s[i]'hi = c := by
  have e := Lib.Pa.at_eq s i hi
  rw [h, hc] at e
  exact (Option.some.inj e).symm
set_option maxHeartbeats 1000000 in
set_option maxRecDepth 100000 in
theorem trimmed_any (s : ByteArray) (L : Bs) (k : Nat) (w : World) (hs : s.size ≤ 1000000) (hL : s.data.toList = L ++ List.replicate k 32) (hl : L ≠ []) (hlast : L[L.length - 1]? ≠ some 32) : Calls Tryz.prog 11 #[.string s] w fun e w' => e = .returned (.string ⟨L.toArray⟩) ∧ w' = w := by
  have hll : 0 < L.length := List.length_pos_iff.2 hl
  have HLA := Lib.hid hlast
  have HL := Lib.hid hL
  clear hL hlast
  go_enter Tryz.func11, Tryz.ntmps11
  go_wp2
  go_loopw [0] (fun sv wr => ∃ (t : ByteArray) (j : Nat), sv = .string t ∧ t.size = L.length + j ∧ t.size ≤ 1000000 ∧ t.data.toList = L ++ List.replicate j 32 ∧ wr = w) (fun sv _ => match sv with | .string t => t.size | _ => 0)
  case atStart =>
    refine ⟨s, k, rfl, ?_, hs, HL.out, rfl⟩
    have h : s.size = s.data.toList.length := rfl
    rw [h, HL.out]; simp
  case round =>
    obtain ⟨t, j, rfl, hts, htb, htl, rfl⟩ := hrel
    have hte : t.toList = t.data.toList := by simp only [ByteArray.toList_eq]
    have hne : (t.toList == []) = false := by rw [hte, htl]; simp [hl]
    have hne2 : t.toList.isEmpty = false := by rw [hte, htl]; simp [hl]
    have hpos : 0 < t.size := by omega
    have hlt : t.size - 1 < t.size := by omega
    have HTL := Lib.hid htl
    have HTS := Lib.hid hts
    by_cases hj : j = 0
    · subst hj
      obtain ⟨c, hc⟩ : ∃ c, L[L.length - 1]? = some c := ⟨L[L.length - 1], List.getElem?_eq_getElem (by omega)⟩
      have hb : t[t.size - 1]'hlt = c := bs_at htl hlt (by rw [List.getElem?_append_left (by omega), hts]; exact hc)
      have hcn : ((c.toNat : Int) == 32) = false := by
        have h1 := Lib.Pa.beq_lit c 32
        have h2 : ((32 : UInt8).toNat : Int) = 32 := rfl
        rw [h2] at h1
        rw [h1]
        have : c ≠ 32 := fun h => HLA.out (by rw [hc, h])
        simpa using this
      rw [← hb] at hcn
      clear htl hts hte hb hc
      go_wp2
      go_ret
      refine ⟨?_, rfl⟩
      have : t = ⟨L.toArray⟩ := by
        apply ByteArray.ext
        apply Array.ext'
        simpa using HTL.out
      exact congrArg (fun t => Ending.returned (Value.string t)) this
    · have hsome : t.data.toList[t.size - 1]? = some 32 := by
        rw [htl, List.getElem?_append_right (by omega), List.getElem?_replicate, if_pos (by omega)]
      have hb : t[t.size - 1]'hlt = 32 := bs_at rfl hlt hsome
      have hcn : (((t[t.size - 1]'hlt).toNat : Int) == 32) = true := by rw [hb]; rfl
      clear htl hts hte hb hsome
      go_wp2
      have e1 : (t.extract 0 (t.size - 1)).size = t.size - 1 := by simp
      have htl := HTL.out
      have hts := HTS.out
      have e2 : (t.extract 0 (t.size - 1)).data.toList = L ++ List.replicate (j - 1) 32 := by
        have e3 : (t.extract 0 (t.size - 1)).data.toList = (t.data.toList).take (t.size - 1) := by
          simp only [ByteArray.data_extract, Array.toList_extract, List.extract_eq_take_drop, List.drop_zero, Nat.sub_zero]
        rw [e3, htl, List.take_append, List.take_of_length_le (by omega), List.take_replicate]
        congr 2
        omega
      refine ⟨⟨_, j - 1, rfl, by rw [e1]; omega, by rw [e1]; omega, e2, trivial⟩, ?_⟩
      show (t.extract 0 (t.size - 1)).size < t.size
      rw [e1]; omega

end Go.Proofs.YtfppgplboomdbaaGreatDoor
