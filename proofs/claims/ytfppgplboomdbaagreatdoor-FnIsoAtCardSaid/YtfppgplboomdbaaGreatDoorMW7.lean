/- Part of the proofs of laws.FnIsoTree and laws.FnIsoAt: lemmas and contracts of functions that the two laws reach, each under the hypotheses that its own statement names. -/
import Derived.Test.YtfppgplboomdbaaGreatDoorMPart24
namespace Go.Proofs.YtfppgplboomdbaaGreatDoor
open Go.RowKit

theorem Tryz.i38 : (Tryz.prog.info? 38).map (fun i => (i.zero.map fun z => z.cells.size, i.size, i.bytes)) = some (some 8, 8, 80) := by kernel_rfl
def fsC (xs : List FileD) : List Value := xs.flatMap fcells
theorem fcells_len (f : FileD) : (fcells f).length = 8 := rfl
theorem fsC_len (xs : List FileD) : (fsC xs).length = xs.length * 8 := by
  induction xs with
  | nil => rfl
  | cons a xs ih =>
    have e : fsC (a :: xs) = fcells a ++ fsC xs := rfl
    rw [e, List.length_append, ih, fcells_len, List.length_cons]; omega
theorem fsC_append (a b : List FileD) : fsC (a ++ b) = fsC a ++ fsC b := by simp [fsC]
theorem fsC_one (a : FileD) : fsC [a] = fcells a := by simp [fsC]
theorem fsC_get (xs : List FileD) (i k : Nat) (f : FileD) (hk : k < 8) (hl : xs[i]? = some f) : (fsC xs)[i * 8 + k]? = (fcells f)[k]? := by
  induction xs generalizing i with
  | nil => simp at hl
  | cons a xs ih =>
    have e : fsC (a :: xs) = fcells a ++ fsC xs := rfl
    rw [e]
    cases i with
    | zero =>
      simp at hl; subst hl
      rw [List.getElem?_append_left (by rw [fcells_len]; omega)]; simp
    | succ i =>
      rw [List.getElem?_append_right (by rw [fcells_len]; omega), fcells_len]
      have e2 : (i + 1) * 8 + k - 8 = i * 8 + k := by omega
      rw [e2]
      exact ih i (by simpa using hl)
theorem file_row {w : World} {B g n cap : Nat} {xs : List FileD} (h : OwnS w B 8 (.slice (some ⟨g, 0, none⟩) n cap) n (fsC xs)) {k : Nat} {f : FileD} (hl : xs[k]? = some f) : w.rangeAt g (k * 8) (fcells f) := fun j v hv => by
  have hj : j < 8 := by have := (List.getElem?_eq_some_iff.1 hv).1; rw [fcells_len] at this; exact this
  exact h.cell (by rw [fsC_get xs k j f hj hl]; exact hv)
theorem fcells_mem (f : FileD) : ∀ u ∈ fcells f, u.oneCell' = true := by
  intro u hu
  simp only [fcells, List.mem_cons, List.not_mem_nil, or_false] at hu
  rcases hu with rfl | rfl | rfl | rfl | rfl | rfl | rfl | rfl <;> rfl
set_option maxRecDepth 100000 in
theorem info38 (f : FileD) : (Tryz.prog.info? 38).map (·.size) = some (fcells f).toArray.size := rfl
/-- A file that may be picked. -/
def Pick (fs : List FileD) (f : FileD) : Prop := f.dir = false ∧ f.target.size = 0 ∧ ∃ j : Nat, fs[j]? = some f
def zeroF : FileD := ⟨⟨#[]⟩, false, ⟨#[]⟩, ⟨#[]⟩, 0, 0, 0, 0⟩
def PkPost (fs : List FileD) (w : World) (e : Ending) (w' : World) : Prop := ((∃ f, Pick fs f ∧ e = .returned (.tuple #[.agg (fcells f).toArray, .bool true])) ∨ e = .returned (.tuple #[.agg (fcells zeroF).toArray, .bool false])) ∧ Below w.heap.size w w'
set_option maxHeartbeats 8000000 in
set_option maxRecDepth 100000 in
theorem pickFile_any (p : Option Addr) (c : Nat) (fs : List FileD) (v : Int) (w : World) (hfs : FilesAt w w.heap.size p fs) (hn : fs.length ≤ 2147483647) (hv0 : 0 ≤ v) (hv1 : v ≤ 255) :
    Calls Tryz.prog 13 #[.slice p fs.length c, .int .u8 v] w fun e w' => PkPost fs w e w' := by
  have HF := Lib.hid hfs
  obtain ⟨i38, z38, hi38, hz38, hs38, hb38, hc38⟩ := info_parts3 Tryz.i38
  clear hfs
  generalize hN : fs.length = N at hn ⊢
  have HN := Lib.hid hN; clear hN
  go_enter Tryz.func13, Tryz.ntmps13
  go_upto_region 1 with (fail)
  generalize hw1 : w.alloc _ = w1
  have hth : w1.there w.heap.size 0 8 := by rw [← hw1]; exact there_alloc_new w _ _ _ rfl
  have hb1 : Below w.heap.size w w1 := by rw [← hw1]; exact (Below.refl _ _).alloc (Nat.le_refl _) _
  have hsz1 : w1.heap.size = w.heap.size + 1 := by rw [← hw1]; simp
  have HTH := Lib.hid hth
  have HB1 := Lib.hid hb1
  have HS1 := Lib.hid hsz1
  clear hth hb1 hsz1 hw1
  go_wp2_with (fail)
  go_loopw [6, 11] (fun lv iv wr => ∃ (k m cap : Nat) (ad : Option Addr) (xs : List FileD), k ≤ N ∧ iv = .int .i64 k ∧ lv = .slice ad m cap ∧ xs.length = m ∧ m ≤ k ∧ OwnS wr (w.heap.size + 1) 8 (.slice ad m cap) m (fsC xs) ∧ (∀ x ∈ xs, Pick fs x) ∧ Below (w.heap.size + 1) w1 wr) (fun _ iv _ => N - (intOf iv).toNat)
  case atStart => exact ⟨0, 0, 0, none, [], Nat.zero_le _, rfl, rfl, rfl, Nat.le_refl _, OwnS.nil _ _ _, (fun x hx => by cases hx), Below.refl _ _⟩
  case round =>
    obtain ⟨k, m, cap, ad, xs, hk, rfl, rfl, hxl, hmk, hown, hpk, hbel⟩ := hrel
    obtain ⟨w0, rfl⟩ : ∃ w0 : World, w0 = wr := ⟨_, rfl⟩
    have HXL := Lib.hid hxl
    have HOWN := Lib.hid hown
    have HPK := Lib.hid hpk
    have HBEL := Lib.hid hbel
    have hsz : w.heap.size + 1 ≤ w0.heap.size := by have := hbel.size; rw [HS1.out] at this; exact this
    have hb0 : Below w.heap.size w w0 := HB1.out.trans (hbel.mono (Nat.le_succ _))
    have HB0 := Lib.hid hb0
    clear hxl hown hpk hbel
    by_cases hlt : k < N
    · obtain ⟨gf, of, rfl, hgf, hfc⟩ := HF.out (by rw [HN.out]; omega)
      obtain ⟨f, hf⟩ : ∃ f, fs[k]? = some f := ⟨fs[k]'(by rw [HN.out]; exact hlt), List.getElem?_eq_getElem _⟩
      have HFC := Lib.hid (rangeAt_below (hfc k f hf) hb0 hgf)
      have Hf := Lib.hid hf
      clear hfc hf hb0
      go_upto_region 5 with (first
        | (refine wpList_load_mid rfl 38 (.tmp 13) rfl gf (of + k * 8) rfl (fcells f) _ HFC.out Tryz.underlying38 rfl rfl ?_)
        | (refine wpList_store_fresh rfl 38 (.tmp 8) (.tmp 14) rfl _ 38 (fcells f).toArray rfl rfl rfl rfl (fcells_one f) ?_
           intro w2 hF2
           have HF2 := Lib.hid hF2; clear hF2))
      have hs2 : w0.heap.size < w2.heap.size := by rw [HF2.out.size]; exact Nat.lt_succ_self _
      have hrow : w2.rangeAt w0.heap.size 0 (fcells f) := HF2.out.range
      have hd1 : w2.cell? ⟨w0.heap.size, 1, none⟩ = some (.bool f.dir) := by have h := hrow 1 _ rfl; rwa [Nat.zero_add] at h
      have hd3 : w2.cell? ⟨w0.heap.size, 3, none⟩ = some (.string f.target) := by have h := hrow 3 _ rfl; rwa [Nat.zero_add] at h
      have HROW := Lib.hid hrow
      have HB2 := Lib.hid (HBEL.out.trans (HF2.out.below.mono hsz))
      have HOWN2 := Lib.hid (HOWN.out.below HF2.out.below)
      obtain ⟨bd, hbd⟩ : ∃ bd, f.dir = bd := ⟨_, rfl⟩
      rw [hbd] at hd1
      have HBD := Lib.hid hbd
      clear hrow hbd
      cases bd with
      | true =>
        go_wp2_with (fail)
        exact ⟨⟨k + 1, m, cap, ad, xs, hlt, by simp, rfl, HXL.out, by omega, HOWN2.out, HPK.out, HB2.out⟩, by simp [intOf]; omega⟩
      | false =>
        by_cases hT : f.target.size = 0
        · obtain ⟨t1, t2⟩ := str_empty hT
          have hrl : w2.rangeAt w0.heap.size 0 [.string f.path, .bool f.dir, .string f.data, .string f.target, .int .u32 f.perm, .int .u32 f.uid, .int .u32 f.gid, .int .i64 f.time] := HROW.out
          have HRL := Lib.hid hrl
          clear hrl
          go_wp2_with (first
            | (refine wpList_load_mid rfl 38 (.tmp 8) rfl w0.heap.size 0 rfl _ _ HRL.out Tryz.underlying38 rfl rfl ?_)
            | (refine wpList_append_ownS' rfl (.tmp 23) (.tmp 25) 22 rfl (w.heap.size + 1) 38 i38 z38 8 80 Tryz.underlying22 hi38 hz38 hs38 hb38 hc38 (by decide) (.slice ad m cap) m _ rfl (HOWN2.out.alloc _) ⟨w2.heap.size, 0, none⟩ 1 1 (fcells f) rfl rfl (row_at w2 _ 38) (fcells_mem f) (by omega) (by unfold maxLen; omega) (by omega) (by simp; omega) ?_
               intro v5 w5 hA
               have HA := Lib.hid hA
               clear hA))
          obtain ⟨ad5, cap5, e5⟩ := HA.out.own.slice
          have hown5 := HA.out.own
          rw [e5, ← fsC_one, ← fsC_append] at hown5
          exact ⟨⟨k + 1, m + 1, cap5, ad5, xs ++ [f], hlt, by simp, e5, by rw [List.length_append, HXL.out]; rfl, by omega, hown5, (fun x hx => by
            rw [List.mem_append, List.mem_singleton] at hx
            rcases hx with hx | rfl
            · exact HPK.out x hx
            · exact ⟨HBD.out, hT, k, Hf.out⟩), (HB2.out.alloc (by omega) _).trans HA.out.below⟩, by simp [intOf]; omega⟩
        · obtain ⟨t1, t2⟩ := str_some hT
          go_wp2_with (fail)
          exact ⟨⟨k + 1, m, cap, ad, xs, hlt, by simp, rfl, HXL.out, by omega, HOWN2.out, HPK.out, HB2.out⟩, by simp [intOf]; omega⟩
    · have hth0 : w0.there w.heap.size 0 8 := there_same (w := w1) HTH.out (HBEL.out.block _ (Nat.lt_succ_self _))
      have HTH0 := Lib.hid hth0
      clear hth0 hb0
      by_cases hm0 : m = 0
      · subst hm0
        go_wp2_with (first
          | (refine wpList_store_row rfl 38 (.tmp 4) (.tmp 31) rfl w.heap.size (fcells zeroF).toArray rfl rfl HTH0.out (info38 zeroF) (fcells_one zeroF) ?_
             intro w9 hR9
             have HR9 := Lib.hid hR9
             clear hR9))
        have e := fun (k : Nat) (v : Value) (h : (fcells zeroF)[k]? = some v) => HR9.out.range k v h
        have e0 := e 0 _ rfl
        have e1 := e 1 _ rfl
        have e2 := e 2 _ rfl
        have e3 := e 3 _ rfl
        have e4 := e 4 _ rfl
        have e5 := e 5 _ rfl
        have e6 := e 6 _ rfl
        have e7 := e 7 _ rfl
        simp only [Nat.zero_add] at e0 e1 e2 e3 e4 e5 e6 e7
        refine bodyPost_ret (v := .tuple #[.agg (fcells zeroF).toArray, .bool false]) (by simp [results, Tryz.results13, go_sem, fcells, e0, e1, e2, e3, e4, e5, e6, e7]) rfl ?_
        exact ⟨.inr rfl, HR9.out.below HB0.out (Nat.le_refl _)⟩
      · obtain ⟨g, cap2, e2⟩ := HOWN.out.pos (by omega : 0 < m)
        injection e2 with e3 e4 e5
        subst e3
        obtain ⟨q, hq⟩ : ∃ q : Nat, v % (m : Int) = (q : Int) := ⟨(v % (m : Int)).toNat, by have := Int.emod_nonneg v (by omega : (m : Int) ≠ 0); omega⟩
        have hqm : q < m := by have := Int.emod_lt_of_pos v (by omega : (0 : Int) < (m : Int)); omega
        obtain ⟨x, hx⟩ : ∃ x, xs[q]? = some x := ⟨xs[q]'(by rw [HXL.out]; exact hqm), List.getElem?_eq_getElem _⟩
        have hrx := file_row HOWN.out hx
        have HRX := Lib.hid hrx
        have HX := Lib.hid (HPK.out x (List.mem_of_getElem? hx))
        have hmz : ¬ (m : Int) = 0 := by omega
        have hmp : 0 < (m : Int) := by omega
        clear hrx hx e4 e5 cap2
        go_wp2_with (first
          | (refine wpList_load_mid rfl 38 (.tmp 38) rfl g (q * 8) rfl (fcells x) _ HRX.out Tryz.underlying38 rfl rfl ?_)
          | (refine wpList_store_row rfl 38 (.tmp 4) (.tmp 39) rfl w.heap.size (fcells x).toArray rfl rfl HTH0.out (info38 x) (fcells_one x) ?_
             intro w9 hR9
             have HR9 := Lib.hid hR9
             clear hR9))
        have e := fun (k : Nat) (v : Value) (h : (fcells x)[k]? = some v) => HR9.out.range k v h
        have e0 := e 0 _ rfl
        have e1 := e 1 _ rfl
        have e2 := e 2 _ rfl
        have e3 := e 3 _ rfl
        have e4 := e 4 _ rfl
        have e5 := e 5 _ rfl
        have e6 := e 6 _ rfl
        have e7 := e 7 _ rfl
        simp only [Nat.zero_add] at e0 e1 e2 e3 e4 e5 e6 e7
        refine bodyPost_ret (v := .tuple #[.agg (fcells x).toArray, .bool true]) (by simp [results, Tryz.results13, go_sem, fcells, e0, e1, e2, e3, e4, e5, e6, e7]) rfl ?_
        exact ⟨.inl ⟨x, HX.out, rfl⟩, HR9.out.below HB0.out (Nat.le_refl _)⟩

end Go.Proofs.YtfppgplboomdbaaGreatDoor
