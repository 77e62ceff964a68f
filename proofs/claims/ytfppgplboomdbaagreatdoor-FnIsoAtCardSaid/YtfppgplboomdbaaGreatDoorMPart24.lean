/- Part of the proofs of laws.FnIsoTree and laws.FnIsoAt: lemmas and contracts of functions that the two laws reach, each under the hypotheses that its own statement names. -/
import Derived.Test.YtfppgplboomdbaaGreatDoorMW4
import Derived.Test.YtfppgplboomdbaaGreatDoorMPart17
import Derived.Deep.QuietTactic
import Derived.BigQuiet
namespace Go.Proofs.YtfppgplboomdbaaGreatDoor
open Go.RowKit

def ApPost (fs : List FileD) (w : World) (e : Ending) (w' : World) : Prop := ∃ b, e = .returned (.bool b) ∧ (b = true → AP fs fs.length) ∧ Below w.heap.size w w'
theorem dirL_zero (fs : List FileD) : dirL fs 0 = [] := by simp [dirL]
set_option maxHeartbeats 8000000 in
set_option maxRecDepth 100000 in
theorem apartDirs_any (p : Option Addr) (c : Nat) (fs : List FileD) (w : World) (hfs : FilesAt w w.heap.size p fs) (hn : fs.length ≤ 2147483647) (hsm : ∀ (k : Nat) (f : FileD), fs[k]? = some f → FSm f) :
    Calls Tryz.prog 7 #[.slice p fs.length c] w fun e w' => ApPost fs w e w' := by
  have HF := Lib.hid hfs
  have HP := Lib.hid hsm
  clear hfs hsm
  have hmm := @run_makeMap Tryz.prog
  have hs1 := SeenAt.new w
  have HS1 := Lib.hid hs1
  have HB1 := Lib.hid ((Below.refl w.heap.size w).alloc (Nat.le_refl _) (.map #[] 0))
  clear hs1
  generalize hN : fs.length = N at hn ⊢
  have HN := Lib.hid hN; clear hN
  go_enter Tryz.func7, Tryz.ntmps7
  go_wp2_with (fail)
  clear hmm
  go_loopw [11] (fun iv wr => ∃ (k m : Nat), k ≤ N ∧ iv = .int .i64 k ∧ m ≤ k ∧ AP fs k ∧ SeenAt wr w.heap.size m (dirL fs k) ∧ Below w.heap.size w wr) (fun iv _ => N - (intOf iv).toNat)
  case atStart => exact ⟨0, 0, Nat.zero_le _, rfl, Nat.le_refl _, AP.start fs, by rw [dirL_zero]; exact HS1.out, HB1.out⟩
  case round =>
    obtain ⟨k, m, hk, rfl, hmk, hap, hseen, hbel⟩ := hrel
    obtain ⟨w0, rfl⟩ : ∃ w0 : World, w0 = wr := ⟨_, rfl⟩
    have HAP := Lib.hid hap
    have HSEEN := Lib.hid hseen
    have HB := Lib.hid hbel
    have hsz := hbel.size
    have hmlt := hseen.lt
    clear hap hseen HS1 HB1
    by_cases hlt : k < N
    · obtain ⟨gf, of, rfl, hgf, hfc⟩ := HF.out (by rw [HN.out]; omega)
      obtain ⟨f, hf⟩ : ∃ f, fs[k]? = some f := ⟨fs[k]'(by rw [HN.out]; exact hlt), List.getElem?_eq_getElem _⟩
      have HFC := Lib.hid (rangeAt_below (hfc k f hf) hbel hgf)
      have Hf := Lib.hid hf
      obtain ⟨hp1, hp2, hp3⟩ := HP.out k f hf
      obtain ⟨ps, hps⟩ : ∃ ps, Lib.Pa.els f.path.data.toList = ps := ⟨_, rfl⟩
      have HPS := Lib.hid hps
      obtain ⟨M, hM⟩ : ∃ M, ps.length = M := ⟨_, rfl⟩
      have HM := Lib.hid hM
      have hM1 : M ≤ f.path.size + 1 := by have := els_len f.path.data.toList; rw [hps, hM] at this; exact this
      have hM0 : 0 < M := by have := List.length_pos_iff.2 (els_ne f.path.data.toList); rw [hps, hM] at this; exact this
      obtain ⟨s, hs⟩ : ∃ s, ps[M - 1]? = some s := ⟨ps[M - 1]'(by rw [hM]; omega), List.getElem?_eq_getElem _⟩
      have hlast : lastP f = s := by
        unfold lastP
        rw [hps, List.getLast?_eq_getElem?, hM, hs]; rfl
      obtain ⟨S, hS⟩ : ∃ S : ByteArray, (⟨s.toArray⟩ : ByteArray) = S := ⟨_, rfl⟩
      have hSs : S.data.toList = lastP f := by rw [hlast, ← hS]
      have hSl : S.size ≤ 2147483647 := by
        have h1 := els_mem_len f.path.data.toList s (by rw [hps]; exact List.mem_of_getElem? hs)
        have h2 : S.size = S.data.toList.length := rfl
        rw [h2, hSs, hlast]
        have h3 : f.path.data.toList.length = f.path.size := rfl
        omega
      have HSs := Lib.hid hSs
      have Hs := Lib.hid hs
      have HS := Lib.hid hS
      clear hfc hf hbel hps hM hs hlast hS hSs
      go_upto_region 6 with (first
        | (refine wpList_load_mid rfl 38 (.tmp 13) rfl gf (of + k * 8) rfl (fcells f) _ HFC.out Tryz.underlying38 rfl rfl ?_)
        | (refine wpList_store_fresh rfl 38 (.tmp 5) (.tmp 14) rfl _ 38 (fcells f).toArray rfl rfl rfl rfl (fcells_one f) ?_
           intro w1 hF1
           have hF10 := hF1.range 0 _ rfl
           have HF1 := Lib.hid hF1; clear hF1)
        | (go_at_call 16
           refine (parts_any f.path w1 hp1).mono ?_
           rintro e w2 ⟨⟨v, rfl, hown⟩, hb2⟩
           rw [HPS.out, HM.out] at hown
           have HOWN := Lib.hid hown
           have HB2 := Lib.hid hb2
           clear hown hb2))
      clear hF10
      obtain ⟨g, cap, rfl⟩ := HOWN.out.pos hM0
      have hs1 : w1.heap.size = w0.heap.size + 1 := HF1.out.size
      have hs2 := HB2.out.size
      have hF2 : w2.rangeAt w0.heap.size 0 (fcells f) := rangeAt_below HF1.out.range HB2.out (by omega)
      have hd1 : w2.cell? ⟨w0.heap.size, 1, none⟩ = some (.bool f.dir) := by have h := hF2 1 _ rfl; rwa [Nat.zero_add] at h
      have hcell : w2.cell? ⟨g, M - 1, none⟩ = some (.string S) := by
        rw [← HS.out]
        exact HOWN.out.cell (by rw [List.getElem?_map, Hs.out]; rfl)
      have hb02 : Below w0.heap.size w0 w2 := HF1.out.below.trans (HB2.out.mono (by omega))
      have hseen2 := HSEEN.out.below hb02
      obtain ⟨y, hrun, h1⟩ := hseen2.at S (by unfold maxLen; omega)
      obtain ⟨w3, hput, hs3, ht3⟩ := hseen2.put S (by unfold maxLen; omega) (by unfold maxLen; omega) true
      have hb3 : Below w.heap.size w w3 := ht3.below (HB.out.trans (hb02.mono hsz)) (Nat.le_refl _)
      have HBL2 := Lib.hid (HB.out.trans (hb02.mono hsz))
      have HB3 := Lib.hid hb3
      have HS3 := Lib.hid hs3
      have HSEEN2 := Lib.hid hseen2
      have H1 := Lib.hid h1
      have hmw : ((M : Int) - 1).toNat = M - 1 := by omega
      have hm1 : (0 : Int) ≤ (M : Int) - 1 := by omega
      have hm2 : (M : Int) - 1 < (M : Int) := by omega
      obtain ⟨bd, hbd⟩ : ∃ bd, f.dir = bd := ⟨_, rfl⟩
      rw [hbd] at hd1
      have HBD := Lib.hid hbd
      clear hbd hb3 hs3 ht3 hb02 hseen2 hF2 h1 hs1 hs2
      cases bd with
      | false =>
        go_wp2_with (fail)
        refine ⟨⟨k + 1, m, by omega, by simp, by omega, HAP.out.file Hf.out HBD.out, HSEEN2.out.iff (fun q => ?_), HBL2.out⟩, by simp [intOf]; omega⟩
        rw [dirL_next Hf.out, HBD.out]; simp
      | true =>
        cases y with
        | true =>
          go_wp2_with (fail)
          go_ret
          exact ⟨false, rfl, (fun h => by cases h), HBL2.out⟩
        | false =>
          go_wp2_with (fail)
          refine ⟨⟨k + 1, m + 1, by omega, by simp, by omega, HAP.out.dir Hf.out (fun b hb => ?_), HS3.out.iff (fun q => ?_), HB3.out⟩, by simp [intOf]; omega⟩
          · have h2 := H1.out rfl b
            rw [HSs.out] at h2
            exact dirL_miss (h2 hb)
          · rw [dirL_next Hf.out, HBD.out, HSs.out]
            simp [or_comm]
    · go_wp2_with (fail)
      go_ret
      have e : k = fs.length := by rw [HN.out]; omega
      have h := HAP.out
      rw [e] at h
      exact ⟨true, rfl, (fun _ => h), HB.out⟩

end Go.Proofs.YtfppgplboomdbaaGreatDoor

namespace Go.Proofs.YtfppgplboomdbaaGreatDoor
open Go.RowKit

theorem wpList_store_row {P : Program} {ops : Array Oper} {rest : List Oper} {op : Oper} {a : Act} {w : World} {Q : Exit → Act → World → Prop} (hgd : op.guard = none) (ty : TypeId) (x y : Operand) (ho : op.op = .store ty x y)
    (b : Nat) (cells : Array Value) (hx : a.eval x = .pointer (some ⟨b, 0, none⟩)) (hy : a.eval y = .agg cells)
    (ht : w.there b 0 cells.size) (hi : (P.info? ty).map (·.size) = some cells.size) (h1 : cells.all (·.oneCell') = true)
    (h : ∀ w', RowLeft w b cells.toList w' → wpList P ops Q rest (a.put op.dst undef) w') : wpList P ops Q (op :: rest) a w :=
  wpList_store_mid hgd ty x y ho b 0 cells hx hy ht hi h1 (h _ ⟨World.rangeAt_setCells_same _ _ _ _ (by simpa using ht), fun k hk => setCells_block _ _ _ _ _ hk, setCells_size _ _ _ _, setCells_rest _ _ _ _⟩)
theorem leaf_row {w : World} {B g n cap : Nat} {ls : List LeafD} (h : OwnS w B 15 (.slice (some ⟨g, 0, none⟩) n cap) n (lsC ls)) {k : Nat} {l : LeafD} (hl : ls[k]? = some l) : w.rangeAt g (k * 15) (lcells l) := fun j v hv => by
  have hj : j < 15 := by have := (List.getElem?_eq_some_iff.1 hv).1; rw [lcells_len] at this; exact this
  exact h.cell (by rw [lsC_get ls k j l hj hl]; exact hv)
theorem lcells_all (l : LeafD) : (lcells l).toArray.all (·.oneCell') = true := by simp [lcells, Value.oneCell']
set_option maxRecDepth 100000 in
theorem info52 (l : LeafD) : (Tryz.prog.info? 52).map (·.size) = some (lcells l).toArray.size := rfl
def Z52 : Array Value := (lcells ⟨⟨#[]⟩, ⟨#[]⟩, false, 0, 0, 0, ⟨#[]⟩⟩).toArray
def LfPost (ls : List LeafD) (p : ByteArray) (w : World) (e : Ending) (w' : World) : Prop := ∃ (j : Nat) (l : LeafD), ls[j]? = some l ∧ l.path = p ∧ e = .returned (.tuple #[.agg (lcells l).toArray, .bool true]) ∧ Below w.heap.size w w'
set_option maxHeartbeats 4000000 in
set_option maxRecDepth 100000 in
theorem leafOf_any (g n cap B : Nat) (ls : List LeafD) (p : ByteArray) (w : World) (hown : OwnS w B 15 (.slice (some ⟨g, 0, none⟩) n cap) n (lsC ls)) (hn : ls.length = n) (hex : ∃ (j : Nat) (l : LeafD), ls[j]? = some l ∧ l.path = p) (hlen : n ≤ 1000) :
    Calls Tryz.prog 30 #[.slice (some ⟨g, 0, none⟩) n cap, .string p] w fun e w' => LfPost ls p w e w' := by
  have HO := Lib.hid hown
  have HE := Lib.hid hex
  have HN := Lib.hid hn
  have hglt := hown.lt.1
  clear hown hex hn
  go_enter Tryz.func30, Tryz.ntmps30
  go_upto_region 1 with (fail)
  generalize hw1 : w.alloc _ = w1
  have hth : w1.there w.heap.size 0 15 := by rw [← hw1]; exact there_alloc_new w _ _ _ rfl
  have hb1 : Below w.heap.size w w1 := by rw [← hw1]; exact (Below.refl _ _).alloc (Nat.le_refl _) _
  have hsz1 : w1.heap.size = w.heap.size + 1 := by rw [← hw1]; simp
  have HTH := Lib.hid hth
  have HB1 := Lib.hid hb1
  have HS1 := Lib.hid hsz1
  clear hth hb1 hsz1 hw1
  go_wp2_with (fail)
  go_loopw [10] (fun iv wr => ∃ k : Nat, k ≤ n ∧ iv = .int .i64 k ∧ (∀ (j : Nat) (l : LeafD), j < k → ls[j]? = some l → l.path ≠ p) ∧ Below (w.heap.size + 1) w1 wr) (fun iv _ => n - (intOf iv).toNat)
  case atStart => exact ⟨0, Nat.zero_le _, rfl, fun j l h => by omega, Below.refl _ _⟩
  case round =>
    obtain ⟨k, hk, rfl, hno, hbel⟩ := hrel
    obtain ⟨w0, rfl⟩ : ∃ w0 : World, w0 = wr := ⟨_, rfl⟩
    have HNO := Lib.hid hno
    have HBEL := Lib.hid hbel
    have hsz : w.heap.size + 1 ≤ w0.heap.size := by have := hbel.size; rw [HS1.out] at this; exact this
    clear hno hbel
    by_cases hlt : k < n
    · obtain ⟨l, hl⟩ : ∃ l, ls[k]? = some l := ⟨ls[k]'(by rw [HN.out]; exact hlt), List.getElem?_eq_getElem _⟩
      have hb0 : Below w.heap.size w w0 := HB1.out.trans (HBEL.out.mono (Nat.le_succ _))
      have hcc : w0.rangeAt g (k * 15) (lcells l) := rangeAt_below (leaf_row HO.out hl) hb0 hglt
      have HC := Lib.hid hcc
      have Hl := Lib.hid hl
      have HB0 := Lib.hid hb0
      clear hcc hl hb0
      go_upto_region 4 with (first
        | (refine wpList_load_mid rfl 52 (.tmp 12) rfl g (k * 15) rfl (lcells l) _ HC.out Tryz.underlying52 rfl rfl ?_)
        | (refine wpList_store_fresh rfl 52 (.tmp 7) (.tmp 13) rfl _ 52 (lcells l).toArray rfl rfl rfl (info52 l) (lcells_all l) ?_
           intro w2 hF
           have hF0 := hF.range 0 _ rfl
           have HF := Lib.hid hF; clear hF))
      have hs2 : w2.heap.size = w0.heap.size + 1 := HF.out.size
      have hth2 : w2.there w.heap.size 0 (lcells l).toArray.size := by
        refine there_same (w := w1) HTH.out ?_
        exact (HF.out.below.block _ (by omega)).trans (HBEL.out.block _ (Nat.lt_succ_self _))
      have HTH2 := Lib.hid hth2
      have hb2 : Below w.heap.size w w2 := HB0.out.trans (HF.out.below.mono (by omega))
      have HB2 := Lib.hid hb2
      have hb12 : Below (w.heap.size + 1) w1 w2 := HBEL.out.trans (HF.out.below.mono hsz)
      have HB12 := Lib.hid hb12
      have HS2 := Lib.hid hs2
      have hrow : w2.rangeAt w0.heap.size 0 (lcells l) := HF.out.range
      have HROW := Lib.hid hrow
      clear hth2 hb2 hb12 hs2 hrow
      by_cases hp : l.path = p
      · have hpe : (l.path.toList == p.toList) = true := by rw [hp]; simp
        have hpe2 : (l.path.toList = p.toList) := by rw [hp]
        have HP := Lib.hid hp
        clear hp
        go_wp2_with (first
          | (refine wpList_load_mid rfl 52 (.tmp 7) rfl w0.heap.size 0 rfl (lcells l) _ HROW.out Tryz.underlying52 rfl rfl ?_)
          | (refine wpList_store_row rfl 52 (.tmp 4) (.tmp 18) rfl w.heap.size (lcells l).toArray rfl rfl HTH2.out (info52 l) (lcells_all l) ?_
             intro w9 hR9
             have HR9 := Lib.hid hR9
             clear hR9))
        have e := fun (k : Nat) (v : Value) (h : (lcells l)[k]? = some v) => HR9.out.range k v h
        have e0 := e 0 _ rfl
        have e1 := e 1 _ rfl
        have e2 := e 2 _ rfl
        have e3 := e 3 _ rfl
        have e4 := e 4 _ rfl
        have e5 := e 5 _ rfl
        have e6 := e 6 _ rfl
        have e7 := e 7 _ rfl
        have e8 := e 8 _ rfl
        have e9 := e 9 _ rfl
        have e10 := e 10 _ rfl
        have e11 := e 11 _ rfl
        have e12 := e 12 _ rfl
        have e13 := e 13 _ rfl
        have e14 := e 14 _ rfl
        simp only [Nat.zero_add] at e0 e1 e2 e3 e4 e5 e6 e7 e8 e9 e10 e11 e12 e13 e14
        refine bodyPost_ret (v := .tuple #[.agg (lcells l).toArray, .bool true]) (by simp [results, Tryz.results30, go_sem, lcells, e0, e1, e2, e3, e4, e5, e6, e7, e8, e9, e10, e11, e12, e13, e14]) rfl ?_
        exact ⟨k, l, Hl.out, HP.out, rfl, HR9.out.below HB2.out (Nat.le_refl _)⟩
      · have hpe : (l.path.toList == p.toList) = false := by
          simp only [ByteArray.toList_eq]
          simpa using fun e => hp (ByteArray.ext (Array.ext' e))
        go_wp2_with (fail)
        refine ⟨⟨k + 1, hlt, by simp, fun j l2 hj h2 => ?_, HB12.out⟩, by simp [intOf]; omega⟩
        by_cases e : j = k
        · subst e
          rw [Hl.out] at h2
          cases h2
          exact hp
        · exact HNO.out j l2 (by omega) h2
    · exfalso
      obtain ⟨j, l, hj, hlp⟩ := HE.out
      have := (List.getElem?_eq_some_iff.1 hj).1
      rw [HN.out] at this
      exact HNO.out j l (by omega) hj hlp

def StPost (w : World) (e : Ending) (w' : World) : Prop := e = .returned (.bool true) ∧ Below w.heap.size w w'
/-- What sameTree asks of the leaves. -/
structure Same (fs : List FileD) (ls : List LeafD) : Prop where
  len : ls.length = fs.length
  few : fs.length ≤ 40
  there : ∀ (k : Nat) (f : FileD), fs[k]? = some f → ∃ (j : Nat) (l : LeafD), ls[j]? = some l ∧ l.path = f.path
  same : ∀ (k : Nat) (f : FileD), fs[k]? = some f → ∀ (j : Nat) (l : LeafD), ls[j]? = some l → l.path = f.path → l.name.data.toList = nameOf f ∧ l.dir = f.dir ∧ (f.dir = false → l.data = f.data ∧ l.size = f.data.size)
  noT : ∀ (k : Nat) (f : FileD), fs[k]? = some f → f.target.size = 0
  last : ∀ (k : Nat) (f : FileD), fs[k]? = some f → ∃ m, (Lib.Pa.els f.path.data.toList).length = m + 1 ∧ (Lib.Pa.els f.path.data.toList)[m]? = some (nameOf f)
set_option maxHeartbeats 8000000 in
set_option maxRecDepth 100000 in
theorem sameTree_any (p ad : Option Addr) (c cap B : Nat) (fs : List FileD) (ls : List LeafD) (n : Nat) (w : World) (hfs : FilesAt w w.heap.size p fs) (hown : OwnS w B 15 (.slice ad n cap) n (lsC ls)) (hn : ls.length = n) (hS : Same fs ls) (hsm : ∀ (k : Nat) (f : FileD), fs[k]? = some f → FSm f) :
    Calls Tryz.prog 12 #[.slice p fs.length c, .slice ad n cap] w fun e w' => StPost w e w' := by
  have HF := Lib.hid hfs
  have HP := Lib.hid hsm
  have HO := Lib.hid hown
  have HLN := Lib.hid hn
  have HS := Lib.hid hS
  have hlen := hS.len
  have hfew := hS.few
  rw [hn] at hlen
  clear hfs hsm hown hn hS
  rw [← hlen] at hfew ⊢
  have HLE := Lib.hid hlen
  clear hlen
  go_enter Tryz.func12, Tryz.ntmps12
  go_wp2_with (fail)
  go_loopw [17] (fun iv wr => ∃ k : Nat, k ≤ n ∧ iv = .int .i64 k ∧ Below w.heap.size w wr) (fun iv _ => n - (intOf iv).toNat)
  case atStart => exact ⟨0, Nat.zero_le _, rfl, Below.refl _ _⟩
  case round =>
    obtain ⟨k, hk, rfl, hbel⟩ := hrel
    obtain ⟨w0, rfl⟩ : ∃ w0 : World, w0 = wr := ⟨_, rfl⟩
    have HB := Lib.hid hbel
    have hsz := hbel.size
    by_cases hlt : k < n
    · obtain ⟨g, rfl⟩ : ∃ g, ad = some ⟨g, 0, none⟩ := by
        obtain ⟨g, cap', e⟩ := HO.out.pos (by omega)
        injection e with e1
        exact ⟨g, e1⟩
      obtain ⟨gf, of, rfl, hgf, hfc⟩ := HF.out (by rw [← HLE.out]; omega)
      obtain ⟨f, hf⟩ : ∃ f, fs[k]? = some f := ⟨fs[k]'(by rw [← HLE.out]; exact hlt), List.getElem?_eq_getElem _⟩
      have HFC := Lib.hid (rangeAt_below (hfc k f hf) hbel hgf)
      have Hf := Lib.hid hf
      obtain ⟨hp1, hp2, hp3⟩ := HP.out k f hf
      obtain ⟨M, hM, hlast⟩ := HS.out.last k f hf
      have hM1 : M + 1 ≤ f.path.size + 1 := by have := els_len f.path.data.toList; rw [hM] at this; exact this
      have HM := Lib.hid hM
      have HL := Lib.hid hlast
      have hT := HS.out.noT k f hf
      obtain ⟨t1, t2⟩ := str_empty hT
      have HSA := Lib.hid (HS.out.same k f hf)
      have HTE := Lib.hid (HS.out.there k f hf)
      clear hfc hf hbel hM hlast hT
      go_upto_region 6 with (first
        | (refine wpList_load_mid rfl 38 (.tmp 19) rfl gf (of + k * 8) rfl (fcells f) _ HFC.out Tryz.underlying38 rfl rfl ?_)
        | (refine wpList_store_fresh rfl 38 (.tmp 6) (.tmp 20) rfl _ 38 (fcells f).toArray rfl rfl rfl rfl (fcells_one f) ?_
           intro w1 hF1
           have hF10 := hF1.range 0 _ rfl
           have HF1 := Lib.hid hF1; clear hF1))
      have hs1 : w1.heap.size = w0.heap.size + 1 := HF1.out.size
      have hb01 : Below w0.heap.size w0 w1 := HF1.out.below
      have HO1 := Lib.hid ((HO.out.below HB.out).below hb01)
      have HB01 := Lib.hid hb01
      clear hb01
      go_upto_region 7 with (first
        | (go_at_call 30
           refine (leafOf_any g n cap B ls f.path w1 HO1.out HLN.out HTE.out (by omega)).mono ?_
           rintro e w2 ⟨j, l, hj, hl, rfl, hb2⟩
           have hlf := HSA.out j l hj hl
           have HLF := Lib.hid hlf
           have HB2 := Lib.hid hb2
           clear hj hl hlf hb2)
        | (refine wpList_store_fresh rfl 52 (.tmp 7) (.tmp 26) rfl _ 52 (lcells l).toArray rfl rfl rfl (info52 l) (lcells_all l) ?_
           intro w3 hF3
           have HF3 := Lib.hid hF3; clear hF3))
      have hs2 := HB2.out.size
      have hs3 : w3.heap.size = w2.heap.size + 1 := HF3.out.size
      have hb03 : Below w0.heap.size w0 w3 := HB01.out.trans ((HB2.out.mono (by omega)).trans (HF3.out.below.mono (by omega)))
      have hF3r : w3.rangeAt w0.heap.size 0 (fcells f) := rangeAt_below HF1.out.range ((HB2.out.mono (by omega)).trans (HF3.out.below.mono (by omega)) : Below w1.heap.size w1 w3) (by omega)
      have hp0 : w3.cell? ⟨w0.heap.size, 0, none⟩ = some (.string f.path) := by have h := hF3r 0 _ rfl; rwa [Nat.zero_add] at h
      have HB03 := Lib.hid hb03
      have HF3R := Lib.hid hF3r
      have HL3 := Lib.hid HF3.out.range
      clear hb03 hF3r hF10
      go_upto_region 8 with (first
        | (go_at_call 16
           refine (parts_any f.path w3 hp1).mono ?_
           rintro e w4 ⟨⟨v, rfl, hown4⟩, hb4⟩
           rw [HM.out] at hown4
           have HOWN := Lib.hid hown4
           have HB4 := Lib.hid hb4
           clear hown4 hb4))
      obtain ⟨g4, cap4, rfl⟩ := HOWN.out.pos (by omega)
      have hs4 := HB4.out.size
      obtain ⟨S, hS⟩ : ∃ S : ByteArray, (⟨(nameOf f).toArray⟩ : ByteArray) = S := ⟨_, rfl⟩
      have hcell : w4.cell? ⟨g4, M, none⟩ = some (.string S) := by
        rw [← hS]
        exact HOWN.out.cell (by rw [List.getElem?_map, HL.out]; rfl)
      have hfr := rangeAt_below HF3R.out HB4.out (by omega)
      have hlr := rangeAt_below HL3.out HB4.out (by omega)
      obtain ⟨hnm, hdr, hdat⟩ := HLF.out
      have hnmS : l.name = S := by rw [← hS]; exact ByteArray.ext (Array.ext' (by simpa using hnm))
      have c1 : w4.cell? ⟨w2.heap.size, 1, none⟩ = some (.string S) := by have h := hlr 1 _ rfl; rw [Nat.zero_add, hnmS] at h; exact h
      have c2 : w4.cell? ⟨w2.heap.size, 2, none⟩ = some (.bool f.dir) := by have h := hlr 2 _ rfl; rw [Nat.zero_add, hdr] at h; exact h
      have c3 : w4.cell? ⟨w2.heap.size, 3, none⟩ = some (.bool false) := by have h := hlr 3 _ rfl; rw [Nat.zero_add] at h; exact h
      have c4 : w4.cell? ⟨w2.heap.size, 4, none⟩ = some (.bool false) := by have h := hlr 4 _ rfl; rw [Nat.zero_add] at h; exact h
      have c6 : w4.cell? ⟨w2.heap.size, 6, none⟩ = some (.int .i64 l.size) := by have h := hlr 6 _ rfl; rw [Nat.zero_add] at h; exact h
      have c14 : w4.cell? ⟨w2.heap.size, 14, none⟩ = some (.string l.data) := by have h := hlr 14 _ rfl; rw [Nat.zero_add] at h; exact h
      have d1 : w4.cell? ⟨w0.heap.size, 1, none⟩ = some (.bool f.dir) := by have h := hfr 1 _ rfl; rw [Nat.zero_add] at h; exact h
      have d2 : w4.cell? ⟨w0.heap.size, 2, none⟩ = some (.string f.data) := by have h := hfr 2 _ rfl; rw [Nat.zero_add] at h; exact h
      have d3 : w4.cell? ⟨w0.heap.size, 3, none⟩ = some (.string f.target) := by have h := hfr 3 _ rfl; rw [Nat.zero_add] at h; exact h
      have HB04 := Lib.hid (HB03.out.trans (HB4.out.mono (by omega)))
      have hm1 : ((M + 1 : Nat) : Int) - 1 = (M : Int) := by omega
      have hm2 : ((M : Int) + 1) - 1 = (M : Int) := by omega
      clear hS hfr hlr hnm hnmS hp0
      obtain ⟨bd, hbd⟩ : ∃ bd, f.dir = bd := ⟨_, rfl⟩
      rw [hbd] at c2 d1 hdat
      clear hdr hbd
      cases bd with
      | true =>
        clear hdat
        go_quiet (fail)
        go_wp2_with (fail)
        exact ⟨⟨k + 1, hlt, by simp, below_drewN (HB.out.trans (HB04.out.mono hsz)) _⟩, by simp [intOf]; omega⟩
      | false =>
        obtain ⟨h1, h2⟩ := hdat rfl
        rw [h1] at c14
        rw [h2] at c6
        clear hdat h1 h2
        go_quiet (fail)
        go_wp2_with (fail)
        exact ⟨⟨k + 1, hlt, by simp, below_drewN (HB.out.trans (HB04.out.mono hsz)) _⟩, by simp [intOf]; omega⟩
    · go_wp2_with (fail)
      go_ret
      exact ⟨rfl, HB.out⟩

end Go.Proofs.YtfppgplboomdbaaGreatDoor
