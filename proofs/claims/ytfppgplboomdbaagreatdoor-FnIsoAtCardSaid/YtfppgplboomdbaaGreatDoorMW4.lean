/- Part of the proofs of laws.FnIsoTree and laws.FnIsoAt: lemmas and contracts of functions that the two laws reach, each under the hypotheses that its own statement names. -/
import Derived.Test.YtfppgplboomdbaaGreatDoorMPart22
import Derived.Test.YtfppgplboomdbaaGreatDoorMPart23
namespace Go.Proofs.YtfppgplboomdbaaGreatDoor
open Go.RowKit

theorem els_mem_len : ∀ (l : Bs) (s : Bs), s ∈ Lib.Pa.els l → s.length ≤ l.length
  | [], s, h => by
    simp [Lib.Pa.els] at h
    subst h; simp
  | c :: t, s, h => by
    have ih := els_mem_len t
    unfold Lib.Pa.els at h
    split at h
    · rw [List.mem_cons] at h
      rcases h with rfl | h
      · simp
      · have := ih s h; simp; omega
    · cases he : Lib.Pa.els t with
      | nil => exact absurd he (els_ne t)
      | cons a r =>
        rw [he] at h
        rw [List.mem_cons] at h
        rcases h with rfl | h
        · have := ih a (by rw [he]; simp)
          simp; omega
        · have := ih s (by rw [he]; simp [h])
          simp; omega
theorem dir_step {ps : List Bs} {j : Nat} {s : Bs} {d S : ByteArray} (hd : d.data.toList = joinP (ps.dropLast.take j)) (hs : ps[j]? = some s) (hS : S.data.toList = s) (hdl : j + 1 < ps.length) :
    (0 < j → (d ++ ⟨#[47]⟩ ++ S).data.toList = joinP (ps.dropLast.take (j + 1))) ∧ (¬ 0 < j → (d ++ S).data.toList = joinP (ps.dropLast.take (j + 1))) := by
  have h := joinP_take (dropLast_get hs hdl)
  refine ⟨fun h0 => ?_, fun h0 => ?_⟩
  · rw [h, if_neg (by omega), ← hd, ← hS]; simp
  · have e : j = 0 := by omega
    subst e
    rw [h, if_pos rfl, ← hS]
    rw [List.take_zero, joinP_nil] at hd
    simp [hd]
theorem str_empty {s : ByteArray} (h : s.size = 0) : (s.toList == []) = true ∧ s.toList.isEmpty = true := by
  have e : s.toList = [] := by
    rw [ByteArray.toList_eq]
    exact List.length_eq_zero_iff.1 h
  rw [e]; exact ⟨rfl, rfl⟩
theorem str_some {s : ByteArray} (h : ¬ s.size = 0) : (s.toList == []) = false ∧ s.toList.isEmpty = false := by
  have e : s.toList ≠ [] := by
    rw [ByteArray.toList_eq]
    exact fun e => h (List.length_eq_zero_iff.2 e)
  exact ⟨by simpa using e, by simpa using e⟩
theorem str_size3 (a b c : ByteArray) : (a ++ b ++ c).size = a.size + b.size + c.size := by simp
theorem str_size2 (a c : ByteArray) : (a ++ c).size = a.size + c.size := by simp
def TgPost (fs : List FileD) (w : World) (e : Ending) (w' : World) : Prop := ∃ b, e = .returned (.bool b) ∧ (b = true → Good fs) ∧ Below w.heap.size w w'
theorem seenL_zero (fs : List FileD) : seenL fs 0 = [(([] : Bs), true)] := by simp [seenL]
set_option maxHeartbeats 8000000 in
set_option maxRecDepth 100000 in
theorem treeGood_any (p : Option Addr) (c : Nat) (fs : List FileD) (w : World) (hfs : FilesAt w w.heap.size p fs) (hn : fs.length ≤ 2147483647) (hsm : ∀ (k : Nat) (f : FileD), fs[k]? = some f → FSm f) :
    Calls Tryz.prog 6 #[.slice p fs.length c, .bool true] w fun e w' => TgPost fs w e w' := by
  have HF := Lib.hid hfs
  have HP := Lib.hid hsm
  clear hfs hsm
  have hmm := @run_makeMap Tryz.prog
  obtain ⟨w1, hins, hs1, ht1⟩ := (SeenAt.new w).put ⟨#[]⟩ (by decide) (by decide) true
  have HS1 := Lib.hid hs1
  have HB1 := Lib.hid (ht1.below ((Below.refl w.heap.size w).alloc (Nat.le_refl _) _) (Nat.le_refl _))
  clear hs1 ht1
  generalize hN : fs.length = N at hn ⊢
  have HN := Lib.hid hN; clear hN
  go_enter Tryz.func6, Tryz.ntmps6
  go_wp2_with (fail)
  clear hins hmm
  go_loopw [6, 21] (fun nv iv wr => ∃ (k : Nat) (n : Int), k ≤ N ∧ iv = .int .i64 k ∧ nv = .int .i64 n ∧ 0 ≤ n ∧ n ≤ 2147483647 * (k : Int) ∧ TG fs k n ∧ SeenAt wr w.heap.size (k + 1) (seenL fs k) ∧ Below w.heap.size w wr) (fun _ iv _ => N - (intOf iv).toNat)
  case atStart => exact ⟨0, 0, Nat.zero_le _, rfl, rfl, by omega, by omega, TG.start fs, by rw [seenL_zero]; exact HS1.out, HB1.out⟩
  case round =>
    obtain ⟨k, n, hk, rfl, rfl, hn0, hn1, htg, hseen, hbel⟩ := hrel
    obtain ⟨w0, rfl⟩ : ∃ w0 : World, w0 = wr := ⟨_, rfl⟩
    have HTG := Lib.hid htg
    have HSEEN := Lib.hid hseen
    have HB := Lib.hid hbel
    have hsz := hbel.size
    have hmlt := hseen.lt
    clear htg hseen HS1 HB1
    by_cases hlt : k < N
    · obtain ⟨gf, of, rfl, hgf, hfc⟩ := HF.out (by rw [HN.out]; omega)
      obtain ⟨f, hf⟩ : ∃ f, fs[k]? = some f := ⟨fs[k]'(by rw [HN.out]; exact hlt), List.getElem?_eq_getElem _⟩
      have HFC := Lib.hid (rangeAt_below (hfc k f hf) hbel hgf)
      have Hf := Lib.hid hf
      obtain ⟨hp1, hp2, hp3⟩ := HP.out k f hf
      obtain ⟨ps, hps⟩ : ∃ ps, Lib.Pa.els f.path.data.toList = ps := ⟨_, rfl⟩
      have HPS := Lib.hid hps
      obtain ⟨M, hM⟩ : ∃ M, ps.length = M := ⟨_, rfl⟩
      have HM := Lib.hid hM
      have hM1 : M ≤ f.path.size + 1 := by have := els_len f.path.data.toList; rw [hps, hM] at this; exact this
      have hM0 : 0 < M := by have := List.length_pos_iff.2 (els_ne f.path.data.toList); rw [hps, hM] at this; exact this
      clear hfc hf hbel hps hM
      go_upto_region 8 with (first
        | (refine wpList_load_mid rfl 38 (.tmp 23) rfl gf (of + k * 8) rfl (fcells f) _ HFC.out Tryz.underlying38 rfl rfl ?_)
        | (refine wpList_store_fresh rfl 38 (.tmp 8) (.tmp 24) rfl _ 38 (fcells f).toArray rfl rfl rfl rfl (fcells_one f) ?_
           intro w1 hF1
           have hF10 := hF1.range 0 _ rfl
           have HF1 := Lib.hid hF1; clear hF1)
        | (go_at_call 16
           refine (parts_any f.path w1 hp1).mono ?_
           rintro e w2 ⟨⟨v, rfl, hown⟩, hb2⟩
           rw [HPS.out, HM.out] at hown
           have HOWN := Lib.hid hown
           have HB2 := Lib.hid hb2
           clear hown hb2))
      clear hF10
      obtain ⟨g, cap, rfl⟩ := HOWN.out.pos hM0
      have hs1 : w1.heap.size = w0.heap.size + 1 := HF1.out.size
      have hs2 := HB2.out.size
      have hF2 : w2.rangeAt w0.heap.size 0 (fcells f) := rangeAt_below HF1.out.range HB2.out (by omega)
      have hd1 : w2.cell? ⟨w0.heap.size, 1, none⟩ = some (.bool f.dir) := by have h := hF2 1 _ rfl; rwa [Nat.zero_add] at h
      have HF2 := Lib.hid hF2
      have HS1 := Lib.hid hs1
      have hsz02 : w0.heap.size < w2.heap.size := by omega
      clear hF2 hs1 hs2
      go_wp2_with (fail)
      go_loopw [10, 30] (fun dv jv wr => ∃ (j : Nat) (d : ByteArray), j ≤ M ∧ dv = .string d ∧ jv = .int .i64 j ∧ d.data.toList = joinP (ps.dropLast.take j) ∧ d.size ≤ 13 * j ∧ NamesI ps f.dir j ∧ wr = w2) (fun _ jv _ => M - (intOf jv).toNat)
      case atStart => exact ⟨0, ⟨#[]⟩, Nat.zero_le _, rfl, rfl, by rw [List.take_zero, joinP_nil], Nat.zero_le _, NamesI.start _ _, rfl⟩
      case round =>
        obtain ⟨j, d, hj, rfl, rfl, hd, hds, hnm, rfl⟩ := hrel
        obtain ⟨w2, rfl⟩ : ∃ w2 : World, w2 = wr := ⟨_, rfl⟩
        have HD := Lib.hid hd
        have HNM := Lib.hid hnm
        clear hd hnm
        by_cases hjl : j < M
        · obtain ⟨s, hs⟩ : ∃ s, ps[j]? = some s := ⟨ps[j]'(by rw [HM.out]; exact hjl), List.getElem?_eq_getElem _⟩
          obtain ⟨S, hS⟩ : ∃ S : ByteArray, (⟨s.toArray⟩ : ByteArray) = S := ⟨_, rfl⟩
          have hcell : w2.cell? ⟨g, j, none⟩ = some (.string S) := by
            rw [← hS]
            exact HOWN.out.cell (by rw [List.getElem?_map, hs]; rfl)
          have hSs : S.data.toList = s := by rw [← hS]
          have HSs := Lib.hid hSs
          have Hs := Lib.hid hs
          clear hs hS hSs
          have hSl : S.size ≤ 2147483647 := by
            have h1 := els_mem_len f.path.data.toList s (by rw [HPS.out]; exact List.mem_of_getElem? Hs.out)
            have h2 : S.size = S.data.toList.length := rfl
            rw [h2, HSs.out]
            have h3 : f.path.data.toList.length = f.path.size := rfl
            omega
          have hbl2 : Below w.heap.size w w2 := (HB.out.trans (HF1.out.below.mono hsz)).trans (HB2.out.mono (by have := HS1.out; omega))
          have HBL2 := Lib.hid hbl2
          clear hbl2
          by_cases hdl : j + 1 < M
          · have hjz : (j : Int) < (M : Int) - 1 := by omega
            have hnmb : ∀ b : Bool, (b = true → PName S.data.toList true) → b = true → NamesI ps f.dir (j + 1) := fun b hb h => by
              have h1 := hb h
              rw [HSs.out] at h1
              refine HNM.out.next Hs.out ?_
              have e : (f.dir || decide (j + 1 < ps.length)) = true := by rw [HM.out]; simp [hdl]
              rw [e]; exact h1
            have HNB := Lib.hid hnmb
            clear hnmb
            cases hdir : f.dir
            all_goals (
              rw [hdir] at hd1
              go_wp2_with (first
                | (go_at_call 17
                   refine (plainName_any S true w2 hSl).mono ?_
                   rintro e w3 ⟨⟨b, rfl, hb⟩, hw⟩
                   rw [hw]
                   have HBB := Lib.hid hb
                   clear hw hb)))
            all_goals (first
              | (go_ret; exact ⟨false, rfl, (fun h => by cases h), HBL2.out⟩)
              | (rename_i hbt hj0
                 have hl := (HBB.out hbt).le
                 have hl2 : S.size = S.data.toList.length := rfl
                 refine ⟨⟨j + 1, _, by omega, rfl, by simp, ?_, ?_, by have := HNB.out b HBB.out hbt; rwa [hdir] at this, trivial⟩, by simp [intOf]; omega⟩
                 · first
                     | exact (dir_step HD.out Hs.out HSs.out (by rw [HM.out]; exact hdl)).1 hj0
                     | exact (dir_step HD.out Hs.out HSs.out (by rw [HM.out]; exact hdl)).2 hj0
                 · first
                     | (rw [str_size3, show (⟨#[47]⟩ : ByteArray).size = 1 from rfl]; omega)
                     | (rw [str_size2]; omega)))
          · have hjz : ¬ (j : Int) < (M : Int) - 1 := by omega
            have hjz2 : (M : Int) - 1 ≤ (j : Int) := by omega
            have hnmb : ∀ b : Bool, (b = true → PName S.data.toList f.dir) → b = true → NamesI ps f.dir (j + 1) := fun b hb h => by
              have h1 := hb h
              rw [HSs.out] at h1
              refine HNM.out.next Hs.out ?_
              have e : (f.dir || decide (j + 1 < ps.length)) = f.dir := by rw [HM.out]; simp [hdl]
              rw [e]; exact h1
            have HNB := Lib.hid hnmb
            have hdd : d.data.toList = joinP (ps.dropLast.take (j + 1)) := by
              rw [HD.out, dropLast_take (by rw [HM.out]; omega), dropLast_take (by rw [HM.out]; omega)]
            have HDD := Lib.hid hdd
            clear hnmb hdd
            have hnmq := HNB.out
            cases hdir : f.dir with
            | true =>
              rw [hdir] at hd1 hnmq
              have HNQ := Lib.hid hnmq
              clear hnmq
              go_wp2_with (first
                | (go_at_call 17
                   refine (plainName_any S true w2 hSl).mono ?_
                   rintro e w3 ⟨⟨b, rfl, hb⟩, hw⟩
                   rw [hw]
                   have HBB := Lib.hid hb
                   clear hw hb))
              all_goals (first
                | (go_ret; exact ⟨false, rfl, (fun h => by cases h), HBL2.out⟩)
                | (rename_i hbt _
                   refine ⟨⟨j + 1, d, by omega, rfl, by simp, HDD.out, by omega, HNQ.out b HBB.out hbt, trivial⟩, by simp [intOf]; omega⟩))
            | false =>
              rw [hdir] at hd1 hnmq
              have HNQ := Lib.hid hnmq
              clear hnmq
              go_wp2_with (first
                | (go_at_call 17
                   refine (plainName_any S false w2 hSl).mono ?_
                   rintro e w3 ⟨⟨b, rfl, hb⟩, hw⟩
                   rw [hw]
                   have HBB := Lib.hid hb
                   clear hw hb))
              all_goals (first
                | (go_ret; exact ⟨false, rfl, (fun h => by cases h), HBL2.out⟩)
                | (rename_i hbt _
                   refine ⟨⟨j + 1, d, by omega, rfl, by simp, HDD.out, by omega, HNQ.out b HBB.out hbt, trivial⟩, by simp [intOf]; omega⟩))
        · have hjM : j = M := by omega
          have hda : d.data.toList = joinP ps.dropLast := by rw [HD.out, List.take_of_length_le (by rw [List.length_dropLast, HM.out]; omega)]
          have hnall := HNM.out.all (by rw [HM.out]; omega)
          have hb02 : Below w0.heap.size w0 w2 := HF1.out.below.trans (HB2.out.mono (by have := HS1.out; omega))
          have hseen2 := HSEEN.out.below hb02
          obtain ⟨bd, hbd⟩ : ∃ bd, f.dir = bd := ⟨_, rfl⟩
          rw [hbd] at hd1
          have HBD := Lib.hid hbd
          clear hbd
          obtain ⟨y, ok, hrun, h1, h2⟩ := hseen2.look d (by unfold maxLen; omega)
          obtain ⟨y2, ok2, hrun2, h3, h4⟩ := hseen2.look f.path (by unfold maxLen; omega)
          obtain ⟨w3, hput, hs3, ht3⟩ := hseen2.put f.path (by unfold maxLen; omega) (by unfold maxLen; omega) bd
          have hb3 : Below w.heap.size w w3 := ht3.below (HB.out.trans (hb02.mono hsz)) (Nat.le_refl _)
          have c0 : w2.cell? ⟨w0.heap.size, 0, none⟩ = some (.string f.path) := by have h := HF2.out 0 _ rfl; rwa [Nat.zero_add] at h
          have c2 : w2.cell? ⟨w0.heap.size, 2, none⟩ = some (.string f.data) := by have h := HF2.out 2 _ rfl; rwa [Nat.zero_add] at h
          have c3 : w2.cell? ⟨w0.heap.size, 3, none⟩ = some (.string f.target) := by have h := HF2.out 3 _ rfl; rwa [Nat.zero_add] at h
          have d2 : w3.cell? ⟨w0.heap.size, 2, none⟩ = some (.string f.data) := (World.cell?_of_block (a := ⟨w0.heap.size, 2, none⟩) (ht3.block w0.heap.size (by omega))).trans c2
          have HBL2 := Lib.hid (HB.out.trans (hb02.mono hsz))
          have HB3 := Lib.hid hb3
          have HDA := Lib.hid hda
          have HALL := Lib.hid hnall
          have H1 := Lib.hid h1
          have H2 := Lib.hid h2
          have H3 := Lib.hid h3
          have H4 := Lib.hid h4
          have HS3 := Lib.hid hs3
          clear hb3 hda hnall h1 h2 h3 h4 hs3 ht3 hb02 hseen2
          have hwn : IntKind.i64.wrap (n + (f.data.size : Int)) = n + (f.data.size : Int) := IntWalk.i64_in _ (by omega)
          cases ok with
          | false =>
            go_wp2_with (fail)
            all_goals (go_ret; exact ⟨false, rfl, (fun h => by cases h), HBL2.out⟩)
          | true =>
            cases y with
            | false =>
              go_wp2_with (fail)
              all_goals (go_ret; exact ⟨false, rfl, (fun h => by cases h), HBL2.out⟩)
            | true =>
              by_cases h7 : M ≤ 7
              · have h7z : ¬ (7 : Int) < (M : Int) := by omega
                cases ok2 with
                | true =>
                  go_wp2_with (fail)
                  all_goals (go_ret; exact ⟨false, rfl, (fun h => by cases h), HBL2.out⟩)
                | false =>
                  by_cases hT : f.target.size = 0
                  · obtain ⟨t1, t2⟩ := str_empty hT
                    by_cases hDt : f.data.size = 0
                    · obtain ⟨q1, q2⟩ := str_empty hDt
                      cases bd with
                      | true =>
                        go_wp2_with (fail)
                        refine ⟨⟨k + 1, n + (f.data.size : Int), by omega, by simp, (by first | rfl | (rw [hDt]; simp)), by omega, by omega, HTG.out.step Hf.out HPS.out HALL.out (by have := H1.out rfl; rwa [HDA.out] at this) (by rw [HM.out]; exact h7) (H4.out rfl) (fun hd => hDt) hT, ?_, HB3.out⟩, by simp [intOf]; omega⟩
                        refine HS3.out.iff (fun q => ?_)
                        rw [seenL_next Hf.out, HBD.out]
                      | false =>
                        go_wp2_with (fail)
                        refine ⟨⟨k + 1, n + (f.data.size : Int), by omega, by simp, (by first | rfl | (rw [hDt]; simp)), by omega, by omega, HTG.out.step Hf.out HPS.out HALL.out (by have := H1.out rfl; rwa [HDA.out] at this) (by rw [HM.out]; exact h7) (H4.out rfl) (fun hd => hDt) hT, ?_, HB3.out⟩, by simp [intOf]; omega⟩
                        refine HS3.out.iff (fun q => ?_)
                        rw [seenL_next Hf.out, HBD.out]
                    · obtain ⟨q1, q2⟩ := str_some hDt
                      cases bd with
                      | true =>
                        go_wp2_with (fail)
                        all_goals (go_ret; exact ⟨false, rfl, (fun h => by cases h), HBL2.out⟩)
                      | false =>
                        go_wp2_with (fail)
                        refine ⟨⟨k + 1, n + (f.data.size : Int), by omega, by simp, (by first | rfl | (rw [hDt]; simp)), by omega, by omega, HTG.out.step Hf.out HPS.out HALL.out (by have := H1.out rfl; rwa [HDA.out] at this) (by rw [HM.out]; exact h7) (H4.out rfl) (fun hd => by rw [HBD.out] at hd; cases hd) hT, ?_, HB3.out⟩, by simp [intOf]; omega⟩
                        refine HS3.out.iff (fun q => ?_)
                        rw [seenL_next Hf.out, HBD.out]
                  · obtain ⟨t1, t2⟩ := str_some hT
                    go_wp2_with (fail)
                    all_goals (go_ret; exact ⟨false, rfl, (fun h => by cases h), HBL2.out⟩)
              · go_wp2_with (fail)
                all_goals (go_ret; exact ⟨false, rfl, (fun h => by cases h), HBL2.out⟩)
    · go_wp2_with (fail)
      · rename_i h40
        go_ret
        refine ⟨_, rfl, (fun h => ?_), HB.out⟩
        have h2 := of_decide_eq_true h
        have hkn : k = fs.length := by rw [HN.out]; omega
        have h3 := HTG.out
        rw [hkn] at h3
        exact h3.good (by rw [HN.out]; omega) h2
      · go_ret
        exact ⟨false, rfl, (fun h => by cases h), HB.out⟩

end Go.Proofs.YtfppgplboomdbaaGreatDoor
