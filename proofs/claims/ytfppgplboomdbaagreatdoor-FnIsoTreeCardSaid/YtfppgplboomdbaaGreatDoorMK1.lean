/- Part of the proofs of laws.FnIsoTree and laws.FnIsoAt: lemmas and contracts of functions that the two laws reach, each under the hypotheses that its own statement names. -/
import Derived.Test.YtfppgplboomdbaaGreatDoorMPart13
import Derived.Deep.DeepCutAuto
import Derived.IntWalk
namespace Go.Proofs.YtfppgplboomdbaaGreatDoor
open Go.RowKit

/-- All cells of an entry. -/
theorem EntAt.full {w : World} {p : Nat} {r : RecE} {fs : Value} (h : EntAt w p r fs) : w.cell? ⟨p, 1, none⟩ = some (.int .u32 r.ext) ∧ w.cell? ⟨p, 2, none⟩ = some (.int .u32 r.size) ∧ w.cell? ⟨p, 7, none⟩ = some (.bool r.dir) ∧ w.cell? ⟨p, 12, none⟩ = some (.bool (selfB r)) ∧ w.cell? ⟨p, 13, none⟩ = some (.bool (parB r)) ∧ w.cell? ⟨p, 16, none⟩ = some fs ∧ w.cell? ⟨p, 17, none⟩ = some (.string (nameB r)) ∧ p < w.heap.size := by
  obtain ⟨a, b, c, ge, h1⟩ := h
  exact ⟨by rw [cell_of_row _ _ _ _ _ _ h1]; rfl, by rw [cell_of_row _ _ _ _ _ _ h1]; rfl, by rw [cell_of_row _ _ _ _ _ _ h1]; rfl, by rw [cell_of_row _ _ _ _ _ _ h1]; rfl, by rw [cell_of_row _ _ _ _ _ _ h1]; rfl, by rw [cell_of_row _ _ _ _ _ _ h1]; rfl, by rw [cell_of_row _ _ _ _ _ _ h1]; rfl, lt_of_block h1⟩
theorem splice_all (P S : Bs) (h : S.length = P.length) : splice P 0 S = S := by
  unfold splice
  rw [List.take_zero, List.nil_append, Nat.zero_add, h, List.drop_length, List.append_nil]
theorem ReadAt_at (G mb pb po n c at_ : Nat) (ai : Int) (hai : ai = at_) (D P : Bs) (w : World) (hm : Mem w G mb D) (hP : Blk w pb P) (hpb : G ≤ pb) (hn : 0 < n) (hfit : po + n ≤ P.length) (hD : at_ + n ≤ D.length) (hDl : D.length ≤ 100000000) :
    Calls Tryz.prog 173 #[.pointer (some ⟨mb, 0, none⟩), .slice (some ⟨pb, po, none⟩) n c, .int .i64 ai] w fun e w' => e = .returned (.tuple #[.int .i64 n, .nilIface]) ∧ Blk w' pb (splice P po (seg D at_ n)) ∧ Chg w w' pb := by
  subst hai; exact ReadAt_any G mb pb po n c at_ D P w hm hP hpb hn hfit hD hDl
theorem run_make_2048 (w : World) : ∃ w', (Instr.makeSlice 26 (.int .u32 2048) (.int .u32 2048)).run Tryz.prog w = .ok (.slice (some ⟨w.heap.size, 0, none⟩) 2048 2048) w' ∧ Blk w' w.heap.size (List.replicate 2048 0) ∧ Below w.heap.size w w' ∧ w'.heap.size = w.heap.size + 1 := run_make_u32 w 2048 (by omega)
/-- The ways down. -/
def Down (nd : Nat → Nd) (ks : Nat → List Nat) : Nat → List Bs → Nat → Prop
  | i, [], j => i = j
  | i, a :: qs, j => ∃ k ∈ ks i, (nd k).f.dir = true ∧ nmN nd k = a ∧ Down nd ks k qs j
theorem Down.snoc {nd : Nat → Nd} {ks : Nat → List Nat} : ∀ {qs : List Bs} {i j k : Nat}, Down nd ks i qs j → k ∈ ks j → (nd k).f.dir = true → Down nd ks i (qs ++ [nmN nd k]) k
  | [], i, j, k, h, hk, hd => by
    have h : i = j := h
    subst h
    exact ⟨k, hk, hd, rfl, rfl⟩
  | a :: qs, i, j, k, ⟨x, h1, h2, h3, h4⟩, hk, hd => ⟨x, h1, h2, h3, Down.snoc h4 hk hd⟩
theorem down_pth {nd : Nat → Nd} {ks : Nat → List Nat} {n : Nat} (t : Tree nd ks n) (g : GoodN nd n) : ∀ x, x < n → (nd x).f.dir = true → Down nd ks 0 (pth nd x) x := fun x => by
  induction x using Nat.strongRecOn with
  | _ x ih =>
    intro hx hd
    rcases Nat.eq_zero_or_pos x with rfl | h0
    · exact rfl
    · obtain ⟨h1, h2⟩ := g.par x h0 hx
      rw [g.parts x h0 hx]
      exact (ih _ h1 (by omega) h2).snoc ((t.mem _ (by omega) x).2 ⟨h0, hx, rfl⟩) hd
/-- A path of plain parts as a string. -/
structure PathS (s : ByteArray) (qs : List Bs) : Prop where
  is : s.data.toList = joinP qs
  small : s.size ≤ 1000000
  pos : 0 < s.size
  no92 : 92 ∉ s.data.toList
  els : Lib.Pa.els s.data.toList = qs
  ne : ∀ e ∈ qs, e ≠ []
  plain : ∀ e ∈ qs, PlainE e
theorem joinP_mem {c : UInt8} : ∀ {qs : List Bs}, c ∈ joinP qs → c = 47 ∨ ∃ q ∈ qs, c ∈ q
  | [], h => by simp at h
  | [e], h => by rw [joinP_one] at h; exact .inr ⟨e, by simp, h⟩
  | e :: f :: ps, h => by
    rw [joinP_cons, List.mem_append, List.mem_cons] at h
    rcases h with h | h | h
    · exact .inr ⟨e, by simp, h⟩
    · exact .inl h
    · rcases joinP_mem h with h | ⟨q, h1, h2⟩
      · exact .inl h
      · exact .inr ⟨q, List.mem_cons_of_mem _ h1, h2⟩
theorem PathS.of {s : ByteArray} {qs : List Bs} (hs : s.data.toList = joinP qs) (h0 : qs ≠ []) (hp : ∀ q ∈ qs, ∃ d, PName q d) (h7 : qs.length ≤ 7) : PathS s qs := by
  have hpl : ∀ e ∈ qs, PlainE e := fun e he => by obtain ⟨d, h⟩ := hp e he; exact h.plain
  have hl := joinP_len qs (fun e he => by obtain ⟨d, h⟩ := hp e he; exact h.le)
  have hsz : s.size = (joinP qs).length := by rw [← hs]; rfl
  refine ⟨hs, by omega, ?_, ?_, by rw [hs]; exact els_joinP qs h0 (fun e he => (hpl e he).no47), fun e he => (hpl e he).ne, hpl⟩
  · rw [hsz]
    exact List.length_pos_iff.2 (joinP_ne h0 hpl)
  · rw [hs]
    intro hm
    rcases joinP_mem hm with h | ⟨q, h1, h2⟩
    · exact absurd h (by decide)
    · obtain ⟨d, h⟩ := hp q h1
      exact (h.ascii 92 h2).2.1 rfl
theorem mem_joinP {c : UInt8} : ∀ {qs : List Bs} {q : Bs}, q ∈ qs → c ∈ q → c ∈ joinP qs
  | [], q, h, _ => by simp at h
  | [e], q, h, hc => by rw [List.mem_singleton] at h; subst h; rw [joinP_one]; exact hc
  | e :: f :: ps, q, h, hc => by
    rw [joinP_cons, List.mem_append, List.mem_cons]
    rw [List.mem_cons] at h
    rcases h with rfl | h
    · exact .inl hc
    · exact .inr (.inr (mem_joinP h hc))
theorem PathS.tail {s : ByteArray} {a : Bs} {rest : List Bs} (h : PathS s (a :: rest)) (hr : rest ≠ []) : PathS ⟨(joinP rest).toArray⟩ rest := by
  have hsub : (joinP rest).length ≤ s.size := by
    have e : s.size = (joinP (a :: rest)).length := by rw [← h.is]; rfl
    rw [e]
    cases rest with
    | nil => exact absurd rfl hr
    | cons b r => rw [joinP_cons]; simp; omega
  have hsz : (⟨(joinP rest).toArray⟩ : ByteArray).size = (joinP rest).length := by simp [ByteArray.size]
  have hpl : ∀ e ∈ rest, PlainE e := fun e he => h.plain e (List.mem_cons_of_mem _ he)
  have hsm := h.small
  refine ⟨rfl, by rw [hsz]; omega, ?_, fun hm => h.no92 ?_, els_joinP rest hr (fun e he => (hpl e he).no47), fun e he => (hpl e he).ne, hpl⟩
  · rw [hsz]; exact List.length_pos_iff.2 (joinP_ne hr hpl)
  · rw [h.is]
    rcases joinP_mem (show (92 : UInt8) ∈ joinP rest from hm) with h2 | ⟨q, h1, h2⟩
    · exact absurd h2 (by decide)
    · exact mem_joinP (List.mem_cons_of_mem _ h1) h2
theorem EntAt.keepB {w w' : World} {B p : Nat} {r : RecE} {fs : Value} (h : EntAt w p r fs) (hb : Below B w w') (hp : p < B) : EntAt w' p r fs := by
  obtain ⟨a, b, c, ge, h1⟩ := h
  exact ⟨a, b, c, ge, (hb.block _ hp).trans h1⟩
theorem join_any (g c m : Nat) (rest : List Bs) (hm : rest.length = m) (w : World) (hc : ∀ (j : Nat) (x : Bs), rest[j]? = some x → w.cell? ⟨g, 1 + j, none⟩ = some (.string ⟨x.toArray⟩)) (hg : g < w.heap.size) (hp : ∀ e ∈ rest, PlainE e) (hr : rest ≠ []) (hl : (joinP rest).length ≤ 1000000) :
    Calls Tryz.prog 69 #[.slice (some ⟨g, 1, none⟩) m c] w fun e w' => e = .returned (.string ⟨(joinP rest).toArray⟩) ∧ Below w.heap.size w w' := by
  subst hm
  have hmap : (rest.map fun x => (⟨x.toArray⟩ : ByteArray)).map (·.data.toList) = rest := by
    rw [List.map_map]
    exact List.map_id' rest
  have hlens : ∀ l : List Bs, Lib.Pa.lens l + l.length ≤ 2 * (joinP l).length + 2 * l.length + 1 := fun l => by
    induction l with
    | nil => simp [Lib.Pa.lens]
    | cons a l ih =>
      cases l with
      | nil => simp [Lib.Pa.lens]; omega
      | cons b l =>
        rw [joinP_cons]
        simp [Lib.Pa.lens] at ih ⊢
        omega
  have hcount : ∀ l : List Bs, l.length ≤ (joinP l).length + 1 := fun l => by
    induction l with
    | nil => simp
    | cons a l ih =>
      cases l with
      | nil => simp
      | cons b l =>
        rw [joinP_cons]
        simp at ih ⊢
        omega
  have h := Tryz.path_Join_rules g 1 c (rest.map fun x => (⟨x.toArray⟩ : ByteArray)) w (fun j x hx => by
    rw [List.getElem?_map] at hx
    cases hj : rest[j]? with
    | none => rw [hj] at hx; cases hx
    | some y => rw [hj] at hx; cases hx; exact hc j y hj) hg (by
    rw [hmap, List.length_map]
    have h1 := hlens rest
    have h2 := hcount rest
    omega)
  rw [List.length_map, hmap, join_plain hr hp] at h
  exact h
def LocPost (w : World) (x : Int) (e : Ending) (w' : World) : Prop := e = .returned (.tuple #[.int .u32 x, .int .u32 2048, .nilIface]) ∧ Below w.heap.size w w'
set_option maxHeartbeats 8000000 in
set_option maxRecDepth 100000 in
theorem dirLoc_any {B fp mb pt rd n P : Nat} {D vol : Bs} {es : List PEnt} {nd : Nat → Nd} {ks : Nat → List Nat} {ds : List Nat} (tr : Tr D nd ks n ds P vol) :
    ∀ (qs : List Bs) (i j p : Nat) (r : RecE) (s : ByteArray) (w : World), FsAt w B fp mb pt rd D es → EntAt w p r (.pointer (some ⟨fp, 0, none⟩)) → r.ext = (nd i).ext → r.size = 2048 → i < n → (nd i).f.dir = true → Down nd ks i qs j → PathS s qs →
      Calls Tryz.prog 121 #[.pointer (some ⟨p, 0, none⟩), .string s] w fun e w' => LocPost w (nd j).ext e w' := by
  intro qs
  induction qs with
  | nil =>
    intro i j p r s w _ _ _ _ _ _ _ hs
    exact absurd hs.els (els_neD _)
  | cons a rest ih =>
    intro i j p r s w hF hE hrx hrs hi hdi hdn hS
    obtain ⟨k, hk, hdk, hna, hdn⟩ := hdn
    have hext := tr.ext i hi
    obtain ⟨rsA, hDB, hDR⟩ := tr.dir i hi hdi
    have hfit := tr.fit i hi
    have hD3 := tr.len.2
    have hrl : rsA.length ≤ 1000 := by
      obtain ⟨_, _, rs, e, _, _, _, hl, _⟩ := hDR.kids tr.tree tr.good hi
      have hf := tr.few
      have := length_le_of_nodup n (ks i) (tr.tree.nodup i hi) (fun x hx => ((tr.tree.mem i hi x).1 hx).2.1)
      rw [e]; simp; omega
    have hki := (tr.tree.mem i hi k).1 hk
    obtain ⟨hall, m0, r0, hm0, hn0⟩ := hDR.find tr.tree tr.good hi hk hdk
    rw [hna] at hall hn0
    have HALL := Lib.hid hall
    have HM0 := Lib.hid (And.intro hm0 hn0)
    have HDB := Lib.hid hDB
    have hsz : sizeOfN nd i = 2048 := by unfold sizeOfN; rw [if_pos hdi]
    rw [hsz] at hfit
    have HS := Lib.hid hS
    have HF := Lib.hid hF
    have HE := Lib.hid hE
    have HDN := Lib.hid hdn
    have HIH := Lib.hid ih
    have hS1 := hS.small
    have hS2 := hS.pos
    have hna46 : a ≠ [46] := (hS.plain a (by simp)).dot
    have hEl : p < w.heap.size := hE.full.2.2.2.2.2.2.2
    clear hall hm0 hn0 hDB hS hF hE hDR ih hdn
    go_enter Tryz.func121, Tryz.ntmps121
    go_upto_region 2 with (first
      | (go_at_call 137
         refine (splitPath_any s (a :: rest) w hS1 hS2 HS.out.no92 HS.out.els HS.out.ne).mono ?_
         rintro e w3 ⟨⟨v, rfl, hv⟩, hb3⟩
         have HV := Lib.hid hv
         have HB3 := Lib.hid hb3
         clear hv hb3))
    obtain ⟨g, cap, rfl, hgl, hglt, hgc⟩ : ∃ g cap, v = .slice (some ⟨g, 0, none⟩) (rest.length + 1) cap ∧ rest.length + 1 ≤ cap ∧ g < w3.heap.size ∧ ∀ (j : Nat) (x : Bs), (a :: rest)[j]? = some x → w3.cell? ⟨g, j, none⟩ = some (.string ⟨x.toArray⟩) := by
      obtain ⟨_, ⟨_, h0'⟩ | ⟨g, cap, e, _, h3, hnc, _, h4, _⟩⟩ := HV.out
      · cases h0'
      · exact ⟨g, cap, e, hnc, h3, fun j x hx => h4 j (strV x) (by rw [List.getElem?_map, hx]; rfl)⟩
    have HGC := Lib.hid hgc
    have hc0 := hgc 0 a rfl
    obtain ⟨A, hA⟩ : ∃ A : ByteArray, (⟨a.toArray⟩ : ByteArray) = A := ⟨_, rfl⟩
    rw [hA] at hc0
    have HA := Lib.hid hA
    obtain ⟨m, hm⟩ : ∃ m, rest.length = m := ⟨_, rfl⟩
    rw [hm] at hgl
    have hda : (A.toList == [46]) = false := by
      have := str_eq (y := [46]) (Y := ⟨#[46]⟩) hA rfl (b := false) (decide_eq_false hna46)
      simpa using this
    have hmz : ((m : Int) + 1 == 0) = false := by simp; omega
    have HM := Lib.hid hm
    rw [hm]
    have hF3 : FsAt w3 B fp mb pt rd D es := HF.out.below HB3.out
    have hE3 : EntAt w3 p r (.pointer (some ⟨fp, 0, none⟩)) := HE.out.below HB3.out
    obtain ⟨e1, e2, _, _, _, e16, _, _⟩ := hE3.full
    rw [hrx] at e1
    rw [hrs] at e2
    obtain ⟨w4, hmk, hblk, hb4, hsz4⟩ := run_make_2048 w3
    have HBLK := Lib.hid hblk
    have HB4 := Lib.hid hb4
    have HF3 := Lib.hid hF3
    have HE3 := Lib.hid hE3
    clear hm hA hgc hblk hb4 hF3 hE3
    go_upto_region 7 with (fail)
    obtain ⟨x, hx⟩ : ∃ x : Nat, (nd i).ext = x := ⟨(nd i).ext.toNat, by omega⟩
    rw [hx] at hext hfit e1 hrx
    have hxt : ((x : Int)).toNat = x := by omega
    rw [hxt] at hfit
    have hx2 : ((2048 : Int)).toNat = 2048 := rfl
    rw [hx2] at hfit
    have HDB2 : Hid (DirB (seg D (x * 2048) 2048) rsA) := by
      have := HDB.out
      rw [hx, hxt] at this
      exact this
    clear HDB
    have hF4 : FsAt w4 B fp mb pt rd D es := HF3.out.below HB4.out
    have hE4 : EntAt w4 p r (.pointer (some ⟨fp, 0, none⟩)) := HE3.out.below HB4.out
    obtain ⟨d1, _, _, _, _, d16, _, hpl4⟩ := hE4.full
    rw [hrx] at d1
    have hs3 := HB3.out.size
    have hfl := hF4.fl
    have hFhi := HF.out.hi
    have hw0 : IntKind.i64.wrap (x : Int) = (x : Int) := IntWalk.i64_in _ (by omega)
    have hw1 : IntKind.i64.wrap ((x : Int) * 2048) = (x : Int) * 2048 := IntWalk.i64_in _ (by omega)
    have HF4 := Lib.hid hF4
    have HE4 := Lib.hid hE4
    have hbe := hF4.be
    have hbs := hF4.bs
    clear hF4 hE4 e1 e2 e16
    go_cut [10, 11] from 54 to 80 (fun t10 t11 wx => t10 = .int .i64 2048 ∧ t11 = .nilIface ∧ Blk wx w3.heap.size (seg D (x * 2048) 2048) ∧ Below w3.heap.size w4 wx)
    case first =>
      refine wp_region_noPanic ?_
      refine wp_region_held_drew (S := fun w' => w'.cell? ⟨p, 1, none⟩ = some (.int .u32 (x : Int)) ∧ w'.cell? ⟨p, 16, none⟩ = some (.pointer (some ⟨fp, 0, none⟩)) ∧ w'.cell? ⟨fp, 4, none⟩ = some (.iface 102 (.pointer (some ⟨mb, 0, none⟩))) ∧ w'.cell? ⟨fp, 5, none⟩ = some (.int .i64 2048)) (by kernel_rfl) ⟨d1, d16, hbe, hbs⟩ (fun hS0 => ?_)
      refine hTake (i := 0) (v := ?_) (some 55) rfl rfl (by kernel_rfl) (by kernel_rfl) (by kernel_rfl) (fun _ _ _ h => h) (Or.inl ⟨by rfl, ?hy7x0⟩) hS0 ?hr7x0
      case hy7x0 => (intro w' hSw; have hq := hSw; obtain ⟨s1, s2, s3, s4⟩ := hq; clear hSw; go_simp; try with_reducible rfl)
      try simp only [Act.put, List.setIfInBounds_toArray, List.set_cons_zero, List.set_cons_succ]
      refine hTake (i := 1) (v := ?_) (some 56) rfl rfl (by kernel_rfl) (by kernel_rfl) (by kernel_rfl) (fun _ _ _ h => h) (Or.inl ⟨by rfl, ?hy7x1⟩) hS0 ?hr7x1
      case hy7x1 => (intro w' hSw; have hq := hSw; obtain ⟨s1, s2, s3, s4⟩ := hq; clear hSw; go_simp; try with_reducible rfl)
      try simp only [Act.put, List.setIfInBounds_toArray, List.set_cons_zero, List.set_cons_succ]
      refine hTake (i := 2) (v := ?_) (some 57) rfl rfl (by kernel_rfl) (by kernel_rfl) (by kernel_rfl) (fun _ _ _ h => h) (Or.inl ⟨by rfl, ?hy7x2⟩) hS0 ?hr7x2
      case hy7x2 => (intro w' hSw; have hq := hSw; obtain ⟨s1, s2, s3, s4⟩ := hq; clear hSw; go_simp; try with_reducible rfl)
      try simp only [Act.put, List.setIfInBounds_toArray, List.set_cons_zero, List.set_cons_succ]
      refine hTake (i := 3) (v := ?_) (some 58) rfl rfl (by kernel_rfl) (by kernel_rfl) (by kernel_rfl) (fun _ _ _ h => h) (Or.inl ⟨by rfl, ?hy7x3⟩) hS0 ?hr7x3
      case hy7x3 => (intro w' hSw; have hq := hSw; obtain ⟨s1, s2, s3, s4⟩ := hq; clear hSw; go_simp; try with_reducible rfl)
      try simp only [Act.put, List.setIfInBounds_toArray, List.set_cons_zero, List.set_cons_succ]
      refine hTake (i := 4) (v := ?_) (some 59) rfl rfl (by kernel_rfl) (by kernel_rfl) (by kernel_rfl) (fun _ _ _ h => h) (Or.inl ⟨by rfl, ?hy7x4⟩) hS0 ?hr7x4
      case hy7x4 => (intro w' hSw; have hq := hSw; obtain ⟨s1, s2, s3, s4⟩ := hq; clear hSw; go_simp; try with_reducible rfl)
      try simp only [Act.put, List.setIfInBounds_toArray, List.set_cons_zero, List.set_cons_succ]
      refine hTake (i := 5) (v := ?_) (some 60) rfl rfl (by kernel_rfl) (by kernel_rfl) (by kernel_rfl) (fun _ _ _ h => h) (Or.inl ⟨by rfl, ?hy7x5⟩) hS0 ?hr7x5
      case hy7x5 => (intro w' hSw; have hq := hSw; obtain ⟨s1, s2, s3, s4⟩ := hq; clear hSw; go_simp; try with_reducible rfl)
      try simp only [Act.put, List.setIfInBounds_toArray, List.set_cons_zero, List.set_cons_succ]
      refine hTake (i := 6) (v := ?_) (some 61) rfl rfl (by kernel_rfl) (by kernel_rfl) (by kernel_rfl) (fun _ _ _ h => h) (Or.inl ⟨by rfl, ?hy7x6⟩) hS0 ?hr7x6
      case hy7x6 => (intro w' hSw; have hq := hSw; obtain ⟨s1, s2, s3, s4⟩ := hq; clear hSw; go_simp; try with_reducible rfl)
      try simp only [Act.put, List.setIfInBounds_toArray, List.set_cons_zero, List.set_cons_succ]
      refine hTake (i := 7) (v := ?_) (some 62) rfl rfl (by kernel_rfl) (by kernel_rfl) (by kernel_rfl) (fun _ _ _ h => h) (Or.inl ⟨by rfl, ?hy7x7⟩) hS0 ?hr7x7
      case hy7x7 => (intro w' hSw; have hq := hSw; obtain ⟨s1, s2, s3, s4⟩ := hq; clear hSw; go_simp; try with_reducible rfl)
      try simp only [Act.put, List.setIfInBounds_toArray, List.set_cons_zero, List.set_cons_succ]
      refine hTake (i := 8) (v := ?_) (some 63) rfl rfl (by kernel_rfl) (by kernel_rfl) (by kernel_rfl) (fun _ _ _ h => h) (Or.inl ⟨by rfl, ?hy7x8⟩) hS0 ?hr7x8
      case hy7x8 => (intro w' hSw; have hq := hSw; obtain ⟨s1, s2, s3, s4⟩ := hq; clear hSw; go_simp; try with_reducible rfl)
      try simp only [Act.put, List.setIfInBounds_toArray, List.set_cons_zero, List.set_cons_succ]
      refine hTake (i := 9) (v := ?_) (some 64) rfl rfl (by kernel_rfl) (by kernel_rfl) (by kernel_rfl) (fun _ _ _ h => h) (Or.inl ⟨by rfl, ?hy7x9⟩) hS0 ?hr7x9
      case hy7x9 => (intro w' hSw; have hq := hSw; obtain ⟨s1, s2, s3, s4⟩ := hq; clear hSw; go_simp; try with_reducible rfl)
      try simp only [Act.put, List.setIfInBounds_toArray, List.set_cons_zero, List.set_cons_succ]
      refine hTake (i := 10) (v := ?_) (some 65) rfl rfl (by kernel_rfl) (by kernel_rfl) (by kernel_rfl) (fun _ _ _ h => h) (Or.inl ⟨by rfl, ?hy7x10⟩) hS0 ?hr7x10
      case hy7x10 => (intro w' hSw; have hq := hSw; obtain ⟨s1, s2, s3, s4⟩ := hq; clear hSw; go_simp; try with_reducible rfl)
      try simp only [Act.put, List.setIfInBounds_toArray, List.set_cons_zero, List.set_cons_succ]
      refine hTake (i := 11) (v := ?_) (some 66) rfl rfl (by kernel_rfl) (by kernel_rfl) (by kernel_rfl) (fun _ _ _ h => h) (Or.inl ⟨by rfl, ?hy7x11⟩) hS0 ?hr7x11
      case hy7x11 => (intro w' hSw; have hq := hSw; obtain ⟨s1, s2, s3, s4⟩ := hq; clear hSw; go_simp; try with_reducible rfl)
      try simp only [Act.put, List.setIfInBounds_toArray, List.set_cons_zero, List.set_cons_succ]
      refine hTake (i := 12) (v := ?_) (some 67) rfl rfl (by kernel_rfl) (by kernel_rfl) (by kernel_rfl) (fun _ _ _ h => h) (Or.inl ⟨by rfl, ?hy7x12⟩) hS0 ?hr7x12
      case hy7x12 => (intro w' hSw; have hq := hSw; obtain ⟨s1, s2, s3, s4⟩ := hq; clear hSw; go_simp; try with_reducible rfl)
      try simp only [Act.put, List.setIfInBounds_toArray, List.set_cons_zero, List.set_cons_succ]
      refine hTake (i := 13) (v := ?_) (some 68) rfl rfl (by kernel_rfl) (by kernel_rfl) (by kernel_rfl) (fun _ _ _ h => h) (Or.inl ⟨by rfl, ?hy7x13⟩) hS0 ?hr7x13
      case hy7x13 => (intro w' hSw; have hq := hSw; obtain ⟨s1, s2, s3, s4⟩ := hq; clear hSw; go_simp; try with_reducible rfl)
      try simp only [Act.put, List.setIfInBounds_toArray, List.set_cons_zero, List.set_cons_succ]
      refine hTake (i := 14) (v := ?_) (some 69) rfl rfl (by kernel_rfl) (by kernel_rfl) (by kernel_rfl) (fun _ _ _ h => h) (Or.inl ⟨by rfl, ?hy7x14⟩) hS0 ?hr7x14
      case hy7x14 => (intro w' hSw; have hq := hSw; obtain ⟨s1, s2, s3, s4⟩ := hq; clear hSw; go_simp; try with_reducible rfl)
      try simp only [Act.put, List.setIfInBounds_toArray, List.set_cons_zero, List.set_cons_succ]
      refine hTake (i := 15) (v := ?_) (some 70) rfl rfl (by kernel_rfl) (by kernel_rfl) (by kernel_rfl) (fun _ _ _ h => h) (Or.inl ⟨by rfl, ?hy7x15⟩) hS0 ?hr7x15
      case hy7x15 => (intro w' hSw; have hq := hSw; obtain ⟨s1, s2, s3, s4⟩ := hq; clear hSw; go_simp; try with_reducible rfl)
      try simp only [Act.put, List.setIfInBounds_toArray, List.set_cons_zero, List.set_cons_succ]
      refine hTake (i := 16) (v := ?_) (some 71) rfl rfl (by kernel_rfl) (by kernel_rfl) (by kernel_rfl) (fun _ _ _ h => h) (Or.inl ⟨by rfl, ?hy7x16⟩) hS0 ?hr7x16
      case hy7x16 => (intro w' hSw; have hq := hSw; obtain ⟨s1, s2, s3, s4⟩ := hq; clear hSw; go_simp; try with_reducible rfl)
      try simp only [Act.put, List.setIfInBounds_toArray, List.set_cons_zero, List.set_cons_succ]
      refine hTake (i := 17) (v := ?_) (some 72) rfl rfl (by kernel_rfl) (by kernel_rfl) (by kernel_rfl) (fun _ _ _ h => h) (Or.inl ⟨by rfl, ?hy7x17⟩) hS0 ?hr7x17
      case hy7x17 => (intro w' hSw; have hq := hSw; obtain ⟨s1, s2, s3, s4⟩ := hq; clear hSw; go_simp; try with_reducible rfl)
      try simp only [Act.put, List.setIfInBounds_toArray, List.set_cons_zero, List.set_cons_succ]
      refine hTake (i := 18) (v := ?_) (some 73) rfl rfl (by kernel_rfl) (by kernel_rfl) (by kernel_rfl) (fun _ _ _ h => h) (Or.inl ⟨by rfl, ?hy7x18⟩) hS0 ?hr7x18
      case hy7x18 => (intro w' hSw; have hq := hSw; obtain ⟨s1, s2, s3, s4⟩ := hq; clear hSw; go_simp; try with_reducible rfl)
      try simp only [Act.put, List.setIfInBounds_toArray, List.set_cons_zero, List.set_cons_succ]
      refine hTake (i := 19) (v := ?_) (some 74) rfl rfl (by kernel_rfl) (by kernel_rfl) (by kernel_rfl) (fun _ _ _ h => h) (Or.inl ⟨by rfl, ?hy7x19⟩) hS0 ?hr7x19
      case hy7x19 => (intro w' hSw; have hq := hSw; obtain ⟨s1, s2, s3, s4⟩ := hq; clear hSw; go_simp; try with_reducible rfl)
      try simp only [Act.put, List.setIfInBounds_toArray, List.set_cons_zero, List.set_cons_succ]
      refine hTake (i := 20) (v := ?_) (some 75) rfl rfl (by kernel_rfl) (by kernel_rfl) (by kernel_rfl) (fun _ _ _ h => h) (Or.inl ⟨by rfl, ?hy7x20⟩) hS0 ?hr7x20
      case hy7x20 => (intro w' hSw; have hq := hSw; obtain ⟨s1, s2, s3, s4⟩ := hq; clear hSw; go_simp; try with_reducible rfl)
      try simp only [Act.put, List.setIfInBounds_toArray, List.set_cons_zero, List.set_cons_succ]
      refine hTake (i := 21) (v := ?_) (some 76) rfl rfl (by kernel_rfl) (by kernel_rfl) (by kernel_rfl) (fun _ _ _ h => h) (Or.inl ⟨by rfl, ?hy7x21⟩) hS0 ?hr7x21
      case hy7x21 => (intro w' hSw; have hq := hSw; obtain ⟨s1, s2, s3, s4⟩ := hq; clear hSw; go_simp; try with_reducible rfl)
      try simp only [Act.put, List.setIfInBounds_toArray, List.set_cons_zero, List.set_cons_succ]
      refine hTake (i := 22) (v := ?_) (some 77) rfl rfl (by kernel_rfl) (by kernel_rfl) (by kernel_rfl) (fun _ _ _ h => h) (Or.inl ⟨by rfl, ?hy7x22⟩) hS0 ?hr7x22
      case hy7x22 => (intro w' hSw; have hq := hSw; obtain ⟨s1, s2, s3, s4⟩ := hq; clear hSw; go_simp; try with_reducible rfl)
      try simp only [Act.put, List.setIfInBounds_toArray, List.set_cons_zero, List.set_cons_succ]
      refine wpAnyH_all (rs := [23]) (by kernel_rfl) (by simp) (rows1 ?_)
      refine hCall (f := 173) (args := #[.pointer (some ⟨mb, 0, none⟩), .slice (some ⟨w3.heap.size, 0, none⟩) 2048 2048, .int .i64 ((x : Int) * 2048)]) (some 78) rfl rfl rfl (invoke_readAt rfl _ mb _ _ _ rfl rfl (by first | rfl | simp [Act.eval, hw0, hw1])) ?_
      refine (ReadAt_at B mb w3.heap.size 0 2048 2048 (x * 2048) _ (by omega) D (List.replicate 2048 0) w4.drew HF4.out.drew.mem HBLK.out.drew (by omega) (by omega) (by simp) (by omega) (by omega)).mono ?_
      rintro e w5 ⟨rfl, hblk5, hchg⟩
      rw [splice_all _ _ (by rw [seg_len _ _ _ (by omega)]; simp)] at hblk5
      have hb5 : Below w3.heap.size w4 w5 := hchg.below ((Below.refl _ _).drew) (Nat.le_refl _)
      have hS2 : w5.cell? ⟨p, 1, none⟩ = some (.int .u32 (x : Int)) ∧ w5.cell? ⟨p, 16, none⟩ = some (.pointer (some ⟨fp, 0, none⟩)) ∧ w5.cell? ⟨fp, 4, none⟩ = some (.iface 102 (.pointer (some ⟨mb, 0, none⟩))) ∧ w5.cell? ⟨fp, 5, none⟩ = some (.int .i64 2048) :=
        ⟨(hb5.cell (p := ⟨p, 1, none⟩) (by show p < _; omega)).trans d1, (hb5.cell (p := ⟨p, 16, none⟩) (by show p < _; omega)).trans d16, (hb5.cell (p := ⟨fp, 4, none⟩) (by show fp < _; omega)).trans hbe, (hb5.cell (p := ⟨fp, 5, none⟩) (by show fp < _; omega)).trans hbs⟩
      refine ⟨_, rfl, hS2, ?_⟩
      try simp only [Act.put, List.setIfInBounds_toArray, List.set_cons_zero, List.set_cons_succ]
      refine hTake (i := 24) (v := ?_) (some 54) rfl rfl (by kernel_rfl) (by kernel_rfl) (by kernel_rfl) (fun _ _ _ h => h) (Or.inl ⟨by rfl, ?hy7x24⟩) hS2 ?hr7x24
      case hy7x24 => (intro w' hSw; clear hSw; go_simp; try with_reducible rfl)
      try simp only [Act.put, List.setIfInBounds_toArray, List.set_cons_zero, List.set_cons_succ]
      refine hTake (i := 25) (v := ?_) (some 79) rfl rfl (by kernel_rfl) (by kernel_rfl) (by kernel_rfl) (fun _ _ _ h => h) (Or.inl ⟨by rfl, ?hy7x25⟩) hS2 ?hr7x25
      case hy7x25 => (intro w' hSw; clear hSw; go_simp; try with_reducible rfl)
      try simp only [Act.put, List.setIfInBounds_toArray, List.set_cons_zero, List.set_cons_succ]
      refine hTake (i := 26) (v := ?_) (some 80) rfl rfl (by kernel_rfl) (by kernel_rfl) (by kernel_rfl) (fun _ _ _ h => h) (Or.inl ⟨by rfl, ?hy7x26⟩) hS2 ?hr7x26
      case hy7x26 => (intro w' hSw; clear hSw; go_simp; try with_reducible rfl)
      try simp only [Act.put, List.setIfInBounds_toArray, List.set_cons_zero, List.set_cons_succ]
      refine hTake (i := 27) (v := ?_) (some 10) rfl rfl (by kernel_rfl) (by kernel_rfl) (by kernel_rfl) (fun _ _ _ h => h) (Or.inl ⟨by rfl, ?hy7x27⟩) hS2 ?hr7x27
      case hy7x27 => (intro w' hSw; clear hSw; go_simp; try with_reducible rfl)
      try simp only [Act.put, List.setIfInBounds_toArray, List.set_cons_zero, List.set_cons_succ]
      refine hTake (i := 28) (v := ?_) (some 11) rfl rfl (by kernel_rfl) (by kernel_rfl) (by kernel_rfl) (fun _ _ _ h => h) (Or.inl ⟨by rfl, ?hy7x28⟩) hS2 ?hr7x28
      case hy7x28 => (intro w' hSw; clear hSw; go_simp; try with_reducible rfl)
      try simp only [Act.put, List.setIfInBounds_toArray, List.set_cons_zero, List.set_cons_succ]
      refine wpAnyH_done (by kernel_rfl) ?_ _
      refine NoPanic.normal ?_
      have HK5 := Lib.hid hblk5
      have HB5 := Lib.hid hb5
      clear hblk5 hb5 hchg hS2
      go_wp2_with fail
      go_meet
      exact ⟨rfl, rfl, HK5.out, HB5.out⟩
    obtain ⟨rfl, rfl, hblk5, hb5⟩ := hcut
    obtain ⟨w5, rfl⟩ : ∃ w5 : World, w5 = wc := ⟨_, rfl⟩
    have hb35 : Below w3.heap.size w3 w5 := HB4.out.trans hb5
    have hs5 := hb35.size
    have hF5 : FsAt w5 B fp mb pt rd D es := HF4.out.keep (hb5.mono (by omega))
    have hE5 : EntAt w5 p r (.pointer (some ⟨fp, 0, none⟩)) := HE4.out.keepB hb5 (by omega)
    have d16' := hE5.full.2.2.2.2.2.1
    have HF5 := Lib.hid hF5
    have HE5 := Lib.hid hE5
    have HK5 := Lib.hid hblk5
    have HB35 := Lib.hid hb35
    clear hb5 hb35 hblk5 hF5 hE5 d1 d16 hbe hbs hc0 hmk
    go_upto_region 15 with (first
      | (go_at_call 123
         refine (parseDirEntries_any w3.heap.size fp (seg D (x * 2048) 2048) rsA w5 HK5.out HDB2.out HF5.out.se HF5.out.bs HF5.out.ex hrl).mono ?_
         rintro e w6 ⟨v, ps, rfl, hov, hent, hb6⟩
         have HOV := Lib.hid hov
         have HENT := Lib.hid hent
         have HB6 := Lib.hid hb6
         have hs6 := hb6.size
         clear hov hent hb6))
    have hlen := HENT.out.len
    have hm0l : m0 < rsA.length := (List.getElem?_eq_some_iff.1 HM0.out.1).1
    obtain ⟨g2, cap2, rfl, hg2⟩ : ∃ g2 cap2, v = .slice (some ⟨g2, 0, none⟩) rsA.length cap2 ∧ ∀ (j : Nat) (q : Nat), ps[j]? = some q → w6.cell? ⟨g2, j, none⟩ = some (.pointer (some ⟨q, 0, none⟩)) := by
      obtain ⟨_, ⟨_, h0'⟩ | ⟨g2, cap2, e, _, h3, hnc, _, h4, _⟩⟩ := HOV.out
      · omega
      · exact ⟨g2, cap2, by rw [e, hlen], fun j q hq => h4 j (ptrV q) (by rw [List.getElem?_map, hq]; rfl)⟩
    have HG2 := Lib.hid hg2
    have hF6 : FsAt w6 B fp mb pt rd D es := HF5.out.below HB6.out
    have hE6 : EntAt w6 p r (.pointer (some ⟨fp, 0, none⟩)) := HE5.out.below HB6.out
    have f16 := hE6.full.2.2.2.2.2.1
    have fse := hF6.se
    have HF6 := Lib.hid hF6
    have HL := Lib.hid hlen
    have hb36 : Below w3.heap.size w3 w6 := HB35.out.trans (HB6.out.mono hs5)
    have HB36 := Lib.hid hb36
    clear hg2 hF6 hE6 d16' hlen hb36
    go_wp2
    go_loopw [4, 5, 103] (fun v1 v2 iv wr => ∃ q : Nat, iv = .int .i64 q ∧ q ≤ rsA.length ∧ v1 = .int .u32 0 ∧ v2 = .int .u32 0 ∧ wr = w6 ∧ ∀ (mm : Nat) (rr : RecE), mm < q → rsA[mm]? = some rr → (nameB rr).data.toList ≠ a) (fun _ _ iv _ => rsA.length - (intOf iv).toNat)
    case atStart => exact ⟨0, rfl, Nat.zero_le _, rfl, rfl, rfl, fun mm rr h => by omega⟩
    case round =>
      obtain ⟨q, rfl, hq, rfl, rfl, rfl, hno⟩ := hrel
      have HNO := Lib.hid hno
      clear hno
      by_cases hql : q < rsA.length
      · obtain ⟨rq, hrq⟩ : ∃ rq, rsA[q]? = some rq := ⟨rsA[q], List.getElem?_eq_getElem hql⟩
        have hpq : ps[q]? = some (ps[q]'(by have := HL.out; omega)) := List.getElem?_eq_getElem _
        generalize ps[q]'(by have := HL.out; omega) = pq at hpq
        obtain ⟨hpq5, hEq⟩ := HENT.out.ent q pq rq hpq hrq
        have c2 := HG2.out q pq hpq
        obtain ⟨y1, y2, y7, y12, y13, y16, y17, hpql⟩ := hEq.full
        obtain ⟨N, hN⟩ : ∃ N, nameB rq = N := ⟨_, rfl⟩
        have hNl : (⟨(nameB rq).data.toList.toArray⟩ : ByteArray) = N := by rw [← hN]
        have hNA := str_eq hNl HA.out (b := decide ((nameB rq).data.toList = a)) rfl
        rw [hN] at y17
        have HRQ := Lib.hid hrq
        have HEQ := Lib.hid hEq
        clear hpq hrq hEq hNl
        by_cases hmt : (nameB rq).data.toList = a
        · rw [decide_eq_true hmt] at hNA
          have hri := HALL.out q rq HRQ.out hmt
          have z1 := hri.ext
          have z2 := hri.size
          have z3 := hri.dir
          rw [tr.size k hki.2.1] at z2
          have z4 : sizeOfN nd k = 2048 := by unfold sizeOfN; rw [if_pos hdk]
          rw [z4] at z2
          rw [z3] at y7
          rw [z1] at y1
          rw [z2] at y2
          by_cases hr0 : rest = []
          · have hm0' : m = 0 := by rw [← HM.out, hr0]; rfl
            subst hm0'
            have hjk : k = j := by have h := HDN.out; rw [hr0] at h; exact h
            go_wp2
            go_ret3
            subst hjk
            exact ⟨rfl, HB3.out.trans (HB36.out.mono hs3)⟩
          · have hm1 : (0 : Int) < m := by have := List.length_pos_iff.2 hr0; have := HM.out; omega
            have hm1' : (1 : Int) < (m : Int) + 1 := by omega
            have hcap1 : ¬ cap = 1 := by omega
            go_wp2_with (first
              | (go_at_call 69
                 refine (join_any g _ m rest HM.out wr (fun jj y hy => by rw [HB36.out.cell (p := ⟨g, 1 + jj, none⟩) hglt]; exact HGC.out (1 + jj) y (by rw [Nat.add_comm]; exact hy)) (by have := HB36.out.size; omega) (fun e he => HS.out.plain e (List.mem_cons_of_mem _ he)) hr0 (by have h1 := (HS.out.tail hr0).small; simpa [ByteArray.size] using h1)).mono ?_
                 rintro e w7 ⟨rfl, hb7⟩
                 have HB7 := Lib.hid hb7
                 clear hb7)
              | (go_at_call 121
                 refine (HIH.out k j pq rq ⟨(joinP rest).toArray⟩ _ (HF6.out.below HB7.out) (HEQ.out.below HB7.out) z1 z2 hki.2.1 hdk HDN.out (HS.out.tail hr0)).mono ?_
                 rintro e w8 ⟨rfl, hb8⟩
                 have HB8 := Lib.hid hb8
                 clear hb8))
            go_ret3
            have hs36 := HB36.out.size
            have hs7 := HB7.out.size
            exact ⟨rfl, ((HB3.out.trans (HB36.out.mono hs3)).trans (HB7.out.mono (by omega))).trans (HB8.out.mono (by omega))⟩
        · rw [decide_eq_false hmt] at hNA
          go_wp2
          go_roundw
          case rel =>
            have hnew : ∀ (mm : Nat) (rr : RecE), mm < q + 1 → rsA[mm]? = some rr → (nameB rr).data.toList ≠ a := fun mm rr hmm hrr => by
              by_cases e : mm = q
              · subst e
                rw [HRQ.out] at hrr; cases hrr; exact hmt
              · exact HNO.out mm rr (by omega) hrr
            repeat apply Exists.intro
            exact ⟨⟨q + 1, by go_num, by omega, rfl, rfl, rfl, hnew⟩, rfl⟩
          case measure => simp [intOf]; omega
      · exact absurd HM0.out.2 (HNO.out m0 r0 (by omega) HM0.out.1)

end Go.Proofs.YtfppgplboomdbaaGreatDoor
