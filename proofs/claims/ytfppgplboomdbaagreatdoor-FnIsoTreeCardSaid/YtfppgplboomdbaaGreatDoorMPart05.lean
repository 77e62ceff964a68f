/- Part of the proofs of laws.FnIsoTree and laws.FnIsoAt: lemmas and contracts of functions that the two laws reach, each under the hypotheses that its own statement names. -/
import Derived.Test.YtfppgplboomdbaaGreatDoorMPart04
import Derived.Test.YtfppgplboomdbaaGreatDoorMD0
import Derived.Deep.DeepCutAuto
import Derived.Lib.SlBytesConst
namespace Go.Proofs.YtfppgplboomdbaaGreatDoor
open Go.RowKit

theorem pathEnt_len_eq (nd : Nat → Nd) (num ex sz num' ex' sz' : Nat → Int) (little little' : Bool) (d : Nat) : (pathEnt (wes nd num ex sz) little d).length = (pathEnt (wes nd num' ex' sz') little' d).length := by
  have e : idP (wes nd num ex sz) d = idP (wes nd num' ex' sz') d := rfl
  simp only [pathEnt, List.length_append, numB_length, e]
theorem pathsD_len_eq (nd : Nat → Nd) (num ex sz num' ex' sz' : Nat → Int) (little little' : Bool) : ∀ ds : List Nat, (pathsD (wes nd num ex sz) little ds).length = (pathsD (wes nd num' ex' sz') little' ds).length
  | [] => rfl
  | d :: ds => by
    have h := pathsD_len_eq nd num ex sz num' ex' sz' little little' ds
    simp only [pathsD, List.flatMap_cons, List.length_append] at h ⊢
    rw [pathEnt_len_eq nd num ex sz num' ex' sz' little little' d, h]
theorem Built.size_id {fs : List FileD} {nd : Nat → Nd} {ks0 : Nat → List Nat} (ho : FilesOK fs) (hb : Built fs nd ks0 fs.length) (i : Nat) (h1 : 1 ≤ i) (h2 : i < fs.length + 1) : 1 ≤ (nd i).id.size ∧ (nd i).id.size ≤ 14 := by
  obtain ⟨f, e1, e2, e3, _⟩ := hb.node (i - 1) (by omega)
  have e : i - 1 + 1 = i := by omega
  rw [e] at e3
  have a := idOf_pos ho e1
  have b := ho.ids _ _ e1
  have c : (nd i).id.data.toList.length = (nd i).id.size := rfl
  rw [← c, e3]; exact ⟨a, b⟩
theorem Built.size_data {fs : List FileD} {nd : Nat → Nd} {ks0 : Nat → List Nat} (ho : FilesOK fs) (hb : Built fs nd ks0 fs.length) (i : Nat) (h2 : i < fs.length + 1) : (nd i).f.data.size ≤ 100000 := by
  by_cases h0 : i = 0
  · subst h0; rw [hb.root.1]; decide
  · obtain ⟨f, e1, e2, _⟩ := hb.node (i - 1) (by omega)
    have e : i - 1 + 1 = i := by omega
    rw [e] at e2
    rw [e2]; exact ho.data _ _ e1
theorem DirsOK.idx {nd : Nat → Nd} {n : Nat} {ds : List Nat} {num : Nat → Int} (h : DirsOK nd n ds num) {d : Nat} (hd : d < n) (hdir : (nd d).f.dir = true) : ∃ j, j < ds.length ∧ ds[j]? = some d ∧ num d = (j : Int) + 1 := by
  obtain ⟨j, hj⟩ := List.getElem?_of_mem ((h.mem d).2 ⟨hd, hdir⟩)
  exact ⟨j, (List.getElem?_eq_some_iff.1 hj).1, hj, h.num j d hj⟩
theorem DirsOK.len_le {nd : Nat → Nd} {n : Nat} {ds : List Nat} {num : Nat → Int} (h : DirsOK nd n ds num) : ds.length ≤ n := length_le_of_nodup n ds h.nodup (fun x hx => ((h.mem x).1 hx).1)
theorem ndok {fs : List FileD} {nd : Nat → Nd} {ks0 ks : Nat → List Nat} {ds : List Nat} {num ex sz : Nat → Int} (ho : FilesOK fs) (hb : Built fs nd ks0 fs.length) (ht : Tree nd ks (fs.length + 1)) (hd : DirsOK nd (fs.length + 1) ds num) (he : ∀ i, i < fs.length + 1 → 0 ≤ ex i ∧ ex i ≤ 4294967295) : NdOK (wes nd num ex sz) (fs.length + 1) := by
  have hfew := ho.few
  have hp : ∀ i, i < fs.length + 1 → (nd i).parent < fs.length + 1 ∧ (nd (nd i).parent).f.dir = true := fun i hi => by
    rcases Nat.eq_zero_or_pos i with rfl | h0
    · rw [ht.par0]; exact ⟨ht.pos, ht.root⟩
    · have := ht.par i h0 hi; exact ⟨by omega, this.2⟩
  refine ⟨fun i hi => ?_, fun i hi hdir => ?_, fun i hi => (hp i hi).2, fun i hi => (hp i hi).1, fun i hi => ?_, fun i h1 hi => ?_⟩
  · have := he i hi
    show 0 ≤ ex i ∧ ex i < 4294967296
    omega
  · obtain ⟨j, h1, _, h3⟩ := hd.idx hi hdir
    have := hd.len_le
    show 0 ≤ num i ∧ num i < 65536
    rw [h3]; omega
  · show (nd i).id.size ≤ 255
    by_cases h0 : i = 0
    · subst h0; rw [hb.root.2.1]; decide
    · have := hb.size_id ho i (by omega) hi; omega
  · exact (hb.size_id ho i h1 hi).1
theorem blocksOf_nat (n m : Nat) (hm : m = (n + 2047) / 2048) (h1 : n ≤ 100000000) (w : World) :
    Calls Tryz.prog 24 #[.int .i64 (n : Int)] w fun e w' => e = .returned (.int .u32 (m : Int)) ∧ w = w' :=
  (blocksOf_any n (by omega) (by omega) w).mono fun _ _ ⟨h, h2⟩ => ⟨by rw [h]; exact ret_int (by omega), h2⟩
/-- Behind k directories. -/
structure L1 (w wr : World) (g n cap : Nat) (nd : Nat → Nd) (ks : Nat → List Nat) (kv : Nat → Value) (vd : Value) (ds : List Nat) (num ex sz : Nat → Int) (lo nx : Nat) (done : Nat → Prop) : Prop where
  st : LSt w wr g n cap nd ks kv vd ds num ex sz
  laid : Laid done ex sz lo nx
  rest : ∀ i, i < n → ¬ done i → ex i = 0 ∧ sz i = 0
  size : ∀ i, done i → sz i = sizeOfN nd i
theorem L1.bd {w wr : World} {g n cap : Nat} {nd : Nat → Nd} {ks : Nat → List Nat} {kv : Nat → Value} {vd : Value} {ds : List Nat} {num ex sz : Nat → Int} {lo nx : Nat} {done : Nat → Prop} (h : L1 w wr g n cap nd ks kv vd ds num ex sz lo nx done) (hnx : nx ≤ 100000) (hsz : ∀ i, i < n → (nd i).f.data.size ≤ 100000) : NdB (wes nd num ex sz) n := by
  have key : ∀ i, i < n → (0 ≤ ex i ∧ ex i ≤ 4294967295) ∧ (0 ≤ sz i ∧ sz i ≤ 4294967295) := fun i hi => by
    rcases Classical.em (done i) with hd | hd
    · have h1 := h.laid.within i hd
      have h2 := blk_nonneg h1.2.2
      have h3 := h.size i hd
      have h4 := hsz i hi
      have h5 : sizeOfN nd i ≤ 100000 := by unfold sizeOfN; split <;> omega
      omega
    · have := h.rest i hi hd; omega
  exact ⟨fun i hi => (key i hi).1, fun i hi => (key i hi).2⟩
theorem L1.put {w wr : World} {g n cap : Nat} {nd : Nat → Nd} {ks : Nat → List Nat} {kv : Nat → Value} {vd : Value} {ds : List Nat} {num ex sz : Nat → Int} {lo nx : Nat} {done done' : Nat → Prop} (h : L1 w wr g n cap nd ks kv vd ds num ex sz lo nx done) {w' : World} (hw : Below wr.heap.size wr w') {q : Nat} (hq : q < n) (hd : ¬ done q) (hdd : ∀ i, done' i ↔ done i ∨ i = q) {s m : Nat} (hs : (s : Int) = sizeOfN nd q) (hm : m = (s + 2047) / 2048) :
    L1 w ((w'.setCell ⟨g, q * 18 + 11, none⟩ (.int .u32 (nx : Int))).setCell ⟨g, q * 18 + 12, none⟩ (.int .u32 (s : Int))) g n cap nd ks kv vd ds num (upd ex q nx) (upd sz q s) lo (nx + m) done' := by
  refine ⟨((h.st.later hw).ext hq _).size hq _, ?_, fun i hin hi => ?_, fun i hi => ?_⟩
  · have := h.laid.put hd (s := (s : Int)) (by omega) (fun i hi => (hdd i).1 hi)
    have e : ((nx + m : Nat) : Int) = nx + blk s := by unfold blk; omega
    rw [e]; exact this
  · have h1 : ¬ done i ∧ i ≠ q := ⟨fun x => hi ((hdd i).2 (.inl x)), fun x => hi ((hdd i).2 (.inr x))⟩
    rw [upd_ne _ _ h1.2, upd_ne _ _ h1.2]; exact h.rest i hin h1.1
  · by_cases e : i = q
    · subst e; rw [upd_self]; exact hs
    · rw [upd_ne _ _ e]
      rcases (hdd i).1 hi with h1 | h1
      · exact h.size i h1
      · exact absurd h1 e
theorem L1.iff {w wr : World} {g n cap : Nat} {nd : Nat → Nd} {ks : Nat → List Nat} {kv : Nat → Value} {vd : Value} {ds : List Nat} {num ex sz : Nat → Int} {lo nx : Nat} {done done' : Nat → Prop} (h : L1 w wr g n cap nd ks kv vd ds num ex sz lo nx done) (hd : ∀ i, done' i ↔ done i) : L1 w wr g n cap nd ks kv vd ds num ex sz lo nx done' :=
  ⟨h.st, h.laid.weaken (fun i hi => (hd i).1 hi), fun i hin hi => h.rest i hin (fun x => hi ((hd i).2 x)), fun i hi => h.size i ((hd i).1 hi)⟩
theorem L1.num {w wr : World} {g n cap : Nat} {nd : Nat → Nd} {ks : Nat → List Nat} {kv : Nat → Value} {vd : Value} {ds : List Nat} {num ex sz : Nat → Int} {bp P nx : Nat} {done : Nat → Prop} (h : L1 w wr g n cap nd ks kv vd ds num ex sz (18 + bp + bp) nx done) (hd : ∀ i, i < n → done i) (hbp : bp = (P + 2047) / 2048) (hnx : nx ≤ 10000) : NumOK (wes nd num ex sz) n P (18 + bp) (18 + bp + bp) nx :=
  ⟨by unfold blk; omega, by unfold blk; omega, h.laid.weaken hd, fun i hi => h.size i (hd i hi), hnx⟩

end Go.Proofs.YtfppgplboomdbaaGreatDoor

namespace Go.Proofs.YtfppgplboomdbaaGreatDoor
open Go.RowKit

/-- make([]byte, n, m): a new block of zeros; the world behind it under a new name. -/
theorem wpList_make_bytes2 {P : Program} {w : World} {ops : Array Oper} {rest : List Oper} {o : Oper} {a : Act} {Q : Exit → Act → World → Prop}
    (hg : o.guard = none) (l c : Operand) (t : TypeId) (hop : o.op = Op.makeSlice t l c)
    (i : TypeInfo) (h1 : P.underlying t = some (.slice 5)) (h2 : P.info? 5 = some i) (h3 : i.zero = some (.int .u8 0)) (h4 : i.size = 1) (h5 : i.bytes = 1)
    (kl kc : IntKind) (L C : Int) (n m : Nat) (hl : a.eval l = .int kl L) (hc : a.eval c = .int kc C) (hL : L = (n : Int)) (hC : C = (m : Int)) (hnm : n ≤ m) (b2 : m ≤ 281474976710656)
    (B : Nat) (w0 : World) (hb : Below B w0 w) (hB : B ≤ w.heap.size)
    (hK : ∀ w', Blk w' w.heap.size (List.replicate m 0) → Below B w0 w' → Below w.heap.size w w' → w'.heap.size = w.heap.size + 1 → wpList P ops Q rest (a.put o.dst (.slice (some ⟨w.heap.size, 0, none⟩) n m)) w') :
    wpList P ops Q (o :: rest) a w := by
  refine wpList_plain hg fun K hK' => ?_
  subst hL; subst hC
  have hb' : (i.bytes : Int) * (m : Int) ≤ 281474976710656 := by rw [h5]; omega
  have hrun := run_make (P := P) w t 5 i (.int .u8 0) h1 h2 h3 kl kc n m (by omega) (by omega) hb' (by omega)
  simp only [Int.toNat_natCast, h4, Nat.mul_one] at hrun
  have hcells : (madeCells (Value.int .u8 0).cells m) = (bcs (List.replicate m 0)).toArray := by
    apply Array.ext'
    have : (Value.int .u8 0).cells = #[Value.int .u8 0] := rfl
    rw [this, toList_madeCells_one]; simp [bcs]
  rw [hcells] at hrun
  unfold Oper.wp
  simp [execOp, hop, hl, hc, hrun, Result.andThen]
  exact hK' _ _ (hK _ (Blk.new w _) (hb.alloc hB _) ((Below.refl _ _).alloc (Nat.le_refl _) _) (by simp))

/-- The image while it is filled. -/
structure PB (w0 wr : World) (L : Nat) (D : Bs) : Prop where
  img : Blk wr w0.heap.size D
  len : D.length = L
  po : wr.cell? ⟨w0.heap.size + 1, 0, none⟩ = some (.slice (some ⟨w0.heap.size, 0, none⟩) L L)
  below : Below w0.heap.size w0 wr
theorem PB.lt {w0 wr : World} {L : Nat} {D : Bs} (h : PB w0 wr L D) : w0.heap.size + 1 < wr.heap.size := World.block_lt_of_cell? wr _ h.po
theorem PB.later {w0 wr w' : World} {L : Nat} {D : Bs} (h : PB w0 wr L D) (hb : Below wr.heap.size wr w') : PB w0 w' L D :=
  ⟨h.img.below hb, h.len, by rw [hb.cell (p := ⟨w0.heap.size + 1, 0, none⟩) h.lt]; exact h.po, h.below.trans (hb.mono h.below.size)⟩
theorem PB.start {w0 w7 : World} {L : Nat} (h : Blk w7 w0.heap.size (List.replicate L 0)) (hb : Below w0.heap.size w0 w7) (hs : w7.heap.size = w0.heap.size + 1) : PB w0 (w7.alloc (.cells #[.slice (some ⟨w0.heap.size, 0, none⟩) L L] 26)) L (List.replicate L 0) :=
  ⟨h.alloc _, by simp, by rw [← hs, new_cell]; rfl, hb.alloc hb.size _⟩
theorem PB.put {w0 wr : World} {L : Nat} {D S : Bs} (h : PB w0 wr L D) (x : Int) (b M c : Nat) (sp : Option Addr) (hx : x = (b : Int)) (hS : SrcB wr sp S) (hM : S.length = M) (hfit : b * 2048 + M ≤ L) (hlen : L ≤ 100000000) :
    Calls Tryz.prog 26 #[.int .u32 x, .slice sp M c, .pointer (some ⟨w0.heap.size + 1, 0, none⟩)] wr fun e w' => e = .returned (.tuple #[]) ∧ PB w0 w' L (splice D (b * 2048) S) ∧ ∀ k, k < wr.heap.size → k ≠ w0.heap.size → w'.heap[k]? = wr.heap[k]? := by
  subst hx
  have hlt := h.lt
  refine (lay_any w0.heap.size (w0.heap.size + 1) D S b L M c sp wr h.img h.len h.po hS hM hfit hlen wr.heap.size).mono ?_
  rintro e w' ⟨rfl, h1, h2⟩
  refine ⟨rfl, ⟨h1, by rw [length_splice _ _ _ (by rw [hM, h.len]; exact hfit)]; exact h.len, by rw [h2.cell (o := 0) (by omega) (by omega)]; exact h.po, h.below.trans (h2.below (Nat.le_refl _) (by omega))⟩, h2.block⟩
theorem term_blk (w : World) : Blk (w.alloc (.cells #[.int .u8 255, .int .u8 67, .int .u8 68, .int .u8 48, .int .u8 48, .int .u8 49, .int .u8 1] 5)) w.heap.size [255, 67, 68, 48, 48, 49, 1] := heap_alloc_new w _
theorem SrcB.of_own {w : World} {B n : Nat} {ad : Option Addr} {cap : Nat} {S : Bs} (h : OwnS w B 1 (.slice ad n cap) n (bcs S)) : SrcB w ad S ∧ S.length = n := by
  have hl := h.1
  rw [bcs_length] at hl
  obtain ⟨sp, c, e, hs⟩ := h.src
  cases e
  exact ⟨hs, by omega⟩
/-- make([]byte, L), its run told ahead. -/
theorem run_make_blk (w : World) (L : Nat) (hL : L ≤ 281474976710656) : ∃ w', (Instr.makeSlice 26 (.int .i64 (L : Int)) (.int .i64 (L : Int))).run Tryz.prog w = .ok (.slice (some ⟨w.heap.size, 0, none⟩) L L) w' ∧ Blk w' w.heap.size (List.replicate L 0) ∧ Below w.heap.size w w' ∧ w'.heap.size = w.heap.size + 1 := by
  obtain ⟨i, hi, h3, h4, h5⟩ := info_parts Tryz.info5
  have hb' : (i.bytes : Int) * (L : Int) ≤ 281474976710656 := by rw [h5]; omega
  have hrun := run_make (P := Tryz.prog) w 26 5 i (.int .u8 0) Tryz.underlying26 hi h3 .i64 .i64 L L (by omega) (by omega) hb' (by omega)
  simp only [Int.toNat_natCast, h4, Nat.mul_one] at hrun
  have hcells : (madeCells (Value.int .u8 0).cells L) = (bcs (List.replicate L 0)).toArray := by
    apply Array.ext'
    have : (Value.int .u8 0).cells = #[Value.int .u8 0] := rfl
    rw [this, toList_madeCells_one]; simp [bcs]
  rw [hcells] at hrun
  exact ⟨_, hrun, Blk.new w _, (Below.refl _ _).alloc (Nat.le_refl _) _, by simp⟩
theorem sp2048 {D cs : Bs} {off : Nat} (h : D.length = 2048) (ho : off + cs.length ≤ 2048) : (splice D off cs).length = 2048 := by rw [length_splice _ _ _ (by omega)]; exact h
set_option maxRecDepth 100000 in
theorem volD_len (vol : Bs) (ext size blocks paths little big : Int) (tm : Bs) (hv : vol.length ≤ 32) (htm : tm.length = 7) : (volD vol ext size blocks paths little big tm).length = 2048 := by
  unfold volD
  simp only [List.length_set]
  have hr := recD_len [0] ext size tm true htm
  refine sp2048 (sp2048 (sp2048 (sp2048 (sp2048 (sp2048 (sp2048 (sp2048 (sp2048 (sp2048 (sp2048 (sp2048 (sp2048 (sp2048 (sp2048 (sp2048 (sp2048 (sp2048 (List.length_replicate) ?_) ?_) ?_) ?_) ?_) ?_) ?_) ?_) ?_) ?_) ?_) ?_) ?_) ?_) ?_) ?_) ?_) ?_
  all_goals first | (rw [hr]; decide) | (simp only [List.length_append, List.length_replicate]; omega) | (simp [b32]; done) | (simp [b16]; done) | decide
set_option maxRecDepth 100000 in
theorem img0 (vol : Bs) (nd : Nat → Nd) (ks : Nat → List Nat) (ds : List Nat) (nx bp P L : Nat) (tm : Bs) (hv : vol.length ≤ 32) (htm : tm.length = 7) (hP : (pathsD nd true ds).length = P) (hPB : (pathsD nd false ds).length = P) (hbp : bp = (P + 2047) / 2048) (hnx : 18 + bp + bp ≤ nx) (hL : L = nx * 2048) :
    ImgK vol nd ks ds nx (18 + bp) P 0 (splice (splice (splice (splice (List.replicate L 0) (16 * 2048) (volD vol (nd 0).ext (nd 0).size nx P 18 ((18 + bp : Nat) : Int) tm)) (17 * 2048) [255, 67, 68, 48, 48, 49, 1]) (18 * 2048) (pathsD nd true ds)) ((18 + bp) * 2048) (pathsD nd false ds)) := by
  have hV := volD_len vol (nd 0).ext (nd 0).size nx P 18 ((18 + bp : Nat) : Int) tm hv htm
  generalize hVV : volD vol (nd 0).ext (nd 0).size nx P 18 ((18 + bp : Nat) : Int) tm = V at hV ⊢
  have l0 : (List.replicate L (0 : UInt8)).length = L := List.length_replicate
  generalize List.replicate L (0 : UInt8) = D0 at l0 ⊢
  have f1 : 16 * 2048 + V.length ≤ D0.length := by omega
  have l1 : (splice D0 (16 * 2048) V).length = L := by rw [length_splice _ _ _ f1]; exact l0
  have s1 : seg (splice D0 (16 * 2048) V) 32768 2048 = V := seg_splice_same D0 V (16 * 2048) 2048 f1 hV.symm
  generalize splice D0 (16 * 2048) V = D1 at l1 s1 ⊢
  have f2 : 17 * 2048 + ([255, 67, 68, 48, 48, 49, 1] : Bs).length ≤ D1.length := by simp; omega
  have l2 : (splice D1 (17 * 2048) [255, 67, 68, 48, 48, 49, 1]).length = L := by rw [length_splice _ _ _ f2]; exact l1
  have s2 : seg (splice D1 (17 * 2048) [255, 67, 68, 48, 48, 49, 1]) 32768 2048 = V := by rw [seg_splice_apart _ _ _ _ _ f2 (by omega) (.inl (by omega))]; exact s1
  have t2 : seg (splice D1 (17 * 2048) [255, 67, 68, 48, 48, 49, 1]) 34816 7 = [255, 67, 68, 48, 48, 49, 1] := seg_splice_same D1 _ (17 * 2048) 7 f2 rfl
  generalize splice D1 (17 * 2048) [255, 67, 68, 48, 48, 49, 1] = D2 at l2 s2 t2 ⊢
  generalize hA : pathsD nd true ds = A at hP ⊢
  generalize pathsD nd false ds = B at hPB ⊢
  have f3 : 18 * 2048 + A.length ≤ D2.length := by omega
  have l3 : (splice D2 (18 * 2048) A).length = L := by rw [length_splice _ _ _ f3]; exact l2
  have s3 : seg (splice D2 (18 * 2048) A) 32768 2048 = V := by rw [seg_splice_apart _ _ _ _ _ f3 (by omega) (.inl (by omega))]; exact s2
  have t3 : seg (splice D2 (18 * 2048) A) 34816 7 = [255, 67, 68, 48, 48, 49, 1] := by rw [seg_splice_apart _ _ _ _ _ f3 (by omega) (.inl (by omega))]; exact t2
  have u3 : seg (splice D2 (18 * 2048) A) 36864 P = A := seg_splice_same D2 A (18 * 2048) P f3 hP.symm
  generalize splice D2 (18 * 2048) A = D3 at l3 s3 t3 u3 ⊢
  have f4 : (18 + bp) * 2048 + B.length ≤ D3.length := by omega
  have l4 : (splice D3 ((18 + bp) * 2048) B).length = L := by rw [length_splice _ _ _ f4]; exact l3
  refine ⟨by omega, ⟨tm, htm, ?_⟩, ?_, ?_, fun i hi => by omega, fun i hi => by omega⟩
  · rw [hVV, seg_splice_apart _ _ _ _ _ f4 (by omega) (.inl (by omega))]; exact s3
  · rw [seg_splice_apart _ _ _ _ _ f4 (by omega) (.inl (by omega))]; exact t3
  · rw [seg_splice_apart _ _ _ _ _ f4 (by omega) (.inl (by omega))]; rw [hA]; exact u3
theorem term_src (w : World) : SrcB (w.alloc (.cells #[.int .u8 255, .int .u8 67, .int .u8 68, .int .u8 48, .int .u8 48, .int .u8 49, .int .u8 1] 5 (7, 8))) (some ⟨w.heap.size, 0, none⟩) [255, 67, 68, 48, 48, 49, 1] := fun _ => ⟨w.heap.size, 0, rfl, fun j hj => by
  rw [Nat.zero_add, cell_of_row _ _ _ _ _ _ (heap_alloc_new w _)]
  have h7 : j < 7 := hj
  have : j = 0 ∨ j = 1 ∨ j = 2 ∨ j = 3 ∨ j = 4 ∨ j = 5 ∨ j = 6 := by omega
  rcases this with rfl | rfl | rfl | rfl | rfl | rfl | rfl <;> rfl⟩
theorem isoPaths_at {w wr w' : World} {g n cap gd cd m : Nat} {nd : Nat → Nd} {ks : Nat → List Nat} {kv : Nat → Value} {ds : List Nat} {num ex sz : Nat → Int} (h : LSt w wr g n cap nd ks kv (.slice (some ⟨gd, 0, none⟩) ds.length cd) ds num ex sz) (hb : Below wr.heap.size wr w') (hok : NdOK (wes nd num ex sz) n) (hds : ∀ d ∈ ds, d < n) (hm : ds.length = m) (hm2 : m ≤ 101) (hn : n ≤ 101) (little : Bool) (P : Nat) (hP : (pathsD (wes nd num ex sz) little ds).length = P) :
    Calls Tryz.prog 23 #[.slice (some ⟨g, 0, none⟩) n cap, .slice (some ⟨gd, 0, none⟩) m cd, .bool little] w' fun e w'' => ∃ ad c, e = .returned (.slice ad P c) ∧ OwnS w'' w'.heap.size 1 (.slice ad P c) P (bcs (pathsD (wes nd num ex sz) little ds)) ∧ Below w'.heap.size w' w'' := by
  subst hm
  refine (isoPaths_any _ _ _ _ _ _ _ _ _ _ little (h.later hb).nodes (h.later hb).dirs hok hds hm2 hn).mono ?_
  rintro e w'' ⟨v, rfl, ho, hb2⟩
  rw [hP] at ho
  obtain ⟨ad, c, rfl⟩ := ho.slice
  exact ⟨ad, c, rfl, ho, hb2⟩
theorem KidsOwn.drew {w : World} {B g n : Nat} {ks : Nat → List Nat} {kv : Nat → Value} (h : KidsOwn w B g n ks kv) : KidsOwn w.drew B g n ks kv := ⟨h.own, h.apart, h.each⟩
/-- '[]byte(s)', its run told ahead. -/
theorem run_bytes_own (s : ByteArray) (w : World) (hs : s.size ≤ 1000000) : ∃ ad c w', (convert 9 26 (.string s)).run Tryz.prog w = .ok (.slice ad s.size c) w' ∧ SrcB w' ad s.data.toList ∧ Below w.heap.size w w' := by
  have hcg := grownCap_ge w s.size 0 5
  have hcm := grownCap_le_maxLen w s.size 0 5 (by unfold maxLen; omega)
  have h := run_bytes_of_string (P := Tryz.prog) w 9 26 5 s Tryz.underlying9 Tryz.underlying26 Tryz.underlying5
  exact ⟨_, _, _, h, (SrcB.of_own (ownS_bytes s w _ hcg hcm)).1, ((Below.refl _ _).drew).alloc (Nat.le_refl _) _⟩

end Go.Proofs.YtfppgplboomdbaaGreatDoor

namespace Go.Proofs.YtfppgplboomdbaaGreatDoor
open Go.RowKit

/-- A memory at block mb, below G, that holds the bytes D. -/
structure Mem (w : World) (G mb : Nat) (D : Bs) : Prop where
  lo : mb < G
  hi : G ≤ w.heap.size
  ex : ∃ gb cap, w.heap[mb]? = some (.cells #[.slice (some ⟨gb, 0, none⟩) D.length cap, .int .i64 0, .bool false, .slice none 0 0] 161 (0, 0)) ∧ D.length ≤ cap ∧ gb < G ∧ ∀ j (h : j < D.length), w.cell? ⟨gb, j, none⟩ = some (.int .u8 (D[j].toNat : Int))
theorem Mem.keep {w w' : World} {G mb : Nat} {D : Bs} (h : Mem w G mb D) (hb : Below G w w') : Mem w' G mb D := by
  obtain ⟨gb, cap, h1, h2, h3, h4⟩ := h.ex
  exact ⟨h.lo, Nat.le_trans h.hi hb.size, gb, cap, (hb.block _ h.lo).trans h1, h2, h3, fun j hj => by rw [hb.cell (p := ⟨gb, j, none⟩) h3]; exact h4 j hj⟩
theorem Mem.below {w w' : World} {G mb : Nat} {D : Bs} (h : Mem w G mb D) (hb : Below w.heap.size w w') : Mem w' G mb D := h.keep (hb.mono h.hi)
theorem Mem.more {w : World} {G G' mb : Nat} {D : Bs} (h : Mem w G mb D) (h1 : G ≤ G') (h2 : G' ≤ w.heap.size) : Mem w G' mb D := by
  obtain ⟨gb, cap, a, b, c, d⟩ := h.ex
  exact ⟨Nat.lt_of_lt_of_le h.lo h1, h2, gb, cap, a, b, by omega, d⟩

set_option maxHeartbeats 1000000 in
theorem memoryOf_any (s : ByteArray) (w : World) (hs : s.size ≤ 100000000) :
    Calls Tryz.prog 49 #[.string s] w fun e w' => (∃ mb, e = .returned (.pointer (some ⟨mb, 0, none⟩)) ∧ w.heap.size ≤ mb ∧ Mem w' w'.heap.size mb s.data.toList) ∧ Below w.heap.size w w' := by
  have hcg := grownCap_ge w s.size 0 5
  have hcm := grownCap_le_maxLen w s.size 0 5 (by unfold maxLen; omega)
  have hcv := run_bytes_of_string (P := Tryz.prog) w 9 26 5 s Tryz.underlying9 Tryz.underlying26 Tryz.underlying5
  have ho := ownS_bytes s w _ hcg hcm
  have hb : Below w.heap.size w (w.drew.alloc (.cells (bytesRow s (grownCap w s.size 0 5)) 5 ((bytesRow s (grownCap w s.size 0 5)).size, (bytesRow s (grownCap w s.size 0 5)).size + 1))) := ((Below.refl _ _).drew).alloc (Nat.le_refl _) _
  have hsz : (w.drew.alloc (.cells (bytesRow s (grownCap w s.size 0 5)) 5 ((bytesRow s (grownCap w s.size 0 5)).size, (bytesRow s (grownCap w s.size 0 5)).size + 1))).heap.size = w.heap.size + 1 := by simp
  generalize (w.drew.alloc (.cells (bytesRow s (grownCap w s.size 0 5)) 5 ((bytesRow s (grownCap w s.size 0 5)).size, (bytesRow s (grownCap w s.size 0 5)).size + 1))) = w1 at hcv ho hb hsz
  generalize grownCap w s.size 0 5 = c at hcv ho hcg hcm
  have HO := Lib.hid ho
  have HB := Lib.hid hb
  have HS := Lib.hid hsz
  clear ho hb hsz
  go_enter Tryz.func49, Tryz.ntmps49
  go_wp2
  go_ret
  have hs1 := HS.out
  refine ⟨⟨w1.heap.size, rfl, by omega, ⟨by simp, Nat.le_refl _, w.heap.size, c, ?_, hcg, by simp; omega, fun j hj => ?_⟩⟩, HB.out.alloc (by omega) _⟩
  · exact heap_alloc_new w1 _
  · rw [World.cell?_alloc_lt _ _ _ (by show w.heap.size < _; omega)]
    exact HO.out.cell (by rw [bcs_get, List.getElem?_eq_getElem hj]; rfl)

/-- Only block g has changed. -/
structure Chg (w w' : World) (g : Nat) : Prop where
  os : w'.os = w.os
  tape : w'.tape = w.tape
  output : w'.output = w.output
  size : w'.heap.size = w.heap.size
  block : ∀ k, k ≠ g → w'.heap[k]? = w.heap[k]?
theorem Chg.below {w0 w w' : World} {g B : Nat} (h : Chg w w' g) (hb : Below B w0 w) (hB : B ≤ g) : Below B w0 w' :=
  hb.trans ⟨h.os, h.tape, h.output, by rw [h.size]; exact Nat.le_refl _, fun k hk => h.block k (by omega)⟩

set_option maxHeartbeats 2000000 in
set_option maxRecDepth 100000 in
theorem ReadAt_any (G mb pb po n c at_ : Nat) (D P : Bs) (w : World) (hm : Mem w G mb D) (hP : Blk w pb P) (_hpb : G ≤ pb) (hn : 0 < n) (hfit : po + n ≤ P.length) (hD : at_ + n ≤ D.length) (hDl : D.length ≤ 100000000) :
    Calls Tryz.prog 173 #[.pointer (some ⟨mb, 0, none⟩), .slice (some ⟨pb, po, none⟩) n c, .int .i64 (at_ : Int)] w fun e w' => e = .returned (.tuple #[.int .i64 n, .nilIface]) ∧ Blk w' pb (splice P po (seg D at_ n)) ∧ Chg w w' pb := by
  obtain ⟨gb, cap, h1, h2, h3, h4⟩ := hm.ex
  have hlo := hm.lo
  have c0 : w.cell? ⟨mb, 0, none⟩ = some (.slice (some ⟨gb, 0, none⟩) D.length cap) := by rw [cell_of_row _ _ _ _ _ _ h1]; rfl
  have hsl := seg_len D at_ n hD
  have hsrc : SrcB w (some ⟨gb, at_, none⟩) (seg D at_ n) := fun _ => ⟨gb, at_, rfl, fun j hj => by
    rw [hsl] at hj
    have e := seg_get D at_ n j hj
    rw [List.getElem?_eq_getElem (by omega : at_ + j < D.length), List.getElem?_eq_getElem (by rw [hsl]; exact hj)] at e
    have e2 := Option.some.inj e
    rw [h4 (at_ + j) (by omega), e2]⟩
  have HSRC := Lib.hid hsrc
  have HSL := Lib.hid hsl
  have HP := Lib.hid hP
  clear hsrc h4 h1 hP
  generalize D.length = L at *
  have hLc : L ≤ 100000000 := hDl
  have hne : ¬ cap = at_ := by omega
  go_enter Tryz.func173, Tryz.ntmps173
  go_wp2_with (first | (refine wpList_copy_bytes rfl (.tmp 23) (.tmp 29) 26 26 rfl Tryz.underlying26 rfl (some ⟨pb, po, none⟩) (some ⟨gb, at_, none⟩) n c (L - at_) (cap - at_) rfl rfl pb po P (seg D at_ n) HP.out rfl HSRC.out (by rw [HSL.out]; exact (Nat.min_eq_right (by omega)).symm) (by rw [HSL.out]; exact hfit) pb w (Below.refl _ _) (Nat.le_refl _) ?_; intro w2 hb2 hbl2 ho2; have HB2 := Lib.hid hb2; have HBL2 := Lib.hid hbl2; have HO2 := Lib.hid ho2; have hx := HSL.out; clear hb2 hbl2 ho2))
  go_ret2
  exact ⟨rfl, HB2.out, ⟨HBL2.out.os, HBL2.out.tape, HBL2.out.output, HO2.out.2, HO2.out.1⟩⟩

end Go.Proofs.YtfppgplboomdbaaGreatDoor
