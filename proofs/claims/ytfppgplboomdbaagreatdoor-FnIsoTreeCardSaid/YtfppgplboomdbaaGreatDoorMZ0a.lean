/- Part of the proofs of laws.FnIsoTree and laws.FnIsoAt: lemmas and contracts of functions that the two laws reach, each under the hypotheses that its own statement names. -/
import Derived.Test.YtfppgplboomdbaaGreatDoorProg
import Derived.LaidLaws
import Derived.WalkKit
namespace Go.Proofs.YtfppgplboomdbaaGreatDoor
open Go.RowKit

/-- A type's own name, where it has one. -/
def nmOf (P : Program) (t : TypeId) : Option String := match P.info? t with
  | some i => (match i.desc with
    | .named n _ => some n
    | .bool | .int _ | .float _ | .string => some i.str
    | _ => none)
  | none => none
def ptOf (P : Program) (t : TypeId) : Option TypeId := match P.info? t with
  | some i => (match i.desc with
    | .pointer e => some e
    | _ => none)
  | none => none
theorem typeName_cases {P : Program} {d : Nat} {t : TypeId} {s : String} (h : P.typeName? (d + 1) t = some s) : nmOf P t = some s ∨ ∃ e s', ptOf P t = some e ∧ P.typeName? d e = some s' ∧ s = "*" ++ s' := by
  unfold Program.typeName? at h
  unfold nmOf ptOf
  cases hi : P.info? t with
  | none => simp [hi] at h
  | some i =>
    simp only [hi] at h
    cases hd : i.desc <;> simp only [hd] at h ⊢ <;> try cases h
    all_goals first
      | (simp only [Option.map_eq_some_iff] at h
         obtain ⟨s', h1, h2⟩ := h
         exact .inr ⟨_, s', rfl, h1, h2.symm⟩)
      | (split at h
         · first
             | (cases h; exact .inl rfl)
             | cases h
         · first
             | (cases h; exact .inl rfl)
             | cases h)
theorem Tryz.tsize : Tryz.prog.types.size = 404 := by kernel_rfl
theorem nm_star : ((List.range 404).all fun t => nmOf Tryz.prog t != some "*errors.errorString") = true := by kernel_rfl
theorem nm_err : ((List.range 404).all fun t => nmOf Tryz.prog t != some "errors.errorString" || t == 192) = true := by kernel_rfl
theorem pt_err : ((List.range 404).all fun t => ptOf Tryz.prog t != some 192 || t == 190) = true := by kernel_rfl
theorem pt_lt : ((List.range 404).all fun t => match ptOf Tryz.prog t with | some e => decide (e < 404) | none => true) = true := by kernel_rfl
theorem named192 : (match (Tryz.prog.info? 192).map (·.desc) with | some (TypeDesc.named _ _) => true | _ => false) = true := by kernel_rfl
theorem no_star (s : String) : "errors.errorString" ≠ "*" ++ s := fun h => by
  have h1 := congrArg (fun s : String => s.toList.head?) h
  simp only [String.toList_append] at h1
  revert h1
  simp
theorem err_of_name (e : Nat) (he : e < 404) (h : Tryz.prog.typeName? 2 e = some "errors.errorString") : e = 192 := by
  rcases typeName_cases h with h1 | ⟨e', s', _, _, h2⟩
  · have h3 := List.all_eq_true.1 nm_err e (List.mem_range.2 he)
    rw [h1] at h3
    simpa using h3
  · exact absurd h2 (no_star s')
theorem star_of_name (u : Nat) (hu : u < 404) (h : Tryz.prog.typeName? 3 u = some ("*" ++ "errors.errorString")) : u = 190 := by
  have hs : "*" ++ "errors.errorString" = "*errors.errorString" := by decide
  rcases typeName_cases h with h1 | ⟨e, s', hp, hn, h2⟩
  · have h3 := List.all_eq_true.1 nm_star u (List.mem_range.2 hu)
    rw [h1, hs] at h3
    simp at h3
  · obtain rfl := star_append_inj h2
    have he := List.all_eq_true.1 pt_lt u (List.mem_range.2 hu)
    rw [hp] at he
    have h4 := err_of_name e (by simpa using he) hn
    subst h4
    have h5 := List.all_eq_true.1 pt_err u (List.mem_range.2 hu)
    rw [hp] at h5
    simpa using h5
theorem Tryz.starE : "*" ++ "errors.errorString" = "*errors.errorString" := by decide
set_option maxRecDepth 100000 in
theorem Tryz.row190 (u : TypeId) (h : Tryz.prog.typeName? 3 u = some "*errors.errorString") : u = 190 :=
  typeName_ptr_named (nm := "errors.errorString") (by
    refine List.all_eq_true.2 fun u hu => ?_
    rw [Tryz.tsize] at hu
    by_cases h : Tryz.prog.typeName? 3 u = some ("*" ++ "errors.errorString")
    · rw [star_of_name u (List.mem_range.1 hu) h]; simp
    · rw [bne_iff_ne.2 h]; rfl) (by
    refine List.all_eq_true.2 fun e he => ?_
    rw [Tryz.tsize] at he
    by_cases h : Tryz.prog.typeName? 2 e = some "errors.errorString"
    · obtain rfl := err_of_name e (List.mem_range.1 he) h
      refine Bool.or_eq_true_iff.2 (.inr ?_)
      exact named192
    · rw [bne_iff_ne.2 h]; rfl) (by decide) u (by rw [Tryz.starE]; exact h)

end Go.Proofs.YtfppgplboomdbaaGreatDoor
