import Derived.Test.Qxb6600100aC2
import Derived.ProofKit
import Derived.OpenShut
import Derived.ShutString
import Derived.ChangeOld
import Derived.Below
import Derived.Deep.Grids
namespace Go.Proofs.Qxb6600100a.S1
set_option linter.unusedVariables false
set_option linter.unusedSimpArgs false
open Go.ChangeShapes Go.WideShapes Go.ChangeAt Go.RowKit
open Go.Proofs.Qxb6600100a

theorem own : ownKnob Try.prog.godebug = none := by kernel_rfl
theorem laidOut : laidOutB Try.prog = true := by kernel_rfl

section
variable {H : Type} {enc : TypeId × Value → H} {W : World} {base : Nat} {d : DataW H} {pl : List MemPlace} {r : Reach} {b0 : Nat} {t e : TypeId} {v : Value}

theorem in_ptr_string (ht : Try.prog.underlying t = some (.pointer e)) (he : Try.prog.underlying e = some .string) (hc : Try.prog.cellsOf e = 1)
    (hval : Value.okWide Try.prog W r b0 t v) (hd : DataW.Trod enc Try.prog W base (fun _ => true) true t v d pl) :
    ∃ o, v = .pointer o ∧ ∀ a, o = some a → ∃ s : ByteArray, s.size ≤ maxLen ∧ W.cell? a = some (.string s) := by
  rcases Go.ChangeShapes.open_ptr ht (by omega) hval hd with ⟨rfl, _⟩ | ⟨b, off, cs, y, fuel, rfl, _, _, _, hcell, hy⟩
  · exact ⟨none, rfl, fun a h => by cases h⟩
  · obtain ⟨s, rfl, _, hs⟩ := DataW.trod_string he hy
    refine ⟨_, rfl, fun a h => ?_⟩
    cases h
    exact ⟨s, hs, by simpa using hcell 0 (by omega)⟩
theorem in_ptr_int {k : IntKind} (ht : Try.prog.underlying t = some (.pointer e)) (he : Try.prog.underlying e = some (.int k)) (hc : Try.prog.cellsOf e = 1)
    (hval : Value.okWide Try.prog W r b0 t v) (hd : DataW.Trod enc Try.prog W base (fun _ => true) true t v d pl) :
    ∃ o, v = .pointer o ∧ ∀ a, o = some a → ∃ x : Int, W.cell? a = some (.int k x) := by
  rcases Go.ChangeShapes.open_ptr ht (by omega) hval hd with ⟨rfl, _⟩ | ⟨b, off, cs, y, fuel, rfl, _, _, _, hcell, hy⟩
  · exact ⟨none, rfl, fun a h => by cases h⟩
  · obtain ⟨x, rfl, _, hs⟩ := DataW.trod_int he hy
    refine ⟨_, rfl, fun a h => ?_⟩
    cases h
    exact ⟨x, by simpa using hcell 0 (by omega)⟩
theorem in_ptr_bool (ht : Try.prog.underlying t = some (.pointer e)) (he : Try.prog.underlying e = some .bool) (hc : Try.prog.cellsOf e = 1)
    (hval : Value.okWide Try.prog W r b0 t v) (hd : DataW.Trod enc Try.prog W base (fun _ => true) true t v d pl) :
    ∃ o, v = .pointer o ∧ ∀ a, o = some a → ∃ x : Bool, W.cell? a = some (.bool x) := by
  rcases Go.ChangeShapes.open_ptr ht (by omega) hval hd with ⟨rfl, _⟩ | ⟨b, off, cs, y, fuel, rfl, _, _, _, hcell, hy⟩
  · exact ⟨none, rfl, fun a h => by cases h⟩
  · obtain ⟨x, rfl, _⟩ := DataW.trod_bool he hy
    refine ⟨_, rfl, fun a h => ?_⟩
    cases h
    exact ⟨x, by simpa using hcell 0 (by omega)⟩
end

set_option maxRecDepth 100000 in
theorem lifted (os : Os) (started : os.Started) (H : Type) (enc : TypeId × Value → H) :
    ReturnsInHanded {} Try.checked os 7 .any (Rows.fnCarriesCountsAndTogglesSpec.pre6 enc Try.prog Try.f7 Rows.fnCarriesCountsAndTogglesRow.domain false) (Rows.fnCarriesCountsAndTogglesSpec.post enc Try.prog Try.f7 false true false false) := by
  refine returnsInHanded_of_change (C := Try.checked) own started (by kernel_rfl) Try.func7
    (ChangeSpec.witness6 (enc := enc) (C := Try.checked) false ⟨#[], #[.pointer none, .pointer none, .pointer none, .pointer none], []⟩ 8 (by kernel_rfl) (by kernel_rfl) (by kernel_rfl) (by kernel_rfl)) ?_
  intro W base args ds gs before hval0 hW hcnd _
  have hval : ∀ (j : Nat) t v, Try.f7.params[j]? = some t → args[j]? = some v → Value.okWide Try.prog W .any base t v := hval0
  have hW' := hW
  obtain ⟨p, q, hA0, hV, rfl, hfz, hnd⟩ := hW
  have hA : DataW.TrodAll enc Try.prog W 0 (fun _ => true) true Try.f7.params.toList args.toList ds p := hA0
  rw [Try.params7] at hA hval
  obtain ⟨v0, vs0, d0, ds0, p0, q0, hargs, rfl, rfl, h0, r0⟩ := trodAll_cons hA
  obtain ⟨v1, vs1, d1, ds1, p1, q1, rfl, rfl, rfl, h1, r1⟩ := trodAll_cons r0
  obtain ⟨v2, vs2, d2, ds2, p2, q2, rfl, rfl, rfl, h2, r2⟩ := trodAll_cons r1
  obtain ⟨v3, vs3, d3, ds3, p3, q3, rfl, rfl, rfl, h3, r3⟩ := trodAll_cons r2
  obtain ⟨rfl, rfl, rfl⟩ := trodAll_nil r3
  obtain rfl : args = #[v0, v1, v2, v3] := by cases args; simp_all
  obtain ⟨rfl, rfl⟩ := trodVars_none hV
  have lt0 : ∀ x ∈ p0, x.block < W.heap.size := by obtain ⟨m, hm⟩ := h0; exact DataW.trod_lt m _ _ _ hm
  have lt1 : ∀ x ∈ p1, x.block < W.heap.size := by obtain ⟨m, hm⟩ := h1; exact DataW.trod_lt m _ _ _ hm
  have lt2 : ∀ x ∈ p2, x.block < W.heap.size := by obtain ⟨m, hm⟩ := h2; exact DataW.trod_lt m _ _ _ hm
  have lt3 : ∀ x ∈ p3, x.block < W.heap.size := by obtain ⟨m, hm⟩ := h3; exact DataW.trod_lt m _ _ _ hm
  obtain ⟨o0, rfl, c0⟩ := in_ptr_string Try.underlying26 Try.underlying9 (by kernel_rfl) (hval 0 26 v0 rfl rfl) h0
  obtain ⟨o1, rfl, c1⟩ := in_ptr_int Try.underlying27 Try.underlying2 (by kernel_rfl) (hval 1 27 v1 rfl rfl) h1
  obtain ⟨o2, rfl, c2⟩ := in_ptr_int Try.underlying27 Try.underlying2 (by kernel_rfl) (hval 2 27 v2 rfl rfl) h2
  obtain ⟨o3, rfl, c3⟩ := in_ptr_bool Try.underlying28 Try.underlying4 (by kernel_rfl) (hval 3 28 v3 rfl rfl) h3
  clear hA0 hval0
  refine law7 o0 o1 o2 o3 W c0 c1 c2 c3 ?_
  intro W' bel
  exact ⟨_, rfl, _, _, _, [], _, [], hW', trodAll_mk1 (shut_bool Try.underlying4 _), (trodAll_cons_mk (Below.trod laidOut (by kernel_rfl) (of_decide_eq_true (by kernel_rfl)) h0 bel lt0) (trodAll_cons_mk (Below.trod laidOut (by kernel_rfl) (of_decide_eq_true (by kernel_rfl)) h1 bel lt1) (trodAll_cons_mk (Below.trod laidOut (by kernel_rfl) (of_decide_eq_true (by kernel_rfl)) h2 bel lt2) (trodAll_cons_mk (Below.trod laidOut (by kernel_rfl) (of_decide_eq_true (by kernel_rfl)) h3 bel lt3) trodAll_mk0)))), rfl, bel.frame _, fun h => by cases h⟩

theorem over : Rows.fnCarriesCountsAndTogglesRow.holds Try.pinned (OpenSpec.ofChange Rows.fnCarriesCountsAndTogglesSpec) :=
  OpenClaim.holds_of_wide 7 Try.f7 rfl rfl rfl rfl rfl rfl rfl ⟨rfl, rfl, rfl, rfl, rfl⟩ rfl rfl rfl rfl rfl (by kernel_rfl) Try.func7 (by kernel_rfl)
    (of_decide_eq_true (by kernel_rfl)) (by unfold Func.isWrapper; first | (rw [if_pos (by decide +kernel)]; kernel_rfl) | (rw [if_neg (by decide +kernel)]; exact ⟨rfl, rfl⟩))
    (fun os started H enc _ => lifted os started H enc)

end Go.Proofs.Qxb6600100a.S1
namespace Go.Proofs.Qxb6600100a
/-- THE STATEMENT. -/
theorem fnCarriesCountsAndToggles_said : Rows.FnCarriesCountsAndTogglesSaid := S1.over
end Go.Proofs.Qxb6600100a
