import Derived.Test.Qxb6600118aR0
import Derived.WalkKit
import Derived.ProofKit
import Derived.OpenShut
import Derived.ShutString
namespace Go.Proofs.Qxb6600118a.fnReachDomainScopeWidestHostWildcardDisjoint
open Go.ChangeShapes Go.WideShapes Go.ChangeAt Go.RowKit
open Go.ChangeMaps (open_string shut_string)
set_option linter.unusedSimpArgs false
set_option linter.unusedVariables false      -- a walk need not use every 'w<i>' (that an integer argument fits its kind)

theorem own : ownKnob Try.prog.godebug = none := by kernel_rfl

/-! ### STEP 1: THE WALK: the Go text returns true. 'Grown w w'': the world has at most new blocks (Derived/RowKit3.lean). Part the cases AHEAD of 'go_enter' where a test parts the walk; take each callee by a contract of your own. -/
set_option maxHeartbeats 1000000 in
theorem walk (a0 : ByteArray) (a1 : Int) (a2 : Bool) (w0 : a0.size ≤ maxLen) (w1 : (Lit.int .i64 a1).wf = true) (w : World) :
    Calls Try.prog 4 #[.string a0, .int .i64 a1, .bool a2] w fun e w' => e = .returned (.bool true) ∧ Grown w w' := by
  have w0' := w0
  unfold maxLen at w0'
  go_enter Try.func4, Try.ntmps4
  go_wp2_with (fail)
  refine bytes8 a0 a1 a2 w0 w ?_
  intro x
  cases x
  · go_wp2
    go_ret
    exact ⟨rfl, Grown.refl _⟩
  by_cases hsz : (1048576 : Int) < a0.size
  · go_wp2
    go_ret
    exact ⟨rfl, Grown.refl _⟩
  cases h1 : isHost a0
  · cases h2 : isWild a0
    · have e1 : (a0.toList == [104, 111, 115, 116]) = false := h1
      have e2 : (a0.toList == [119, 105, 108, 100, 99, 97, 114, 100]) = false := h2
      have hx : (rch a0 a1 a2).1 = true := by
        unfold rch rElse
        rw [h1, h2]
        by_cases c1 : 0 < a1 <;> cases a2 <;> simp [c1]
      have hy : ¬ ((rHost a1 a2).1 = true ∧ (rWild a1 a2).1 = true) := by
        unfold rHost rWild
        by_cases c1 : a1 = 0
        · cases a2 <;> simp [c1]
        · cases a2 <;> simp [c1]
      go_wp2_with (fail)
      refine zzreach7 _ a1 a2 w ?_
      rw [rch_host]
      go_wp2_with (fail)
      refine zzreach7 _ a1 a2 w ?_
      rw [rch_wild]
      go_wp2_with (fail)
      refine zzreach7 _ a1 a2 w ?_
      rw [hx]
      cases z1 : (rHost a1 a2).1
      · go_wp2
        go_ret
        exact ⟨rfl, Grown.refl _⟩
      · cases z2 : (rWild a1 a2).1
        · go_wp2
          go_ret
          exact ⟨rfl, Grown.refl _⟩
        · exact absurd ⟨z1, z2⟩ hy
    · have e1 : (a0.toList == [104, 111, 115, 116]) = false := h1
      have e2 : (a0.toList == [119, 105, 108, 100, 99, 97, 114, 100]) = true := h2
      go_wp2
      go_ret
      exact ⟨rfl, Grown.refl _⟩
  · have e1 : (a0.toList == [104, 111, 115, 116]) = true := h1
    go_wp2
    go_ret
    exact ⟨rfl, Grown.refl _⟩

/-! ### THE ROW's STEP: WRITTEN OUT: LEAVE IT -/
set_option maxRecDepth 100000 in
theorem lifted (os : Os) (started : os.Started) (H : Type) (enc : TypeId × Value → H) :
    ReturnsInHanded {} Try.checked os 4 .any (Rows.fnReachDomainScopeWidestHostWildcardDisjointSpec.pre6 enc Try.prog Try.f4 Rows.fnReachDomainScopeWidestHostWildcardDisjointRow.domain false) (Rows.fnReachDomainScopeWidestHostWildcardDisjointSpec.post enc Try.prog Try.f4 false true false false) := by
  refine returnsInHanded_of_change (C := Try.checked) own started (by kernel_rfl) Try.func4
    (ChangeSpec.witness6 (enc := enc) (C := Try.checked) false ⟨#[], #[.string ByteArray.empty, .int .i64 0, .bool false], []⟩ 8 (by kernel_rfl) (by kernel_rfl) (by kernel_rfl) (by kernel_rfl)) ?_
  intro W base args ds gs before hval0 hW hcnd _
  have hval : ∀ (j : Nat) t v, Try.f4.params[j]? = some t → args[j]? = some v → Value.okWide Try.prog W .any base t v := hval0
  have hW' := hW
  obtain ⟨p, q, hA0, hV, rfl, hfz, hnd⟩ := hW
  have hA : DataW.TrodAll enc Try.prog W 0 (fun _ => true) true Try.f4.params.toList args.toList ds p := hA0
  rw [Try.params4] at hA hval
  obtain ⟨v0, vs0, d0, ds0, p0, q0, hargs, rfl, rfl, h0, r0⟩ := trodAll_cons hA
  obtain ⟨v1, vs1, d1, ds1, p1, q1, rfl, rfl, rfl, h1, r1⟩ := trodAll_cons r0
  obtain ⟨v2, vs2, d2, ds2, p2, q2, rfl, rfl, rfl, h2, r2⟩ := trodAll_cons r1
  obtain ⟨rfl, rfl, rfl⟩ := trodAll_nil r2
  obtain rfl : args = #[v0, v1, v2] := by cases args; simp_all
  obtain ⟨rfl, rfl⟩ := trodVars_none hV
  obtain ⟨a0, rfl, rfl, rfl, w0⟩ := open_string Try.underlying9 (hval 0 9 v0 rfl rfl) h0
  obtain ⟨a1, rfl, rfl, rfl, w1⟩ := open_int Try.underlying3 (hval 1 3 v1 rfl rfl) h1
  obtain ⟨a2, rfl, rfl, rfl⟩ := open_bool Try.underlying4 (hval 2 4 v2 rfl rfl) h2
  clear hA0 hval0
  simp only [List.append_nil] at hW'
  refine (walk a0 a1 a2 w0 w1 W).mono fun e W' ⟨he, hg⟩ => ?_
  subst he
  exact ⟨_, rfl, post_of_same (pa := []) (pv := []) hW' (fun _ _ _ => (trodAll_cons_mk (shut_bool Try.underlying4 _) trodAll_mk0)) (fun sp _ => (trodAll_cons_mk (shut_string Try.underlying9 w0) (trodAll_cons_mk (shut_int Try.underlying3 w1) (trodAll_cons_mk (shut_bool Try.underlying4 _) trodAll_mk0)))) (fun _ _ => rfl) rfl
    (hg.frame _) hg.2.1 (ok_one (by kernel_rfl) rfl (okWide_bool_mk Try.underlying4 _))⟩

theorem over : Rows.fnReachDomainScopeWidestHostWildcardDisjointRow.holds Try.pinned (OpenSpec.ofChange Rows.fnReachDomainScopeWidestHostWildcardDisjointSpec) :=
  OpenClaim.holds_of_wide 4 Try.f4 rfl rfl rfl rfl rfl rfl rfl ⟨rfl, rfl, rfl, rfl, rfl⟩ rfl rfl rfl rfl rfl (by kernel_rfl) Try.func4 (by kernel_rfl)
    (of_decide_eq_true (by kernel_rfl)) (by unfold Func.isWrapper; first | (rw [if_pos (by decide +kernel)]; kernel_rfl) | (rw [if_neg (by decide +kernel)]; exact ⟨rfl, rfl⟩))
    (fun os started H enc _ => lifted os started H enc)

end Go.Proofs.Qxb6600118a.fnReachDomainScopeWidestHostWildcardDisjoint
namespace Go.Proofs.Qxb6600118a
/-- THE STATEMENT. -/
theorem fnReachDomainScopeWidestHostWildcardDisjoint_said : Rows.FnReachDomainScopeWidestHostWildcardDisjointSaid := fnReachDomainScopeWidestHostWildcardDisjoint.over
end Go.Proofs.Qxb6600118a
