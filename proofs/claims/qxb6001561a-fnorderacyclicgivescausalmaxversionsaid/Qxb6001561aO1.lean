import Derived.Test.Qxb6001561aO0
namespace Go.Proofs.Qxb6001561a
set_option linter.unusedVariables false
set_option linter.unusedSimpArgs false
open Go.RowKit Go.Maps

theorem find_drop_true {l : List Nat} {f : Nat → Bool} {t : Nat} (ht : t < l.length) (h : f (l.getD t 0) = true) : (l.drop t).find? f = some (l.getD t 0) := by
  rw [List.drop_eq_getElem_cons ht]
  rw [List.getD_eq_getElem?_getD, List.getElem?_eq_getElem ht] at h ⊢
  exact List.find?_cons_of_pos h
theorem find_drop_false {l : List Nat} {f : Nat → Bool} {t : Nat} (ht : t < l.length) (h : f (l.getD t 0) = false) : (l.drop t).find? f = (l.drop (t + 1)).find? f := by
  rw [List.drop_eq_getElem_cons ht]
  rw [List.getD_eq_getElem?_getD, List.getElem?_eq_getElem ht] at h
  exact List.find?_cons_of_neg (by simpa using h)
theorem getD_mem {l : List Nat} {t : Nat} (ht : t < l.length) : l.getD t 0 ∈ l := by
  rw [List.getD_eq_getElem?_getD, List.getElem?_eq_getElem ht]; exact List.getElem_mem ht

theorem grownBy_drewN {w w' : World} {r : Option Nat} (h : w.grownBy w' r) (n : Nat) : w.grownBy (w'.drewN n) r := ⟨h.os, h.tape, h.output, h.size, h.block⟩

set_option maxRecDepth 100000 in
set_option maxHeartbeats 1000000 in
theorem pending22 {E : Env} {H : Hist} {st : St} {mv : Nat → Option Value} {w : World} (hH : HistOK H) (hS : Stat E H) (h : OI E H st mv w) (i : Nat) (hi : i < H.n) {R : Ending → World → Prop}
    (hR : ∀ w', w.grownBy w' none → R (.returned (.tuple #[.int .i64 ((pend H st i).getD 0 : Nat), .bool (pend H st i).isSome])) w') :
    Calls Try.prog 22 #[.pointer (some ⟨E.bo, 0, none⟩), .int .i64 (i : Nat)] w R := by
  have HR : Hid _ := hR
  clear hR
  obtain ⟨c0, c1, c3, c4, c5, c6⟩ := h.cc
  obtain ⟨o0, o1, o2, o3, o4⟩ := h.oo
  obtain ⟨ao, cap, hv, hc⟩ := hS.src i hi
  have hx := h.stat (hS.srcs i hi)
  rw [hv] at hx
  have hiI : (i : Int) < H.n := by omega
  have hlen := hH.srcLen i hi
  clear c0 c1 c3 c4 c6 o1 o3 o4
  go_enter Try.func22, Try.ntmps22
  go_wp2
  clear c5 hx hiI
  go_loopg [19] (H.src i).length (fun g iv wr => ∃ t : Nat, t ≤ (H.src i).length ∧ g = (H.src i).length - t ∧ iv = .int .i64 t ∧ w.grownBy wr none ∧ pend H st i = ((H.src i).drop t).find? (fun p => !st.taken p))
  case atStart => exact ⟨0, Nat.zero_le _, rfl, rfl, World.grownBy.refl _ _, rfl⟩
  case round =>
    obtain ⟨t, ht, rfl, rfl, hg, hp⟩ := hrel
    have HP : Hid _ := hp
    clear hp
    have h' := h.grow hg
    obtain ⟨o0, o1, o2, o3, o4⟩ := h'.oo
    clear o0 o1 o3 o4
    by_cases hlt : t < (H.src i).length
    · obtain ⟨b, hab, hcell⟩ := hc (by omega)
      subst hab
      obtain ⟨x0, x1, x2⟩ := hcell t hlt
      have y0 := h'.stat x0
      have y1 := h'.stat x1
      have y2 := h'.stat x2
      obtain ⟨p, hpd⟩ : ∃ p, p = (H.src i).getD t 0 := ⟨_, rfl⟩
      rw [← hpd] at y2
      have hpn : p < H.n := by rw [hpd]; exact hH.srcLt i hi _ (getD_mem hlt)
      have hpI : (p : Int) < H.n := by omega
      have z1 := h'.tak.cell hpn
      have hbw := World.block_lt_of_cell? wr _ y0
      have HPD : Hid _ := hpd
      have o2' : ∀ o, (wr.alloc o).cell? ⟨E.bo, 2, none⟩ = some (.slice (some ⟨E.btak, 0, none⟩) H.n H.n) := fun o => by rw [World.cell?_alloc_lt _ _ _ (World.block_lt_of_cell? wr _ o2)]; exact o2
      have z1' : ∀ o, (wr.alloc o).cell? ⟨E.btak, p, none⟩ = some (.bool (st.taken p)) := fun o => by rw [World.cell?_alloc_lt _ _ _ (World.block_lt_of_cell? wr _ z1)]; exact z1
      clear hcell x0 x1 x2 hc hpd
      cases htk : st.taken p
      · rw [htk] at z1 z1'
        go_wp2
        go_quiet (fail)
        go_wp2
        have hpe : pend H st i = some p := by rw [HP.out, find_drop_true hlt (by rw [← HPD.out, htk]; rfl), ← HPD.out]
        have := HR.out _ (grownBy_drewN (hg.trans (World.grownBy_alloc wr (.cells #[.int .u64 0, .int .i64 0, .int .i64 (p : Nat)] 49) none)) nq)
        rw [hpe] at this
        exact this
      · rw [htk] at z1 z1'
        go_wp2
        go_quiet (fail)
        go_wp2
        go_roundg ((H.src i).length - (t + 1))
        case measure => omega
        case rel => exact ⟨t + 1, by omega, rfl, by go_num, grownBy_drewN (hg.trans (World.grownBy_alloc wr (.cells #[.int .u64 0, .int .i64 0, .int .i64 (p : Nat)] 49) none)) nq, by rw [HP.out, find_drop_false hlt (by rw [← HPD.out, htk]; rfl)]⟩
    · go_wp2
      have hpe : pend H st i = none := by rw [HP.out, List.drop_of_length_le (by omega)]; rfl
      have := HR.out _ hg
      rw [hpe] at this
      exact this
end Go.Proofs.Qxb6001561a
