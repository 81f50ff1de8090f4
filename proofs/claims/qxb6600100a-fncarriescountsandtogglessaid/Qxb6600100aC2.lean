import Derived.Test.Qxb6600100aC1
namespace Go.Proofs.Qxb6600100a
set_option linter.unusedVariables false
set_option linter.unusedSimpArgs false
open Go.RowKit

set_option maxRecDepth 100000 in
set_option maxHeartbeats 4000000 in
theorem law7 (o0 o1 o2 o3 : Option Addr) (w : World) (h0 : ∀ a, o0 = some a → ∃ s : ByteArray, s.size ≤ maxLen ∧ w.cell? a = some (.string s)) (h1 : ∀ a, o1 = some a → ∃ x : Int, w.cell? a = some (.int .i64 x)) (h2 : ∀ a, o2 = some a → ∃ x : Int, w.cell? a = some (.int .i64 x)) (h3 : ∀ a, o3 = some a → ∃ x : Bool, w.cell? a = some (.bool x))
    {R : Ending → World → Prop} (hR : ∀ w', Below w.heap.size w w' → R (.returned (.bool true)) w') : Calls Try.prog 7 #[.pointer o0, .pointer o1, .pointer o2, .pointer o3] w R := by
  have HR : Hid _ := hR
  clear hR
  go_enter Try.func7, Try.ntmps7
  go_wp2_with (fail)
  refine bytes15 o0 o1 o2 o3 w h0 ?_
  intro b
  cases b
  · go_wp2
    exact HR.out _ (Below.refl _ _)
  go_upto_region 3 with (fail)
  go_cut [36] (fun t wc => wc = w ∧ ∃ b, t = .bool b)
  case first =>
    cases o0 with
    | none =>
      go_wp2
      go_meet
      case rel => exact ⟨rfl, _, rfl⟩
    | some a =>
      obtain ⟨s, hs, hc⟩ := h0 a rfl
      unfold maxLen at hs
      go_wp2
      go_meet
      case rel => exact ⟨rfl, _, rfl⟩
  case rest =>
    obtain ⟨hwc, b, rfl⟩ := hcut
    have hwe := hwc.symm
    clear hwc
    subst hwe
    cases b
    · skip
      go_upto_if 38 with (fail)
      go_cut [0] (fun t wd => ∃ o, t = .pointer o ∧ o.isSome = o0.isSome ∧ Below w.heap.size w wd)
      case first =>
        cases o0 with
        | none =>
          go_wp2
          go_meet
          case rel => exact ⟨_, rfl, rfl, Below.refl _ _⟩
        | some a =>
          obtain ⟨s, hs, hc⟩ := h0 a rfl
          go_wp2
          go_meet
          case rel => exact ⟨_, rfl, rfl, bstep (Below.refl _ _) (Nat.le_refl _) _ _ _⟩
      case rest =>
        obtain ⟨p0, rfl, hp0, hb0⟩ := hcut
        go_upto_if 43 with (fail)
        go_cut [1] (fun t wd => ∃ o, t = .pointer o ∧ o.isSome = o1.isSome ∧ Below w.heap.size w wd)
        case first =>
          cases o1 with
          | none =>
            go_wp2
            go_meet
            case rel => exact ⟨_, rfl, rfl, hb0⟩
          | some a =>
            obtain ⟨x, hc⟩ := h1 a rfl
            have hc' := cb hb0 hc
            clear hc
            go_wp2
            go_meet
            case rel => exact ⟨_, rfl, rfl, bstep hb0 (hb0).size _ _ _⟩
        case rest =>
          obtain ⟨p1, rfl, hp1, hb1⟩ := hcut
          go_upto_if 48 with (fail)
          go_cut [2] (fun t wd => ∃ o, t = .pointer o ∧ o.isSome = o2.isSome ∧ Below w.heap.size w wd)
          case first =>
            cases o2 with
            | none =>
              go_wp2
              go_meet
              case rel => exact ⟨_, rfl, rfl, hb1⟩
            | some a =>
              obtain ⟨x, hc⟩ := h2 a rfl
              have hc' := cb hb1 hc
              clear hc
              go_wp2
              go_meet
              case rel => exact ⟨_, rfl, rfl, bstep hb1 (hb1).size _ _ _⟩
          case rest =>
            obtain ⟨p2, rfl, hp2, hb2⟩ := hcut
            go_upto_if 53 with (fail)
            go_cut [3] (fun t wd => ∃ o, t = .pointer o ∧ o.isSome = o3.isSome ∧ Below w.heap.size w wd)
            case first =>
              cases o3 with
              | none =>
                go_wp2
                go_meet
                case rel => exact ⟨_, rfl, rfl, hb2⟩
              | some a =>
                obtain ⟨x, hc⟩ := h3 a rfl
                have hc' := cb hb2 hc
                clear hc
                go_wp2
                go_meet
                case rel => exact ⟨_, rfl, rfl, bstep hb2 (hb2).size _ _ _⟩
            case rest =>
              obtain ⟨p3, rfl, hp3, hb3⟩ := hcut
              clear h0 h1 h2 h3 hp0 hp1 hp2 hp3 hb0 hb1 hb2
              have hm := masklt p0 p1 p2 p3
              have hnot := mnot p0 p1 p2 p3
              go_wp2_with (fail)
              refine zzcarries14 _ _ p0 p1 p2 p3 _ ?_
              have hb4 : Below w.heap.size w (((wc.alloc (.cells #[.string ⟨#[112, 117, 116]⟩, .string ⟨#[107]⟩, .pointer p0, .pointer p1, .pointer p2, .pointer p3] 32)).alloc (.cells #[.string ⟨#[112, 117, 116]⟩, .string ⟨#[107]⟩, .pointer p0, .pointer p1, .pointer p2, .pointer p3] 32)).alloc (.cells #[.string ⟨#[112, 117, 116]⟩, .string ⟨#[107]⟩, .pointer p0, .pointer p1, .pointer p2, .pointer p3] 32)) :=
                ((hb3.alloc hb3.size _).alloc (by have := hb3.size; simp; omega) _).alloc (by have := hb3.size; simp; omega) _
              have hF : (((wc.alloc (.cells #[.string ⟨#[112, 117, 116]⟩, .string ⟨#[107]⟩, .pointer p0, .pointer p1, .pointer p2, .pointer p3] 32)).alloc (.cells #[.string ⟨#[112, 117, 116]⟩, .string ⟨#[107]⟩, .pointer p0, .pointer p1, .pointer p2, .pointer p3] 32)).alloc (.cells #[.string ⟨#[112, 117, 116]⟩, .string ⟨#[107]⟩, .pointer p0, .pointer p1, .pointer p2, .pointer p3] 32)).heap[wc.heap.size]? = some (.cells #[.string ⟨#[112, 117, 116]⟩, .string ⟨#[107]⟩, .pointer p0, .pointer p1, .pointer p2, .pointer p3] 32 (0, 0)) := by
                rw [Go.Deep.blk_alloc_lt _ _ _ (by simp; omega), Go.Deep.blk_alloc_lt _ _ _ (by simp), Go.Deep.blk_alloc_new]
              have hwcs := hb3.size
              generalize (((wc.alloc (.cells #[.string ⟨#[112, 117, 116]⟩, .string ⟨#[107]⟩, .pointer p0, .pointer p1, .pointer p2, .pointer p3] 32)).alloc (.cells #[.string ⟨#[112, 117, 116]⟩, .string ⟨#[107]⟩, .pointer p0, .pointer p1, .pointer p2, .pointer p3] 32)).alloc (.cells #[.string ⟨#[112, 117, 116]⟩, .string ⟨#[107]⟩, .pointer p0, .pointer p1, .pointer p2, .pointer p3] 32)) = w5 at hb4 hF ⊢
              generalize wc.heap.size = bf at *
              clear hb3
              have hc0 : cnt p0 ≤ 1 := by unfold cnt cntB; split <;> omega
              have hc1 : cnt p1 ≤ 1 := by unfold cnt cntB; split <;> omega
              have hc2 : cnt p2 ≤ 1 := by unfold cnt cntB; split <;> omega
              have hc3 : cnt p3 ≤ 1 := by unfold cnt cntB; split <;> omega
              go_upto_if 69 with (fail)
              go_cut [16] (fun t wd => t = .int .i64 (cnt p0 : Nat) ∧ wd = w5)
              case first =>
                cases p0 with
                | none =>
                  go_wp2
                  go_meet
                  case rel => exact ⟨by simp [cnt, cntB], rfl⟩
                | some a =>
                  go_wp2
                  go_meet
                  case rel => exact ⟨by first | (simp [cnt, cntB]; done) | (go_num; done) | (simp [cnt, cntB]; go_num), rfl⟩
              case rest =>
                obtain ⟨rfl, hwc⟩ := hcut
                have hwe := hwc.symm
                clear hwc
                subst hwe
                go_upto_if 73 with (fail)
                go_cut [16] (fun t wd => t = .int .i64 (cnt p0 + cnt p1 : Nat) ∧ wd = w5)
                case first =>
                  cases p1 with
                  | none =>
                    go_wp2
                    go_meet
                    case rel => exact ⟨by simp [cnt, cntB], rfl⟩
                  | some a =>
                    go_wp2
                    go_meet
                    case rel => exact ⟨by first | (simp [cnt, cntB]; done) | (go_num; done) | (simp [cnt, cntB]; go_num), rfl⟩
                case rest =>
                  obtain ⟨rfl, hwc⟩ := hcut
                  have hwe := hwc.symm
                  clear hwc
                  subst hwe
                  go_upto_if 77 with (fail)
                  go_cut [16] (fun t wd => t = .int .i64 (cnt p0 + cnt p1 + cnt p2 : Nat) ∧ wd = w5)
                  case first =>
                    cases p2 with
                    | none =>
                      go_wp2
                      go_meet
                      case rel => exact ⟨by simp [cnt, cntB], rfl⟩
                    | some a =>
                      go_wp2
                      go_meet
                      case rel => exact ⟨by first | (simp [cnt, cntB]; done) | (go_num; done) | (simp [cnt, cntB]; go_num), rfl⟩
                  case rest =>
                    obtain ⟨rfl, hwc⟩ := hcut
                    have hwe := hwc.symm
                    clear hwc
                    subst hwe
                    go_upto_if 81 with (fail)
                    go_cut [16] (fun t wd => t = .int .i64 (cnt p0 + cnt p1 + cnt p2 + cnt p3 : Nat) ∧ wd = w5)
                    case first =>
                      cases p3 with
                      | none =>
                        go_wp2
                        go_meet
                        case rel => exact ⟨by simp [cnt, cntB], rfl⟩
                      | some a =>
                        go_wp2
                        go_meet
                        case rel => exact ⟨by first | (simp [cnt, cntB]; done) | (go_num; done) | (simp [cnt, cntB]; go_num), rfl⟩
                    case rest =>
                      obtain ⟨rfl, hwc⟩ := hcut
                      have hwe := hwc.symm
                      clear hwc
                      subst hwe
                      go_wp2_with (fail)
                      refine pop16 (mask p0 p1 p2 p3) hm _ ?_
                      rw [popmask]
                      have hF' : w5.heap[bf]? = some (fobj p0 p1 p2 p3) := hF
                      clear hm hnot hc0 hc1 hc2 hc3 hF
                      go_upto_region 37 with (fail)
                      have hF6 := balloc (balloc (balloc (balloc hF' (.cells #[.string ⟨#[]⟩] 9)) (.cells #[.int .i64 0] 2)) (.cells #[.int .i64 0] 2)) (.cells #[.bool false] 4)
                      have hb6 := belA (belA (belA (belA hb4 (.cells #[.string ⟨#[]⟩] 9)) (.cells #[.int .i64 0] 2)) (.cells #[.int .i64 0] 2)) (.cells #[.bool false] 4)
                      clear hF' hb4
                      generalize (((w5.alloc (.cells #[.string ⟨#[]⟩] 9)).alloc (.cells #[.int .i64 0] 2)).alloc (.cells #[.int .i64 0] 2)).alloc (.cells #[.bool false] 4) = w6 at hF6 hb6 ⊢
                      generalize (⟨w5.heap.size, 0, none⟩ : Addr) = aS
                      generalize (⟨w5.heap.size + 1, 0, none⟩ : Addr) = aD
                      generalize (⟨w5.heap.size + 1 + 1, 0, none⟩ : Addr) = aM
                      generalize (⟨w5.heap.size + 1 + 1 + 1, 0, none⟩ : Addr) = aB
                      obtain ⟨f0, f1, f2, f3, f4, f5⟩ := fcells hF6
                      have hbf := blt hF6
                      go_upto_region 38 with (fail)
                      have hT : T2 w (w6.alloc (fobj p0 p1 p2 p3)) bf w6.heap.size p0 p1 p2 p3 p0 p1 p2 p3 := ⟨balloc hF6 _, Go.Deep.blk_alloc_new _ _, belA hb6 _⟩
                      have hne : bf ≠ w6.heap.size := by omega
                      have hs : w.heap.size ≤ w6.heap.size := hb6.size
                      clear f0 f1 f2 f3 f4 f5 hb6 hF6 hbf hwcs
                      unfold fobj at hT
                      generalize w6.alloc (.cells #[.string ⟨#[112, 117, 116]⟩, .string ⟨#[107]⟩, .pointer p0, .pointer p1, .pointer p2, .pointer p3] 32) = w7 at hT ⊢
                      generalize w6.heap.size = bg at hT hne hs ⊢
                      obtain ⟨g0, g1, g2, g3, g4, g5⟩ := fcells hT.g
                      have z0 := hT.fr 0
                      have z1 := hT.fr 1
                      have z2 := hT.fr 2
                      have z3 := hT.fr 3
                      have z4 := hT.fr 4
                      have z5 := hT.fr 5
                      go_upto_region 39 with (fail)
                      clear g0 g1 g2 g3 g4 g5 z0 z1 z2 z3 z4 z5
                      have hT := hT.set2 hne hs (some aS)
                      generalize w7.setCell ⟨bg, 2, none⟩ (.pointer (some aS)) = w8 at hT ⊢
                      obtain ⟨g0, g1, g2, g3, g4, g5⟩ := fcells hT.g
                      have hm := mor0 aS p0 p1 p2 p3
                      go_wp2_with (fail)
                      refine zzcarries14 _ _ (some aS) p1 p2 p3 _ ?_
                      have hT := (hT.alloc (.cells #[.string ⟨#[112, 117, 116]⟩, .string ⟨#[107]⟩, .pointer (some aS), .pointer p1, .pointer p2, .pointer p3] 32)).alloc (.cells #[.string ⟨#[112, 117, 116]⟩, .string ⟨#[107]⟩, .pointer (some aS), .pointer p1, .pointer p2, .pointer p3] 32)
                      clear g0 g1 g2 g3 g4 g5
                      generalize (w8.alloc (.cells #[.string ⟨#[112, 117, 116]⟩, .string ⟨#[107]⟩, .pointer (some aS), .pointer p1, .pointer p2, .pointer p3] 32)).alloc (.cells #[.string ⟨#[112, 117, 116]⟩, .string ⟨#[107]⟩, .pointer (some aS), .pointer p1, .pointer p2, .pointer p3] 32) = w9 at hT ⊢
                      go_upto_region 41 with (fail)
                      clear hm
                      obtain ⟨f0, f1, f2, f3, f4, f5⟩ := fcells hT.f
                      obtain ⟨g0, g1, g2, g3, g4, g5⟩ := fcells hT.g
                      have z0 := hT.fr 0
                      have z1 := hT.fr 1
                      have z2 := hT.fr 2
                      have z3 := hT.fr 3
                      have z4 := hT.fr 4
                      have z5 := hT.fr 5
                      go_upto_region 42 with (fail)
                      clear f0 f1 f2 f3 f4 f5 g0 g1 g2 g3 g4 g5 z0 z1 z2 z3 z4 z5
                      have hT := hT.all hne hs
                      generalize ((((((w9.setCell ⟨bg, 0, none⟩ (.string ⟨#[112, 117, 116]⟩)).setCell ⟨bg, 1, none⟩ (.string ⟨#[107]⟩)).setCell ⟨bg, 2, none⟩ (.pointer p0)).setCell ⟨bg, 3, none⟩ (.pointer p1)).setCell ⟨bg, 4, none⟩ (.pointer p2)).setCell ⟨bg, 5, none⟩ (.pointer p3)) = w10 at hT ⊢
                      obtain ⟨g0, g1, g2, g3, g4, g5⟩ := fcells hT.g
                      have z0 := hT.fr 0
                      have z1 := hT.fr 1
                      have z2 := hT.fr 2
                      have z3 := hT.fr 3
                      have z4 := hT.fr 4
                      have z5 := hT.fr 5
                      go_upto_region 43 with (fail)
                      clear g0 g1 g2 g3 g4 g5 z0 z1 z2 z3 z4 z5
                      have hT := hT.set2 hne hs none
                      generalize w10.setCell ⟨bg, 2, none⟩ (.pointer none) = w11 at hT ⊢
                      obtain ⟨g0, g1, g2, g3, g4, g5⟩ := fcells hT.g
                      have hm := man0 p0 p1 p2 p3
                      go_wp2_with (fail)
                      refine zzcarries14 _ _ none p1 p2 p3 _ ?_
                      have hT := (hT.alloc (.cells #[.string ⟨#[112, 117, 116]⟩, .string ⟨#[107]⟩, .pointer none, .pointer p1, .pointer p2, .pointer p3] 32)).alloc (.cells #[.string ⟨#[112, 117, 116]⟩, .string ⟨#[107]⟩, .pointer none, .pointer p1, .pointer p2, .pointer p3] 32)
                      clear g0 g1 g2 g3 g4 g5
                      generalize (w11.alloc (.cells #[.string ⟨#[112, 117, 116]⟩, .string ⟨#[107]⟩, .pointer none, .pointer p1, .pointer p2, .pointer p3] 32)).alloc (.cells #[.string ⟨#[112, 117, 116]⟩, .string ⟨#[107]⟩, .pointer none, .pointer p1, .pointer p2, .pointer p3] 32) = w12 at hT ⊢
                      go_upto_region 45 with (fail)
                      clear hm
                      obtain ⟨f0, f1, f2, f3, f4, f5⟩ := fcells hT.f
                      obtain ⟨g0, g1, g2, g3, g4, g5⟩ := fcells hT.g
                      have z0 := hT.fr 0
                      have z1 := hT.fr 1
                      have z2 := hT.fr 2
                      have z3 := hT.fr 3
                      have z4 := hT.fr 4
                      have z5 := hT.fr 5
                      go_upto_region 46 with (fail)
                      clear f0 f1 f2 f3 f4 f5 g0 g1 g2 g3 g4 g5 z0 z1 z2 z3 z4 z5

                      have hT := hT.all hne hs
                      generalize ((((((w12.setCell ⟨bg, 0, none⟩ (.string ⟨#[112, 117, 116]⟩)).setCell ⟨bg, 1, none⟩ (.string ⟨#[107]⟩)).setCell ⟨bg, 2, none⟩ (.pointer p0)).setCell ⟨bg, 3, none⟩ (.pointer p1)).setCell ⟨bg, 4, none⟩ (.pointer p2)).setCell ⟨bg, 5, none⟩ (.pointer p3)) = w13 at hT ⊢
                      obtain ⟨g0, g1, g2, g3, g4, g5⟩ := fcells hT.g
                      have z0 := hT.fr 0
                      have z1 := hT.fr 1
                      have z2 := hT.fr 2
                      have z3 := hT.fr 3
                      have z4 := hT.fr 4
                      have z5 := hT.fr 5
                      go_upto_region 47 with (fail)
                      clear g0 g1 g2 g3 g4 g5 z0 z1 z2 z3 z4 z5
                      have hT := hT.set3 hne hs (some aD)
                      generalize w13.setCell ⟨bg, 3, none⟩ (.pointer (some aD)) = w14 at hT ⊢
                      obtain ⟨g0, g1, g2, g3, g4, g5⟩ := fcells hT.g
                      have hm := mor1 aD p0 p1 p2 p3
                      go_wp2_with (fail)
                      refine zzcarries14 _ _ p0 (some aD) p2 p3 _ ?_
                      have hT := (hT.alloc (.cells #[.string ⟨#[112, 117, 116]⟩, .string ⟨#[107]⟩, .pointer p0, .pointer (some aD), .pointer p2, .pointer p3] 32)).alloc (.cells #[.string ⟨#[112, 117, 116]⟩, .string ⟨#[107]⟩, .pointer p0, .pointer (some aD), .pointer p2, .pointer p3] 32)
                      clear g0 g1 g2 g3 g4 g5
                      generalize (w14.alloc (.cells #[.string ⟨#[112, 117, 116]⟩, .string ⟨#[107]⟩, .pointer p0, .pointer (some aD), .pointer p2, .pointer p3] 32)).alloc (.cells #[.string ⟨#[112, 117, 116]⟩, .string ⟨#[107]⟩, .pointer p0, .pointer (some aD), .pointer p2, .pointer p3] 32) = w15 at hT ⊢
                      go_upto_region 49 with (fail)
                      clear hm
                      obtain ⟨f0, f1, f2, f3, f4, f5⟩ := fcells hT.f
                      obtain ⟨g0, g1, g2, g3, g4, g5⟩ := fcells hT.g
                      have z0 := hT.fr 0
                      have z1 := hT.fr 1
                      have z2 := hT.fr 2
                      have z3 := hT.fr 3
                      have z4 := hT.fr 4
                      have z5 := hT.fr 5
                      go_upto_region 50 with (fail)
                      clear f0 f1 f2 f3 f4 f5 g0 g1 g2 g3 g4 g5 z0 z1 z2 z3 z4 z5

                      have hT := hT.all hne hs
                      generalize ((((((w15.setCell ⟨bg, 0, none⟩ (.string ⟨#[112, 117, 116]⟩)).setCell ⟨bg, 1, none⟩ (.string ⟨#[107]⟩)).setCell ⟨bg, 2, none⟩ (.pointer p0)).setCell ⟨bg, 3, none⟩ (.pointer p1)).setCell ⟨bg, 4, none⟩ (.pointer p2)).setCell ⟨bg, 5, none⟩ (.pointer p3)) = w16 at hT ⊢
                      obtain ⟨g0, g1, g2, g3, g4, g5⟩ := fcells hT.g
                      have z0 := hT.fr 0
                      have z1 := hT.fr 1
                      have z2 := hT.fr 2
                      have z3 := hT.fr 3
                      have z4 := hT.fr 4
                      have z5 := hT.fr 5
                      go_upto_region 51 with (fail)
                      clear g0 g1 g2 g3 g4 g5 z0 z1 z2 z3 z4 z5
                      have hT := hT.set3 hne hs none
                      generalize w16.setCell ⟨bg, 3, none⟩ (.pointer none) = w17 at hT ⊢
                      obtain ⟨g0, g1, g2, g3, g4, g5⟩ := fcells hT.g
                      have hm := man1 p0 p1 p2 p3
                      go_wp2_with (fail)
                      refine zzcarries14 _ _ p0 none p2 p3 _ ?_
                      have hT := (hT.alloc (.cells #[.string ⟨#[112, 117, 116]⟩, .string ⟨#[107]⟩, .pointer p0, .pointer none, .pointer p2, .pointer p3] 32)).alloc (.cells #[.string ⟨#[112, 117, 116]⟩, .string ⟨#[107]⟩, .pointer p0, .pointer none, .pointer p2, .pointer p3] 32)
                      clear g0 g1 g2 g3 g4 g5
                      generalize (w17.alloc (.cells #[.string ⟨#[112, 117, 116]⟩, .string ⟨#[107]⟩, .pointer p0, .pointer none, .pointer p2, .pointer p3] 32)).alloc (.cells #[.string ⟨#[112, 117, 116]⟩, .string ⟨#[107]⟩, .pointer p0, .pointer none, .pointer p2, .pointer p3] 32) = w18 at hT ⊢
                      go_upto_region 53 with (fail)
                      clear hm
                      obtain ⟨f0, f1, f2, f3, f4, f5⟩ := fcells hT.f
                      obtain ⟨g0, g1, g2, g3, g4, g5⟩ := fcells hT.g
                      have z0 := hT.fr 0
                      have z1 := hT.fr 1
                      have z2 := hT.fr 2
                      have z3 := hT.fr 3
                      have z4 := hT.fr 4
                      have z5 := hT.fr 5
                      go_upto_region 54 with (fail)
                      clear f0 f1 f2 f3 f4 f5 g0 g1 g2 g3 g4 g5 z0 z1 z2 z3 z4 z5

                      have hT := hT.all hne hs
                      generalize ((((((w18.setCell ⟨bg, 0, none⟩ (.string ⟨#[112, 117, 116]⟩)).setCell ⟨bg, 1, none⟩ (.string ⟨#[107]⟩)).setCell ⟨bg, 2, none⟩ (.pointer p0)).setCell ⟨bg, 3, none⟩ (.pointer p1)).setCell ⟨bg, 4, none⟩ (.pointer p2)).setCell ⟨bg, 5, none⟩ (.pointer p3)) = w19 at hT ⊢
                      obtain ⟨g0, g1, g2, g3, g4, g5⟩ := fcells hT.g
                      have z0 := hT.fr 0
                      have z1 := hT.fr 1
                      have z2 := hT.fr 2
                      have z3 := hT.fr 3
                      have z4 := hT.fr 4
                      have z5 := hT.fr 5
                      go_upto_region 55 with (fail)
                      clear g0 g1 g2 g3 g4 g5 z0 z1 z2 z3 z4 z5
                      have hT := hT.set4 hne hs (some aM)
                      generalize w19.setCell ⟨bg, 4, none⟩ (.pointer (some aM)) = w20 at hT ⊢
                      obtain ⟨g0, g1, g2, g3, g4, g5⟩ := fcells hT.g
                      have hm := mor2 aM p0 p1 p2 p3
                      go_wp2_with (fail)
                      refine zzcarries14 _ _ p0 p1 (some aM) p3 _ ?_
                      have hT := (hT.alloc (.cells #[.string ⟨#[112, 117, 116]⟩, .string ⟨#[107]⟩, .pointer p0, .pointer p1, .pointer (some aM), .pointer p3] 32)).alloc (.cells #[.string ⟨#[112, 117, 116]⟩, .string ⟨#[107]⟩, .pointer p0, .pointer p1, .pointer (some aM), .pointer p3] 32)
                      clear g0 g1 g2 g3 g4 g5
                      generalize (w20.alloc (.cells #[.string ⟨#[112, 117, 116]⟩, .string ⟨#[107]⟩, .pointer p0, .pointer p1, .pointer (some aM), .pointer p3] 32)).alloc (.cells #[.string ⟨#[112, 117, 116]⟩, .string ⟨#[107]⟩, .pointer p0, .pointer p1, .pointer (some aM), .pointer p3] 32) = w21 at hT ⊢
                      go_upto_region 57 with (fail)
                      clear hm
                      obtain ⟨f0, f1, f2, f3, f4, f5⟩ := fcells hT.f
                      obtain ⟨g0, g1, g2, g3, g4, g5⟩ := fcells hT.g
                      have z0 := hT.fr 0
                      have z1 := hT.fr 1
                      have z2 := hT.fr 2
                      have z3 := hT.fr 3
                      have z4 := hT.fr 4
                      have z5 := hT.fr 5
                      go_upto_region 58 with (fail)
                      clear f0 f1 f2 f3 f4 f5 g0 g1 g2 g3 g4 g5 z0 z1 z2 z3 z4 z5

                      have hT := hT.all hne hs
                      generalize ((((((w21.setCell ⟨bg, 0, none⟩ (.string ⟨#[112, 117, 116]⟩)).setCell ⟨bg, 1, none⟩ (.string ⟨#[107]⟩)).setCell ⟨bg, 2, none⟩ (.pointer p0)).setCell ⟨bg, 3, none⟩ (.pointer p1)).setCell ⟨bg, 4, none⟩ (.pointer p2)).setCell ⟨bg, 5, none⟩ (.pointer p3)) = w22 at hT ⊢
                      obtain ⟨g0, g1, g2, g3, g4, g5⟩ := fcells hT.g
                      have z0 := hT.fr 0
                      have z1 := hT.fr 1
                      have z2 := hT.fr 2
                      have z3 := hT.fr 3
                      have z4 := hT.fr 4
                      have z5 := hT.fr 5
                      go_upto_region 59 with (fail)
                      clear g0 g1 g2 g3 g4 g5 z0 z1 z2 z3 z4 z5
                      have hT := hT.set4 hne hs none
                      generalize w22.setCell ⟨bg, 4, none⟩ (.pointer none) = w23 at hT ⊢
                      obtain ⟨g0, g1, g2, g3, g4, g5⟩ := fcells hT.g
                      have hm := man2 p0 p1 p2 p3
                      go_wp2_with (fail)
                      refine zzcarries14 _ _ p0 p1 none p3 _ ?_
                      have hT := (hT.alloc (.cells #[.string ⟨#[112, 117, 116]⟩, .string ⟨#[107]⟩, .pointer p0, .pointer p1, .pointer none, .pointer p3] 32)).alloc (.cells #[.string ⟨#[112, 117, 116]⟩, .string ⟨#[107]⟩, .pointer p0, .pointer p1, .pointer none, .pointer p3] 32)
                      clear g0 g1 g2 g3 g4 g5
                      generalize (w23.alloc (.cells #[.string ⟨#[112, 117, 116]⟩, .string ⟨#[107]⟩, .pointer p0, .pointer p1, .pointer none, .pointer p3] 32)).alloc (.cells #[.string ⟨#[112, 117, 116]⟩, .string ⟨#[107]⟩, .pointer p0, .pointer p1, .pointer none, .pointer p3] 32) = w24 at hT ⊢
                      go_upto_region 61 with (fail)
                      clear hm
                      obtain ⟨f0, f1, f2, f3, f4, f5⟩ := fcells hT.f
                      obtain ⟨g0, g1, g2, g3, g4, g5⟩ := fcells hT.g
                      have z0 := hT.fr 0
                      have z1 := hT.fr 1
                      have z2 := hT.fr 2
                      have z3 := hT.fr 3
                      have z4 := hT.fr 4
                      have z5 := hT.fr 5
                      go_upto_region 62 with (fail)
                      clear f0 f1 f2 f3 f4 f5 g0 g1 g2 g3 g4 g5 z0 z1 z2 z3 z4 z5

                      have hT := hT.all hne hs
                      generalize ((((((w24.setCell ⟨bg, 0, none⟩ (.string ⟨#[112, 117, 116]⟩)).setCell ⟨bg, 1, none⟩ (.string ⟨#[107]⟩)).setCell ⟨bg, 2, none⟩ (.pointer p0)).setCell ⟨bg, 3, none⟩ (.pointer p1)).setCell ⟨bg, 4, none⟩ (.pointer p2)).setCell ⟨bg, 5, none⟩ (.pointer p3)) = w25 at hT ⊢
                      obtain ⟨g0, g1, g2, g3, g4, g5⟩ := fcells hT.g
                      have z0 := hT.fr 0
                      have z1 := hT.fr 1
                      have z2 := hT.fr 2
                      have z3 := hT.fr 3
                      have z4 := hT.fr 4
                      have z5 := hT.fr 5
                      go_upto_region 63 with (fail)
                      clear g0 g1 g2 g3 g4 g5 z0 z1 z2 z3 z4 z5
                      have hT := hT.set5 hne hs (some aB)
                      generalize w25.setCell ⟨bg, 5, none⟩ (.pointer (some aB)) = w26 at hT ⊢
                      obtain ⟨g0, g1, g2, g3, g4, g5⟩ := fcells hT.g
                      have hm := mor3 aB p0 p1 p2 p3
                      go_wp2_with (fail)
                      refine zzcarries14 _ _ p0 p1 p2 (some aB) _ ?_
                      have hT := (hT.alloc (.cells #[.string ⟨#[112, 117, 116]⟩, .string ⟨#[107]⟩, .pointer p0, .pointer p1, .pointer p2, .pointer (some aB)] 32)).alloc (.cells #[.string ⟨#[112, 117, 116]⟩, .string ⟨#[107]⟩, .pointer p0, .pointer p1, .pointer p2, .pointer (some aB)] 32)
                      clear g0 g1 g2 g3 g4 g5
                      generalize (w26.alloc (.cells #[.string ⟨#[112, 117, 116]⟩, .string ⟨#[107]⟩, .pointer p0, .pointer p1, .pointer p2, .pointer (some aB)] 32)).alloc (.cells #[.string ⟨#[112, 117, 116]⟩, .string ⟨#[107]⟩, .pointer p0, .pointer p1, .pointer p2, .pointer (some aB)] 32) = w27 at hT ⊢
                      go_upto_region 65 with (fail)
                      clear hm
                      obtain ⟨f0, f1, f2, f3, f4, f5⟩ := fcells hT.f
                      obtain ⟨g0, g1, g2, g3, g4, g5⟩ := fcells hT.g
                      have z0 := hT.fr 0
                      have z1 := hT.fr 1
                      have z2 := hT.fr 2
                      have z3 := hT.fr 3
                      have z4 := hT.fr 4
                      have z5 := hT.fr 5
                      go_upto_region 66 with (fail)
                      clear f0 f1 f2 f3 f4 f5 g0 g1 g2 g3 g4 g5 z0 z1 z2 z3 z4 z5

                      have hT := hT.all hne hs
                      generalize ((((((w27.setCell ⟨bg, 0, none⟩ (.string ⟨#[112, 117, 116]⟩)).setCell ⟨bg, 1, none⟩ (.string ⟨#[107]⟩)).setCell ⟨bg, 2, none⟩ (.pointer p0)).setCell ⟨bg, 3, none⟩ (.pointer p1)).setCell ⟨bg, 4, none⟩ (.pointer p2)).setCell ⟨bg, 5, none⟩ (.pointer p3)) = w28 at hT ⊢
                      obtain ⟨g0, g1, g2, g3, g4, g5⟩ := fcells hT.g
                      have z0 := hT.fr 0
                      have z1 := hT.fr 1
                      have z2 := hT.fr 2
                      have z3 := hT.fr 3
                      have z4 := hT.fr 4
                      have z5 := hT.fr 5
                      go_upto_region 67 with (fail)
                      clear g0 g1 g2 g3 g4 g5 z0 z1 z2 z3 z4 z5
                      have hT := hT.set5 hne hs none
                      generalize w28.setCell ⟨bg, 5, none⟩ (.pointer none) = w29 at hT ⊢
                      obtain ⟨g0, g1, g2, g3, g4, g5⟩ := fcells hT.g
                      have hm := man3 p0 p1 p2 p3
                      go_wp2_with (fail)
                      refine zzcarries14 _ _ p0 p1 p2 none _ ?_
                      have hT := (hT.alloc (.cells #[.string ⟨#[112, 117, 116]⟩, .string ⟨#[107]⟩, .pointer p0, .pointer p1, .pointer p2, .pointer none] 32)).alloc (.cells #[.string ⟨#[112, 117, 116]⟩, .string ⟨#[107]⟩, .pointer p0, .pointer p1, .pointer p2, .pointer none] 32)
                      clear g0 g1 g2 g3 g4 g5
                      generalize (w29.alloc (.cells #[.string ⟨#[112, 117, 116]⟩, .string ⟨#[107]⟩, .pointer p0, .pointer p1, .pointer p2, .pointer none] 32)).alloc (.cells #[.string ⟨#[112, 117, 116]⟩, .string ⟨#[107]⟩, .pointer p0, .pointer p1, .pointer p2, .pointer none] 32) = w30 at hT ⊢
                      go_wp2
                      exact HR.out _ hT.b
    · go_wp2
      exact HR.out _ (Below.refl _ _)
end Go.Proofs.Qxb6600100a
