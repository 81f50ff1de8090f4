import Derived.Test.Qxb6001561aB0
namespace Go.Proofs.Qxb6001561a
set_option linter.unusedVariables false
set_option linter.unusedSimpArgs false
open Go.RowKit

set_option maxRecDepth 100000 in
set_option maxHeartbeats 1000000 in
theorem build13 (v0 v1 v2 v3 : Value) (n n1 n2 m : Nat) (s : Nat → Nat) (p : Nat → Bool) (ve : Nat → Int) (A : Nat → Option Addr) (L C : Nat → Nat) (w : World) (hn : n ≤ 1048576) (hn1 : n1 ≤ 1048576) (hn2 : n2 ≤ 1048576) (hm : m ≤ 1048576)
    (hs : ∀ j, j < n → s j < n) (h0 : SlAt w v0 n (fun j => .int .i64 (s j))) (h1 : SlAt w v1 n1 (fun j => .bool (p j))) (h2 : SlAt w v2 n2 (fun j => .int .u64 (ve j)))
    (h3 : SlAt w v3 m (fun j => .slice (A j) (L j) (C j))) {R : Ending → World → Prop}
    (hR : ∀ sv w', BI w w.heap.size n (kOf s n) n1 n2 m s p ve (fun j => .slice (A j) (L j) (C j)) n n n n n sv w' →
      R (.returned (.agg #[.slice (some ⟨w.heap.size + 2, 0, none⟩) n n, .slice (some ⟨w.heap.size + 6, 0, none⟩) (kOf s n) (kOf s n), .slice (some ⟨w.heap.size + 3, 0, none⟩) n n, .slice (some ⟨w.heap.size + 4, 0, none⟩) n n, .slice (some ⟨w.heap.size + 5, 0, none⟩) n n])) w') : Calls Try.prog 13 #[v0, v1, v2, v3] w R := by
  have HR : Hid _ := hR
  clear hR
  obtain ⟨a0, c0, rfl, hc0⟩ := h0
  obtain ⟨a1, c1, rfl, hc1⟩ := h1
  obtain ⟨a2, c2, rfl, hc2⟩ := h2
  obtain ⟨a3, c3, rfl, hc3⟩ := h3
  go_enter Try.func13, Try.ntmps13
  go_wp2
  go_loop [10, 11] (fun kv iv => ∃ i : Nat, i ≤ n ∧ iv = .int .i64 i ∧ kv = .int .i64 (kOf s i : Nat)) (fun _ i => n - (intOf i).toNat)
  case atStart => exact ⟨0, Nat.zero_le _, rfl, rfl⟩
  case round =>
    obtain ⟨i, hi, rfl, rfl⟩ := hrel
    have hkle := kOf_le s n hs i hi
    by_cases hlt : i < n
    · obtain ⟨b, off, hab, hcell⟩ := hc0 (by omega)
      subst hab
      have hbw := World.block_lt_of_cell? w _ (hcell i hlt)
      have hcx := hcell i hlt
      have hcx2 : ∀ o, (w.alloc o).cell? ⟨b, off + i, none⟩ = some (.int .i64 (s i)) := fun o => by rw [World.cell?_alloc_lt _ _ _ hbw]; exact hcx
      have hsi := hs i hlt
      clear hc0 hc1 hc2 hc3 hcell
      by_cases g : kOf s i < s i + 1
      · have hk1 : kOf s (i + 1) = s i + 1 := by simp [kOf, g]
        have HK : Hid _ := hk1
        clear hk1
        have gI : (kOf s i : Int) < (s i : Int) + 1 := by omega
        go_wp2
        go_round
        case rel => exact ⟨i + 1, by omega, by go_num, by rw [HK.out]; go_num⟩
        case measure => simp [intOf]; omega
      · have hk1 : kOf s (i + 1) = kOf s i := by simp [kOf, g]
        have HK : Hid _ := hk1
        clear hk1
        have gI : ¬ (kOf s i : Int) < (s i : Int) + 1 := by omega
        go_wp2
        go_round
        case rel => exact ⟨i + 1, by omega, by go_num, by rw [HK.out]⟩
        case measure => simp [intOf]; omega
    · have : i = n := by omega
      subst this
      obtain ⟨k, hk⟩ : ∃ k, k = kOf s i := ⟨_, rfl⟩
      have HK : Hid _ := hk
      rw [← hk] at hkle ⊢
      clear hk
      have mk1 := make_ops i hn
      have mk2 := run_make_row' (P := Try.prog) 22 3 (.int .i64 0) 8 Try.underlying22 Try.info3 rfl .i64 .i64 i (by omega) (by omega)
      have mk3 := run_make_row' (P := Try.prog) 25 22 (.slice none 0 0) 24 Try.underlying25 Try.info22 rfl .i64 .i64 i (by omega) (by omega)
      have mk4 := run_make_row' (P := Try.prog) 25 22 (.slice none 0 0) 24 Try.underlying25 Try.info22 rfl .i64 .i64 k (by omega) (by omega)
      go_wp2
      clear mk1 mk2 mk3 mk4
      go_loopg [13] i (fun g iv wr => ∃ j sv, j ≤ i ∧ g = i - j ∧ iv = .int .i64 (j : Nat) ∧ BI w w.heap.size i k n1 n2 m s p ve (fun j => .slice (A j) (L j) (C j)) j j j j j sv wr)
      case atStart =>
        exact ⟨0, _, Nat.zero_le _, rfl, rfl, BI.start w i k n1 n2 m s p ve _⟩
      case round =>
        obtain ⟨j, sv, hj, rfl, rfl, hBI⟩ := hrel
        have hz := hBI.size
        obtain ⟨S, hS⟩ : ∃ S : Nat → Value, S = fun j => .slice (A j) (L j) (C j) := ⟨_, rfl⟩
        rw [← hS] at hBI
        by_cases hlt : j < i
        · obtain ⟨b, off, hab, hcell⟩ := hc0 (by omega)
          subst hab
          have hcx : wr.cell? ⟨b, off + j, none⟩ = some (.int .i64 (s j)) := cell_below (B := 0) hBI.bel (hcell j hlt)
          have HS : Hid _ := hS
          have HL : Hid (∀ q, q < k → (sv q).ownBlock ≠ some wr.heap.size) := fun q hq e => by have := (hBI.rowsLt hq e).2; omega
          have HC1 : Hid _ := hc1
          have HC2 : Hid _ := hc2
          have HC3 : Hid _ := hc3
          clear hc0 hcell hc1 hc2 hc3 hS
          go_upto_region 19 with (fail)
          clear hcx
          go_cut [70] (fun t wc => t = .bool (decide (j < n1 ∧ p j = true)) ∧ wc = wr.alloc (.cells #[.int .i64 0, .int .i64 (s j), .string ⟨#[103, 101, 116]⟩, .string ⟨#[]⟩, .int .u64 0, .int .i64 0, .int .i64 0, .string ⟨#[]⟩, .string ⟨#[]⟩, .string ⟨#[]⟩] 43))
          case first =>
            by_cases g1 : j < n1
            · obtain ⟨b1, off1, hab1, hcell1⟩ := HC1.out (by omega)
              subst hab1
              have hcx : wr.cell? ⟨b1, off1 + j, none⟩ = some (.bool (p j)) := cell_below (B := 0) hBI.bel (hcell1 j g1)
              have hbl := World.block_lt_of_cell? wr _ hcx
              have hcy : ∀ o, (wr.alloc o).cell? ⟨b1, off1 + j, none⟩ = some (.bool (p j)) := fun o => by rw [World.cell?_alloc_lt _ _ _ hbl]; exact hcx
              have gI : (j : Int) < n1 := by omega
              clear hcell1
              cases hp : p j
              · rw [hp] at hcy
                go_wp2
                go_meet
                case rel => exact ⟨by simp [g1, hp], rfl⟩
              · rw [hp] at hcy
                go_wp2
                go_meet
                case rel => exact ⟨by simp [g1, hp], rfl⟩
            · have gI : decide ((j : Int) < (n1 : Int)) = false := by simp; omega
              go_wp2
              go_meet
              case rel => exact ⟨by simp [g1], rfl⟩
          case rest =>
            obtain ⟨rfl, rfl⟩ := hcut
            go_upto_if 70 with (fail)
            go_cut [] (fun wc => BI w w.heap.size i k n1 n2 m s p ve S j j j j j sv wc ∧ wr.heap.size < wc.heap.size ∧
              wc.heap[wr.heap.size]? = some (.cells #[.int .i64 0, .int .i64 (s j), kindOf n1 p j, .string ⟨#[]⟩, .int .u64 0, .int .i64 0, .int .i64 0, .string ⟨#[]⟩, .string ⟨#[]⟩, .string ⟨#[]⟩] 43 (0, 0)))
            case first =>
              by_cases g1 : j < n1 ∧ p j = true
              · have gd : decide (j < n1 ∧ p j = true) = true := by simp [g1]
                have GK : Hid (kindOf n1 p j = .string ⟨#[112, 117, 116]⟩) := if_pos g1
                rw [gd]
                clear g1
                go_wp2
                go_meet
                case rel =>
                  refine ⟨hBI.grow (World.grownBy_alloc _ _ _), by simp, ?_⟩
                  rw [GK.out]
                  exact Go.Deep.blk_alloc_new _ _
              · have gd : decide (j < n1 ∧ p j = true) = false := by simp only [g1, decide_false]
                have GK : Hid (kindOf n1 p j = .string ⟨#[103, 101, 116]⟩) := if_neg g1
                rw [gd]
                clear g1
                go_wp2
                go_meet
                case rel =>
                  refine ⟨hBI.grow (World.grownBy_alloc _ _ _), by simp, ?_⟩
                  rw [GK.out]
                  exact Go.Deep.blk_alloc_new _ _
            case rest =>
              clear hBI
              obtain ⟨hBI, hbw, hop⟩ := hcut
              go_upto_if 75 with (fail)
              go_cut [] (fun wd => BI w w.heap.size i k n1 n2 m s p ve S j j j j j sv wd ∧ wr.heap.size < wd.heap.size ∧
                wd.heap[wr.heap.size]? = some (.cells #[.int .i64 0, .int .i64 (s j), kindOf n1 p j, .string ⟨#[]⟩, .int .u64 (verOf n2 ve j), .int .i64 0, .int .i64 0, .string ⟨#[]⟩, .string ⟨#[]⟩, .string ⟨#[]⟩] 43 (0, 0)))
              case first =>
                by_cases g2 : j < n2
                · obtain ⟨b2, off2, hab2, hcell2⟩ := HC2.out (by omega)
                  subst hab2
                  have hcx : wc.cell? ⟨b2, off2 + j, none⟩ = some (.int .u64 (ve j)) := cell_below (B := 0) hBI.bel (hcell2 j g2)
                  have hoc : wc.cell? ⟨wr.heap.size, 4, none⟩ = some (.int .u64 0) := by rw [cell_of_row wc _ 4 _ _ _ hop]; rfl
                  have hof : wc.frozen? ⟨wr.heap.size, 4, none⟩ = false := frozen_of_row wc _ 4 _ _ hop
                  have GV : Hid (verOf n2 ve j = ve j) := if_pos g2
                  have HOP : Hid _ := hop
                  clear hcell2 hop
                  go_wp2
                  go_meet
                  case rel =>
                    refine ⟨?_, ?_, ?_⟩
                    · exact hBI.other hz HL.out (grownBy_setCell wc ⟨wr.heap.size, 4, none⟩ _)
                    · simp [World.setCell]; exact hbw
                    · rw [GV.out]
                      have := heap_setCell_same wc wr.heap.size 4 _ _ (.int .u64 (ve j)) HOP.out
                      exact this
                · have gI : ¬ (j : Int) < n2 := by omega
                  have GV : Hid (verOf n2 ve j = 0) := if_neg g2
                  have HOP : Hid _ := hop
                  clear hop
                  go_wp2
                  go_meet
                  case rel => exact ⟨hBI, hbw, by rw [GV.out]; exact HOP.out⟩
              case rest =>
                clear hBI hbw hop
                obtain ⟨hBI, hbw, hop⟩ := hcut
                have d0 : wc.cell? ⟨wr.heap.size, 0, none⟩ = some (.int .i64 0) := by rw [cell_of_row wc _ 0 _ _ _ hop]; rfl
                have d1 : wc.cell? ⟨wr.heap.size, 1, none⟩ = some (.int .i64 (s j)) := by rw [cell_of_row wc _ 1 _ _ _ hop]; rfl
                obtain ⟨kd, hkd⟩ : ∃ kd, kindOf n1 p j = .string kd := by unfold kindOf; split <;> exact ⟨_, rfl⟩
                have d2 : wc.cell? ⟨wr.heap.size, 2, none⟩ = some (.string kd) := by rw [cell_of_row wc _ 2 _ _ _ hop, ← hkd]; rfl
                have d3 : wc.cell? ⟨wr.heap.size, 3, none⟩ = some (.string ⟨#[]⟩) := by rw [cell_of_row wc _ 3 _ _ _ hop]; rfl
                have d4 : wc.cell? ⟨wr.heap.size, 4, none⟩ = some (.int .u64 (verOf n2 ve j)) := by rw [cell_of_row wc _ 4 _ _ _ hop]; rfl
                have d5 : wc.cell? ⟨wr.heap.size, 5, none⟩ = some (.int .i64 0) := by rw [cell_of_row wc _ 5 _ _ _ hop]; rfl
                have d6 : wc.cell? ⟨wr.heap.size, 6, none⟩ = some (.int .i64 0) := by rw [cell_of_row wc _ 6 _ _ _ hop]; rfl
                have d7 : wc.cell? ⟨wr.heap.size, 7, none⟩ = some (.string ⟨#[]⟩) := by rw [cell_of_row wc _ 7 _ _ _ hop]; rfl
                have d8 : wc.cell? ⟨wr.heap.size, 8, none⟩ = some (.string ⟨#[]⟩) := by rw [cell_of_row wc _ 8 _ _ _ hop]; rfl
                have d9 : wc.cell? ⟨wr.heap.size, 9, none⟩ = some (.string ⟨#[]⟩) := by rw [cell_of_row wc _ 9 _ _ _ hop]; rfl
                have hh0 : wc.cell? ⟨w.heap.size + 1, 0, none⟩ = some (.slice (some ⟨w.heap.size + 2, 0, none⟩) i i) := by rw [cell_of_row wc _ 0 _ _ _ hBI.head]; rfl
                have HKD : Hid _ := hkd
                obtain ⟨co, hco, hcs, hcv⟩ := hBI.ops
                have e0 : wc.cell? ⟨w.heap.size + 2, j * 10, none⟩ = some (co[j * 10 + 0]'(by omega)) := by rw [cell_of_row wc _ _ _ _ _ hco]; simp
                have e1 : wc.cell? ⟨w.heap.size + 2, j * 10 + 1, none⟩ = some (co[j * 10 + 1]'(by omega)) := by rw [cell_of_row wc _ _ _ _ _ hco]; simp
                have e2 : wc.cell? ⟨w.heap.size + 2, j * 10 + 2, none⟩ = some (co[j * 10 + 2]'(by omega)) := by rw [cell_of_row wc _ _ _ _ _ hco]; simp
                have e3 : wc.cell? ⟨w.heap.size + 2, j * 10 + 3, none⟩ = some (co[j * 10 + 3]'(by omega)) := by rw [cell_of_row wc _ _ _ _ _ hco]; simp
                have e4 : wc.cell? ⟨w.heap.size + 2, j * 10 + 4, none⟩ = some (co[j * 10 + 4]'(by omega)) := by rw [cell_of_row wc _ _ _ _ _ hco]; simp
                have e5 : wc.cell? ⟨w.heap.size + 2, j * 10 + 5, none⟩ = some (co[j * 10 + 5]'(by omega)) := by rw [cell_of_row wc _ _ _ _ _ hco]; simp
                have e6 : wc.cell? ⟨w.heap.size + 2, j * 10 + 6, none⟩ = some (co[j * 10 + 6]'(by omega)) := by rw [cell_of_row wc _ _ _ _ _ hco]; simp
                have e7 : wc.cell? ⟨w.heap.size + 2, j * 10 + 7, none⟩ = some (co[j * 10 + 7]'(by omega)) := by rw [cell_of_row wc _ _ _ _ _ hco]; simp
                have e8 : wc.cell? ⟨w.heap.size + 2, j * 10 + 8, none⟩ = some (co[j * 10 + 8]'(by omega)) := by rw [cell_of_row wc _ _ _ _ _ hco]; simp
                have e9 : wc.cell? ⟨w.heap.size + 2, j * 10 + 9, none⟩ = some (co[j * 10 + 9]'(by omega)) := by rw [cell_of_row wc _ _ _ _ _ hco]; simp
                have ef : ∀ o, wc.frozen? ⟨w.heap.size + 2, o, none⟩ = false := fun o => frozen_of_row wc _ o _ _ hco
                have HCV : Hid _ := hcv
                have HCO : Hid _ := hco
                clear hop hkd hcv hco
                go_upto_region 23 with (fail)
                go_cut [] (fun we => BI w w.heap.size i k n1 n2 m s p ve S (j + 1) j j j j sv we)
                case first =>
                  go_wp2
                  go_meet
                  case rel =>
                    exact hBI.storeOp hlt _ _ _ _ _ _ _ _ _ _ HKD.out.symm rfl
                case rest =>
                  clear hBI hbw d0 d1 d2 d3 d4 d5 d6 d7 d8 d9 hh0 HKD e0 e1 e2 e3 e4 e5 e6 e7 e8 e9 ef HCV HCO hcs
                  have hBI := hcut
                  clear hcut
                  have hk : s j < k := by rw [HK.out]; exact lt_kOf s i j hlt
                  have hkI : (s j : Int) < (k : Int) := by omega
                  have HB : Hid _ := hBI.seqCell hk (World.grownBy.refl wc _)
                  obtain ⟨q1, q2, q3⟩ := HB.out
                  obtain ⟨i0, hi0, hz0, hz1, hz2⟩ := info_parts Try.info3
                  have hlen := seqOf_length s j (s j)
                  have hzc := hBI.size
                  have q1' : ∀ o, (wc.alloc o).cell? ⟨w.heap.size + 6, s j, none⟩ = some (sv (s j)) := fun o => by rw [World.cell?_alloc_lt _ _ _ (by show w.heap.size + 6 < _; omega)]; exact q1
                  have q3' : ∀ o, (wc.alloc o).cell? ⟨w.heap.size + 1, 1, none⟩ = some (.slice (some ⟨w.heap.size + 6, 0, none⟩) k k) := fun o => by rw [World.cell?_alloc_lt _ _ _ (by show w.heap.size + 1 < _; omega)]; exact q3
                  go_upto_region 24 with (fail)
                  go_cut [] (fun we => ∃ sv', BI w w.heap.size i k n1 n2 m s p ve S (j + 1) j j j (j + 1) sv' we)
                  case first =>

                    go_region_law ((refine step_append_lies _ rfl _ _ 22 rfl (w.heap.size + 7) 3 i0 (.int .i64 0) 1 8 Try.underlying22 hi0 hz0 hz1 hz2 rfl (by decide) _ _ _ (by simp [Act.eval, Act.put]; rfl) (by exact (hBI.rows (s j) hk).alloc _) ⟨wc.heap.size, 0, none⟩ 1 1 [.int .i64 (j : Int)] (by simp [Act.eval, Act.put]) rfl (cell_one_new _ _ _) (ints_oneCell .i64 [(j : Int)]) (by decide) (by unfold maxLen; omega) (by omega) (by simp; omega) _ rfl ?_; intro g cap w1 hown hgrow hat hlt1; obtain ⟨r1, r2, r3⟩ := hBI.seqCell hk ((grownBy_drew (World.grownBy_alloc wc (.cells #[.int .i64 (j : Int)] 3) _)).trans hgrow); have HF : Hid (BI w w.heap.size i k n1 n2 m s p ve S (j + 1) j j j (j + 1) _ _) := hBI.setSeq hk ((grownBy_drew (World.grownBy_alloc wc (.cells #[.int .i64 (j : Int)] 3) _)).trans hgrow) hown (hat.imp id (fun h => by rw [h]; simp)); clear hown hgrow hat hlt1))
                    all_goals
                      go_wp2
                      go_meet
                      case rel => exact ⟨_, Hid.out (by assumption)⟩

                  case rest =>
                    clear hBI hk hkI HB q1 q2 q3 i0 hi0 hz0 hz1 hz2 hlen hzc q1' q3'
                    obtain ⟨sv', hBI⟩ := hcut
                    clear HL
                    have hzc := hBI.size
                    have q1 : wc.cell? ⟨w.heap.size + 1, 2, none⟩ = some (.slice (some ⟨w.heap.size + 3, 0, none⟩) i i) := by rw [cell_of_row wc _ 2 _ _ _ hBI.head]; rfl
                    have q2 := hBI.sess.cell hlt
                    have q3 := hBI.sess.frozen j
                    go_upto_region 25 with (fail)
                    go_cut [] (fun we => BI w w.heap.size i k n1 n2 m s p ve S (j + 1) (j + 1) j j (j + 1) sv' we)
                    case first =>

                      go_wp2
                      go_meet
                      case rel => exact hBI.setSess

                    case rest =>
                      clear q1 q2 q3 hBI hzc
                      have hBI := hcut
                      clear hcut
                      have hzc := hBI.size
                      have hk : s j < k := by rw [HK.out]; exact lt_kOf s i j hlt
                      have hkI : (s j : Int) < (k : Int) := by omega
                      have q1 : wc.cell? ⟨w.heap.size + 1, 3, none⟩ = some (.slice (some ⟨w.heap.size + 4, 0, none⟩) i i) := by rw [cell_of_row wc _ 3 _ _ _ hBI.head]; rfl
                      have q4 : wc.cell? ⟨w.heap.size + 1, 1, none⟩ = some (.slice (some ⟨w.heap.size + 6, 0, none⟩) k k) := by rw [cell_of_row wc _ 1 _ _ _ hBI.head]; rfl
                      have q2 := hBI.place.cell hlt
                      have q3 := hBI.place.frozen j
                      obtain ⟨g, cap, hgv, hg1, hg2⟩ := (hBI.rows (s j) hk).form (by rw [seqOf_succ_same]; simp)
                      have q5 : wc.cell? ⟨w.heap.size + 6, s j, none⟩ = some (.slice (some ⟨g, 0, none⟩) (placeOf s j) cap) := by rw [hBI.seqs.cell hk, hgv]; rfl
                      clear hgv hg1 hg2
                      go_upto_region 26 with (fail)
                      go_cut [] (fun we => BI w w.heap.size i k n1 n2 m s p ve S (j + 1) (j + 1) (j + 1) j (j + 1) sv' we)
                      case first =>

                        go_region
                        all_goals
                          go_wp2
                          go_meet
                          case rel => exact hBI.setPlace.drew

                      case rest =>
                        clear q1 q2 q3 q4 q5 g cap hBI hzc hk hkI
                        have hBI := hcut
                        clear hcut
                        have hzc := hBI.size
                        have q1 : wc.cell? ⟨w.heap.size + 1, 4, none⟩ = some (.slice (some ⟨w.heap.size + 5, 0, none⟩) i i) := by rw [cell_of_row wc _ 4 _ _ _ hBI.head]; rfl
                        have q2 := hBI.srcs.cell hlt
                        have q3 := hBI.srcs.frozen j
                        by_cases g3 : j < m
                        · obtain ⟨b3, off3, hab3, hcell3⟩ := HC3.out (by omega)
                          subst hab3
                          have hcx : wc.cell? ⟨b3, off3 + j, none⟩ = some (.slice (A j) (L j) (C j)) := cell_below (B := 0) hBI.bel (hcell3 j g3)
                          have gI : (j : Int) < m := by omega
                          clear hcell3
                          go_upto_region 28 with (fail)
                          go_region
                          all_goals
                            go_wp2
                            go_roundg (i - (j + 1))
                            case measure => omega
                            case rel =>
                              refine ⟨j + 1, sv', by omega, rfl, by go_num, ?_⟩
                              have := (hBI.setSrc g3).drew
                              rw [HS.out] at this
                              exact this
                        · have gI : ¬ (j : Int) < m := by omega
                          go_wp2
                          go_roundg (i - (j + 1))
                          case measure => omega
                          case rel =>
                            refine ⟨j + 1, sv', by omega, rfl, by go_num, ?_⟩
                            have := hBI.skipSrc g3
                            rw [HS.out] at this
                            exact this
        · have hji : j = i := by omega
          subst hji
          clear hc0 hc1 hc2 hc3
          have z0 : wr.cell? ⟨w.heap.size + 1, 0, none⟩ = some (.slice (some ⟨w.heap.size + 2, 0, none⟩) j j) := by rw [cell_of_row wr _ 0 _ _ _ hBI.head]; rfl
          have z1 : wr.cell? ⟨w.heap.size + 1, 1, none⟩ = some (.slice (some ⟨w.heap.size + 6, 0, none⟩) k k) := by rw [cell_of_row wr _ 1 _ _ _ hBI.head]; rfl
          have z2 : wr.cell? ⟨w.heap.size + 1, 2, none⟩ = some (.slice (some ⟨w.heap.size + 3, 0, none⟩) j j) := by rw [cell_of_row wr _ 2 _ _ _ hBI.head]; rfl
          have z3 : wr.cell? ⟨w.heap.size + 1, 3, none⟩ = some (.slice (some ⟨w.heap.size + 4, 0, none⟩) j j) := by rw [cell_of_row wr _ 3 _ _ _ hBI.head]; rfl
          have z4 : wr.cell? ⟨w.heap.size + 1, 4, none⟩ = some (.slice (some ⟨w.heap.size + 5, 0, none⟩) j j) := by rw [cell_of_row wr _ 4 _ _ _ hBI.head]; rfl
          obtain ⟨c, hc, hcs⟩ := hBI.res
          have y0 : wr.cell? ⟨w.heap.size, 0, none⟩ = some (c[0]'(by omega)) := by rw [cell_of_row wr _ _ _ _ _ hc]; simp
          have y1 : wr.cell? ⟨w.heap.size, 1, none⟩ = some (c[1]'(by omega)) := by rw [cell_of_row wr _ _ _ _ _ hc]; simp
          have y2 : wr.cell? ⟨w.heap.size, 2, none⟩ = some (c[2]'(by omega)) := by rw [cell_of_row wr _ _ _ _ _ hc]; simp
          have y3 : wr.cell? ⟨w.heap.size, 3, none⟩ = some (c[3]'(by omega)) := by rw [cell_of_row wr _ _ _ _ _ hc]; simp
          have y4 : wr.cell? ⟨w.heap.size, 4, none⟩ = some (c[4]'(by omega)) := by rw [cell_of_row wr _ _ _ _ _ hc]; simp
          have yf : ∀ o, wr.frozen? ⟨w.heap.size, o, none⟩ = false := fun o => frozen_of_row wr _ o _ _ hc
          clear hc
          go_wp2
          refine bodyPost_ret (v := .agg #[.slice (some ⟨w.heap.size + 2, 0, none⟩) j j, .slice (some ⟨w.heap.size + 6, 0, none⟩) k k, .slice (some ⟨w.heap.size + 3, 0, none⟩) j j, .slice (some ⟨w.heap.size + 4, 0, none⟩) j j, .slice (some ⟨w.heap.size + 5, 0, none⟩) j j]) (by simp [results, Try.results13, go_sem, y0, y1, y2, y3, y4]) rfl ?_
          have hfin := ((((hBI.setRes 0 (.slice (some ⟨w.heap.size + 2, 0, none⟩) j j)).setRes 1 (.slice (some ⟨w.heap.size + 6, 0, none⟩) k k)).setRes 2 (.slice (some ⟨w.heap.size + 3, 0, none⟩) j j)).setRes 3 (.slice (some ⟨w.heap.size + 4, 0, none⟩) j j)).setRes 4 (.slice (some ⟨w.heap.size + 5, 0, none⟩) j j)
          rw [hS] at hfin
          have hk := HK.out
          subst hk
          exact HR.out sv _ hfin
end Go.Proofs.Qxb6001561a
