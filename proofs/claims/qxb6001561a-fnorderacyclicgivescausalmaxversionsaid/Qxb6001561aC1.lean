import Derived.Test.Qxb6001561aP5
import Derived.Test.Qxb6001561aA5
import Derived.Test.Qxb6001561aZ0
namespace Go.Proofs.Qxb6001561a
set_option linter.unusedVariables false
set_option linter.unusedSimpArgs false
open Go.RowKit

/-- what zzClosureMax_hb1 reads -/
structure CIn (w : World) (H : Hist) (n K bops bsess bsi : Nat) : Prop where
  ops : ∀ j, j < n → w.cell? ⟨bops, j * 10 + 2, none⟩ = some (kindV (H.put j)) ∧ w.cell? ⟨bops, j * 10 + 4, none⟩ = some (.int .u64 (H.ver j))
  sess : ∀ j, j < n → w.cell? ⟨bsess, j, none⟩ = some (.int .i64 (H.sess j : Nat))
  src : ∀ i, i < n → ∃ A C, w.cell? ⟨bsi, i, none⟩ = some (.slice A (H.src i).length C) ∧ SlAt w (.slice A (H.src i).length C) (H.src i).length (fun t => .int .i64 ((H.src i).getD t 0 : Nat))
  srcLen : ∀ i, i < n → (H.src i).length ≤ 1048576
  sessLt : ∀ j, j < n → H.sess j < K
  srcLt : ∀ i, i < n → ∀ t, t < (H.src i).length → (H.src i).getD t 0 < i

theorem rowIs_other {wr : World} {b b2 n i : Nat} {t : TypeId} {f : Nat → Value} {v : Value} (h : wr.rowIs b t n f) (hne : b ≠ b2) : (wr.setCell ⟨b2, i, none⟩ v).rowIs b t n f :=
  h.of_block ((grownBy_setCell wr ⟨b2, i, none⟩ v).block b h.lt (by simpa using hne))
theorem heap_other {wr : World} {b b2 i : Nat} {o : Obj} {v : Value} (h : wr.heap[b]? = some o) (hne : b ≠ b2) : (wr.setCell ⟨b2, i, none⟩ v).heap[b]? = some o :=
  ((grownBy_setCell wr ⟨b2, i, none⟩ v).block b (Array.getElem?_eq_some_iff.1 h).1 (by simpa using hne)).trans h

theorem cell_belowB {w w' : World} {B : Nat} (hB : w.heap.size = B) (h : Below B w w') {a : Addr} {v : Value} (hc : w.cell? a = some v) : w'.cell? a = some v := by
  subst hB; exact cell_below (B := 0) h hc

/-- zzClosureMax_hb1's own memory: its copy of h (block B), prev (B1), last (B2) -/
structure CS (w : World) (B B1 B2 n K bops bseqs bsess bplace bsi : Nat) (fp fl : Nat → Int) (wr : World) : Prop where
  bel : Below B w wr
  head : wr.heap[B]? = some (.cells #[.slice (some ⟨bops, 0, none⟩) n n, .slice (some ⟨bseqs, 0, none⟩) K K, .slice (some ⟨bsess, 0, none⟩) n n, .slice (some ⟨bplace, 0, none⟩) n n, .slice (some ⟨bsi, 0, none⟩) n n] 34 (0, 0))
  prev : wr.rowIs B1 3 n (fun j => .int .i64 (fp j))
  last : wr.rowIs B2 3 K (fun q => .int .i64 (fl q))

section
variable {w wr : World} {B B1 B2 n K bops bseqs bsess bplace bsi : Nat} {fp fl : Nat → Int}
theorem CS.congr (h : CS w B B1 B2 n K bops bseqs bsess bplace bsi fp fl wr) {fp' fl' : Nat → Int} (e1 : ∀ j, j < n → fp j = fp' j) (e2 : ∀ q, q < K → fl q = fl' q) : CS w B B1 B2 n K bops bseqs bsess bplace bsi fp' fl' wr :=
  ⟨h.bel, h.head, h.prev.congr (fun j hj => by rw [e1 j hj]), h.last.congr (fun q hq => by rw [e2 q hq])⟩
theorem CS.setLast (h : CS w B B1 B2 n K bops bseqs bsess bplace bsi fp fl wr) (h1 : B < B1) (h2 : B1 < B2) (q : Nat) (x : Int) : CS w B B1 B2 n K bops bseqs bsess bplace bsi fp (upd fl q x) (wr.setCell ⟨B2, q, none⟩ (.int .i64 x)) :=
  ⟨h.bel.setCell (by simp only; omega) _, heap_other h.head (by omega), rowIs_other h.prev (by omega), (h.last.set q _).congr (fun j _ => by
    by_cases e : j = q
    · rw [if_pos e, e, upd_same]
    · rw [if_neg e, upd_other _ _ e])⟩
theorem CS.setPrev (h : CS w B B1 B2 n K bops bseqs bsess bplace bsi fp fl wr) (h1 : B < B1) (h2 : B1 < B2) (q : Nat) (x : Int) : CS w B B1 B2 n K bops bseqs bsess bplace bsi (upd fp q x) fl (wr.setCell ⟨B1, q, none⟩ (.int .i64 x)) :=
  ⟨h.bel.setCell (by simp only; omega) _, heap_other h.head (by omega), (h.prev.set q _).congr (fun j _ => by
    by_cases e : j = q
    · rw [if_pos e, e, upd_same]
    · rw [if_neg e, upd_other _ _ e]), rowIs_other h.last (by omega)⟩
theorem CS.cells (h : CS w B B1 B2 n K bops bseqs bsess bplace bsi fp fl wr) : wr.cell? ⟨B, 0, none⟩ = some (.slice (some ⟨bops, 0, none⟩) n n) ∧ wr.cell? ⟨B, 2, none⟩ = some (.slice (some ⟨bsess, 0, none⟩) n n) ∧ wr.cell? ⟨B, 4, none⟩ = some (.slice (some ⟨bsi, 0, none⟩) n n) := by
  refine ⟨?_, ?_, ?_⟩ <;> (rw [cell_of_row wr _ _ _ _ _ h.head]; rfl)
end

/-- the same, with the table m (block B3) -/
structure CT (w : World) (B B1 B3 n K bops bseqs bsess bplace bsi : Nat) (fp m : Nat → Int) (wr : World) : Prop where
  bel : Below B w wr
  head : wr.heap[B]? = some (.cells #[.slice (some ⟨bops, 0, none⟩) n n, .slice (some ⟨bseqs, 0, none⟩) K K, .slice (some ⟨bsess, 0, none⟩) n n, .slice (some ⟨bplace, 0, none⟩) n n, .slice (some ⟨bsi, 0, none⟩) n n] 34 (0, 0))
  prev : wr.rowIs B1 3 n (fun j => .int .i64 (fp j))
  row : wr.rowIs B3 40 n (fun j => .int .u64 (m j))

section
variable {w wr : World} {B B1 B2 B3 n K bops bseqs bsess bplace bsi : Nat} {fp fl m : Nat → Int}
theorem CS.made (h : CS w B B1 B2 n K bops bseqs bsess bplace bsi fp fl wr) (hB : w.heap.size = B) : CT w B B1 wr.heap.size n K bops bseqs bsess bplace bsi fp (fun _ => 0) (wr.alloc (.cells (madeCells #[.int .u64 0] n) 40)) ∧ B1 < wr.heap.size ∧ B < wr.heap.size := by
  have l1 : B < wr.heap.size := (Array.getElem?_eq_some_iff.1 h.head).1
  refine ⟨⟨h.bel.alloc (by have := h.bel.size; omega) _, ?_, ?_, World.rowIs_made _ _ _ _⟩, h.prev.lt, l1⟩
  · rw [Go.Deep.blk_alloc_lt _ _ _ l1]; exact h.head
  · exact h.prev.of_block (Go.Deep.blk_alloc_lt _ _ _ h.prev.lt)
theorem CT.congr (h : CT w B B1 B3 n K bops bseqs bsess bplace bsi fp m wr) {m' : Nat → Int} (e : ∀ j, j < n → m j = m' j) : CT w B B1 B3 n K bops bseqs bsess bplace bsi fp m' wr :=
  ⟨h.bel, h.head, h.prev, h.row.congr (fun j hj => by rw [e j hj])⟩
theorem CT.set (h : CT w B B1 B3 n K bops bseqs bsess bplace bsi fp m wr) (h1 : B1 < B3) (h2 : B < B3) (q : Nat) (x : Int) : CT w B B1 B3 n K bops bseqs bsess bplace bsi fp (upd m q x) (wr.setCell ⟨B3, q, none⟩ (.int .u64 x)) :=
  ⟨h.bel.setCell (by simp only; omega) _, heap_other h.head (by omega), rowIs_other h.prev (by omega), (h.row.set q _).congr (fun j _ => by
    by_cases e : j = q
    · rw [if_pos e, e, upd_same]
    · rw [if_neg e, upd_other _ _ e])⟩
theorem CT.cells (h : CT w B B1 B3 n K bops bseqs bsess bplace bsi fp m wr) : wr.cell? ⟨B, 0, none⟩ = some (.slice (some ⟨bops, 0, none⟩) n n) ∧ wr.cell? ⟨B, 4, none⟩ = some (.slice (some ⟨bsi, 0, none⟩) n n) := by
  refine ⟨?_, ?_⟩ <;> (rw [cell_of_row wr _ _ _ _ _ h.head]; rfl)
end

/-- the table in pass ph, up to index i -/
def baseT (H : Hist) (ph : Nat) (j : Nat) : Int := if ph = 0 then ownV H j else Mx H j
def tabT (H : Hist) (ph i : Nat) (j : Nat) : Int := if j < i then Mx H j else baseT H ph j

theorem swp_tab {H : Hist} (hB : Back H) (hv : ∀ i, 0 ≤ H.ver i) {pv : Nat → Int} (hp : PrevOK H pv) {i ph : Nat} (hi : i < H.n) : swp H pv (tabT H ph i) i = Mx H i := by
  have h1 : ∀ j, j < i → tabT H ph i j = Mx H j := fun j hj => if_pos hj
  have h2 : tabT H ph i i = baseT H ph i := if_neg (Nat.lt_irrefl i)
  by_cases e : ph = 0
  · exact swp_own hB hv hp hi h1 (by rw [h2]; exact if_pos e)
  · exact swp_fix hB hp hi h1 (by rw [h2]; exact if_neg e)

set_option maxRecDepth 100000 in
set_option maxHeartbeats 4000000 in
theorem closure18 {H : Hist} {n K bops bseqs bsess bplace bsi : Nat} {w : World} (hn : n ≤ 1048576) (hK : K ≤ 1048576) (hHn : H.n = n) (hB : Back H) (hP : PrevOK H (prevOf H.sess)) (hver : ∀ i, 0 ≤ H.ver i ∧ H.ver i ≤ 18446744073709551615) (h : CIn w H n K bops bsess bsi) {R : Ending → World → Prop}
    (hR : ∀ b w', w'.rowIs b 40 n (fun i => .int .u64 (Mx H i)) → Below w.heap.size w w' → R (.returned (.slice (some ⟨b, 0, none⟩) n n)) w') :
    Calls Try.prog 18 #[.agg #[.slice (some ⟨bops, 0, none⟩) n n, .slice (some ⟨bseqs, 0, none⟩) K K, .slice (some ⟨bsess, 0, none⟩) n n, .slice (some ⟨bplace, 0, none⟩) n n, .slice (some ⟨bsi, 0, none⟩) n n]] w R := by
  have HR : Hid _ := hR
  clear hR
  have mk1 := run_make_row' (P := Try.prog) 22 3 (.int .i64 0) 8 Try.underlying22 Try.info3 rfl .i64 .i64 n (by omega) (by omega)
  have mk2 := run_make_row' (P := Try.prog) 22 3 (.int .i64 0) 8 Try.underlying22 Try.info3 rfl .i64 .i64 K (by omega) (by omega)
  have mk3 := run_make_row' (P := Try.prog) 24 40 (.int .u64 0) 8 Try.underlying24 Try.info40 rfl .i64 .i64 n (by omega) (by omega)
  go_enter Try.func18, Try.ntmps18
  go_wp2
  clear mk1 mk2
  have hcs0 : CS w w.heap.size (w.heap.size + 1) (w.heap.size + 1 + 1) n K bops bseqs bsess bplace bsi (fun _ => 0) (fun _ => 0) (((w.alloc (.cells #[.slice (some ⟨bops, 0, none⟩) n n, .slice (some ⟨bseqs, 0, none⟩) K K, .slice (some ⟨bsess, 0, none⟩) n n, .slice (some ⟨bplace, 0, none⟩) n n, .slice (some ⟨bsi, 0, none⟩) n n] 34)).alloc (.cells (madeCells #[.int .i64 0] n) 3)).alloc (.cells (madeCells #[.int .i64 0] K) 3)) := by
    refine ⟨(((Below.refl _ _).alloc (Nat.le_refl _) _).alloc (by simp) _).alloc (by simp; omega) _, ?_, ?_, ?_⟩
    · rw [Go.Deep.blk_alloc_lt _ _ _ (by simp; omega), Go.Deep.blk_alloc_lt _ _ _ (by simp), Go.Deep.blk_alloc_new]
    · have := World.rowIs_made (w.alloc (.cells #[.slice (some ⟨bops, 0, none⟩) n n, .slice (some ⟨bseqs, 0, none⟩) K K, .slice (some ⟨bsess, 0, none⟩) n n, .slice (some ⟨bplace, 0, none⟩) n n, .slice (some ⟨bsi, 0, none⟩) n n] 34)) (.int .i64 0) n 3
      simp only [Go.Deep.nblk_alloc] at this
      exact this.of_block (Go.Deep.blk_alloc_lt _ _ _ (by simp))
    · have := World.rowIs_made ((w.alloc (.cells #[.slice (some ⟨bops, 0, none⟩) n n, .slice (some ⟨bseqs, 0, none⟩) K K, .slice (some ⟨bsess, 0, none⟩) n n, .slice (some ⟨bplace, 0, none⟩) n n, .slice (some ⟨bsi, 0, none⟩) n n] 34)).alloc (.cells (madeCells #[.int .i64 0] n) 3)) (.int .i64 0) K 3
      simp only [Go.Deep.nblk_alloc] at this
      exact this
  generalize (((w.alloc (.cells #[.slice (some ⟨bops, 0, none⟩) n n, .slice (some ⟨bseqs, 0, none⟩) K K, .slice (some ⟨bsess, 0, none⟩) n n, .slice (some ⟨bplace, 0, none⟩) n n, .slice (some ⟨bsi, 0, none⟩) n n] 34)).alloc (.cells (madeCells #[.int .i64 0] n) 3)).alloc (.cells (madeCells #[.int .i64 0] K) 3)) = w1 at hcs0 ⊢
  have hl1 : w.heap.size < w.heap.size + 1 := by omega
  have hl2 : w.heap.size + 1 < w.heap.size + 1 + 1 := by omega
  generalize w.heap.size + 1 + 1 = B2 at *
  generalize w.heap.size + 1 = B1 at *
  generalize hBd : w.heap.size = B at *
  go_loopg [6] K (fun g tv wr => ∃ t : Nat, t ≤ K ∧ g = K - t ∧ tv = .int .i64 (t : Nat) ∧ CS w B B1 B2 n K bops bseqs bsess bplace bsi (fun _ => 0) (fun q => if q < t then -1 else 0) wr)
  case atStart => exact ⟨0, Nat.zero_le _, rfl, rfl, hcs0.congr (fun _ _ => rfl) (fun q _ => by simp)⟩
  case round =>
    clear hcs0
    obtain ⟨t, ht, rfl, rfl, hcs⟩ := hrel
    by_cases hlt : t < K
    · have x1 := hcs.last.cell hlt
      have x2 := hcs.last.frozen t
      go_wp2
      go_roundg (K - (t + 1))
      case measure => omega
      case rel =>
        refine ⟨t + 1, by omega, rfl, by go_num, (hcs.setLast hl1 hl2 t (-1)).congr (fun _ _ => rfl) (fun q _ => ?_)⟩
        by_cases e : q = t
        · subst e; rw [upd_same]; simp
        · rw [upd_other _ _ e]
          by_cases h2 : q < t
          · rw [if_pos h2, if_pos (by omega)]
          · rw [if_neg h2, if_neg (by omega)]
    · have hcs1 : CS w B B1 B2 n K bops bseqs bsess bplace bsi (fun _ => 0) (lastT H.sess 0) wr := hcs.congr (fun _ _ => rfl) (fun q hq => by rw [if_pos (by omega)]; rfl)
      clear hcs
      go_wp2
      go_loopg [7] n (fun g tv wr => ∃ i : Nat, i ≤ n ∧ g = n - i ∧ tv = .int .i64 (i : Nat) ∧ CS w B B1 B2 n K bops bseqs bsess bplace bsi (fun j => if j < i then prevOf H.sess j else 0) (lastT H.sess i) wr)
      case atStart => exact ⟨0, Nat.zero_le _, rfl, rfl, hcs1.congr (fun j _ => by simp) (fun _ _ => rfl)⟩
      case round =>
        clear hcs1 hlt ht
        obtain ⟨i, hi, rfl, rfl, hcs⟩ := hrel
        by_cases hlt : i < n
        · have hsi := h.sessLt i hlt
          have x1 := hcs.cells.2.1
          have x2 := cell_belowB hBd hcs.bel (h.sess i hlt)
          have x3 := hcs.last.cell hsi
          have x4 := hcs.prev.cell hlt
          have x5 := hcs.prev.frozen i
          have hcs' := hcs.setPrev hl1 hl2 i (lastT H.sess i (H.sess i))
          have y1 := hcs'.cells.2.1
          have y2 := cell_belowB hBd hcs'.bel (h.sess i hlt)
          have y3 := hcs'.last.cell hsi
          have y4 := hcs'.last.frozen (H.sess i)
          go_wp2
          go_roundg (n - (i + 1))
          case measure => omega
          case rel =>
            refine ⟨i + 1, by omega, rfl, by go_num, (hcs'.setLast hl1 hl2 (H.sess i) i).congr (fun j _ => ?_) (fun _ _ => rfl)⟩
            by_cases e : j = i
            · subst e; rw [upd_same]; simp [prevOf]
            · rw [upd_other _ _ e]
              by_cases h2 : j < i
              · rw [if_pos h2, if_pos (by omega)]
              · rw [if_neg h2, if_neg (by omega)]
        · have hcs1 : CS w B B1 B2 n K bops bseqs bsess bplace bsi (prevOf H.sess) (lastT H.sess i) wr := hcs.congr (fun j hj => by rw [if_pos (by omega)]) (fun _ _ => rfl)
          clear hcs
          go_wp2
          clear mk3
          obtain ⟨hct0, hl3, hl4⟩ := hcs1.made hBd
          clear hcs1
          generalize wr.alloc (.cells (madeCells #[.int .u64 0] n) 40) = w2 at hct0 ⊢
          generalize wr.heap.size = B3 at *
          go_loopg [9] n (fun g tv wr => ∃ i : Nat, i ≤ n ∧ g = n - i ∧ tv = .int .i64 (i : Nat) ∧ CT w B B1 B3 n K bops bseqs bsess bplace bsi (prevOf H.sess) (fun j => if j < i then ownV H j else 0) wr)
          case atStart => exact ⟨0, Nat.zero_le _, rfl, rfl, hct0.congr (fun j _ => by simp)⟩
          case round =>
            clear hct0 hlt hi
            obtain ⟨i, hi, rfl, rfl, hct⟩ := hrel
            by_cases hlt : i < n
            · have x1 := hct.cells.1
              have x2 := cell_belowB hBd hct.bel (h.ops i hlt).1
              have x3 := cell_belowB hBd hct.bel (h.ops i hlt).2
              have x4 := hct.row.cell hlt
              have x5 := hct.row.frozen i
              rw [if_neg (Nat.lt_irrefl i)] at x4
              cases hput : H.put i
              · rw [hput] at x2
                rw [show kindV false = .string ⟨#[103, 101, 116]⟩ from rfl] at x2
                go_wp2
                go_roundg (n - (i + 1))
                case measure => omega
                case rel =>
                  refine ⟨i + 1, by omega, rfl, by go_num, hct.congr (fun j _ => ?_)⟩
                  by_cases e : j = i
                  · subst e; simp [ownV, hput]
                  · by_cases h2 : j < i
                    · rw [if_pos h2, if_pos (by omega)]
                    · rw [if_neg h2, if_neg (by omega)]
              · rw [hput] at x2
                rw [show kindV true = .string ⟨#[112, 117, 116]⟩ from rfl] at x2
                go_wp2
                go_roundg (n - (i + 1))
                case measure => omega
                case rel =>
                  refine ⟨i + 1, by omega, rfl, by go_num, (hct.set hl3 hl4 i (H.ver i)).congr (fun j _ => ?_)⟩
                  by_cases e : j = i
                  · subst e; rw [upd_same]; simp [ownV, hput]
                  · rw [upd_other _ _ e]
                    by_cases h2 : j < i
                    · rw [if_pos h2, if_pos (by omega)]
                    · rw [if_neg h2, if_neg (by omega)]
            · have hct1 : CT w B B1 B3 n K bops bseqs bsess bplace bsi (prevOf H.sess) (baseT H 0) wr := hct.congr (fun j hj => by rw [if_pos (by omega)]; rfl)
              clear hct
              go_wp2
              go_loopg [10] 1 (fun g pv wr => ∃ ph : Nat, ph ≤ 1 ∧ g = 1 - ph ∧ pv = .int .i64 (ph : Nat) ∧ CT w B B1 B3 n K bops bseqs bsess bplace bsi (prevOf H.sess) (baseT H ph) wr)
              case atStart => exact ⟨0, by omega, rfl, rfl, hct1⟩
              case round =>
                clear hct1 hlt hi
                obtain ⟨ph, hph, rfl, rfl, hct⟩ := hrel
                go_wp2
                rw [decide_eq_true (show (ph : Int) ≤ (n : Int) + 1 by omega)]
                go_loopg [11, 12] n (fun g cv tv wr => ∃ (i : Nat) (c : Bool), i ≤ n ∧ g = n - i ∧ cv = .bool c ∧ tv = .int .i64 (i : Nat) ∧ (c = true → ph = 0) ∧ CT w B B1 B3 n K bops bseqs bsess bplace bsi (prevOf H.sess) (tabT H ph i) wr)
                case atStart => exact ⟨0, false, Nat.zero_le _, rfl, rfl, rfl, (fun h => by cases h), hct.congr (fun j _ => (if_neg (Nat.not_lt_zero j)).symm)⟩
                case round =>
                  clear hct
                  obtain ⟨i, c, hi, rfl, rfl, rfl, hc, hct⟩ := hrel
                  by_cases hlt : i < n
                  · have hsw := swp_tab hB (fun i => (hver i).1) hP (ph := ph) (show i < H.n by rw [hHn]; exact hlt)
                    have htl : ∀ j, j < i → tabT H ph i j = Mx H j := fun j hj => if_pos hj
                    have hti : tabT H ph i i = baseT H ph i := if_neg (Nat.lt_irrefl i)
                    unfold swp at hsw
                    have HSW : Hid _ := hsw
                    have HTL : Hid _ := htl
                    have HTI : Hid _ := hti
                    clear hsw htl hti
                    have x1 := hct.row.cell hlt
                    have x2 := hct.prev.cell hlt
                    have hpl := lastT_lt H.sess i (H.sess i)
                    generalize hpd : prevOf H.sess i = pi at *
                    have hpl' : -1 ≤ pi ∧ pi < i := by rw [← hpd]; exact hpl
                    clear hpl
                    generalize hmd : tabT H ph i = mt at *
                    go_upto_region 27 with (fail)
                    go_cut [111] (fun t wc => t = .bool (decide (0 ≤ pi ∧ mt i < mt pi.toNat)) ∧ wc = wr)
                    case first =>
                      by_cases hge : 0 ≤ pi
                      · obtain ⟨P, rfl⟩ : ∃ P : Nat, pi = (P : Int) := ⟨pi.toNat, by omega⟩
                        have hPn : P < n := by omega
                        have hPI : (P : Int) < n := by omega
                        have x3 := hct.row.cell hPn
                        go_wp2
                        go_meet
                        case rel => exact ⟨by simp, rfl⟩
                      · go_wp2
                        go_meet
                        case rel => exact ⟨congrArg Value.bool (decide_eq_false (fun h => by have := h.1; omega)).symm, rfl⟩
                    case rest =>
                      obtain ⟨rfl, hwc⟩ := hcut
                      have hwe := hwc.symm
                      clear hwc
                      subst hwe
                      go_upto_if 111 with (fail)
                      go_cut [13] (fun v wc => v = .int .u64 (start1 (prevOf H.sess) mt i) ∧ wc = wr)
                      case first =>
                        by_cases hcmp : 0 ≤ pi ∧ mt i < mt pi.toNat
                        · obtain ⟨hge, hlt2⟩ := hcmp
                          obtain ⟨P, rfl⟩ : ∃ P : Nat, pi = (P : Int) := ⟨pi.toNat, by omega⟩
                          have hPn : P < n := by omega
                          have hPI : (P : Int) < n := by omega
                          have x3 := hct.row.cell hPn
                          rw [Int.toNat_natCast] at hlt2 ⊢
                          have hs1 : start1 (prevOf H.sess) mt i = mt P := by
                            unfold start1
                            rw [hpd, if_pos (by omega), Int.toNat_natCast]; omega
                          rw [decide_eq_true (show 0 ≤ (P : Int) ∧ mt i < mt P from ⟨hge, hlt2⟩)]
                          go_wp2
                          go_meet
                          case rel => exact ⟨by rw [hs1], rfl⟩
                        · have hs1 : start1 (prevOf H.sess) mt i = mt i := by
                            unfold start1
                            rw [hpd]
                            split
                            · omega
                            · rfl
                          rw [decide_eq_false hcmp]
                          go_wp2
                          go_meet
                          case rel => exact ⟨by rw [hs1], rfl⟩
                      case rest =>
                        obtain ⟨rfl, hwc⟩ := hcut
                        have hwe := hwc.symm
                        clear hwc
                        subst hwe
                        clear x2
                        obtain ⟨A, C, z1', hsl⟩ := h.src i hlt
                        have hl20 := h.srcLen i hlt
                        have hsl2 := h.srcLt i hlt
                        obtain ⟨l, hld⟩ : ∃ l, l = H.src i := ⟨_, rfl⟩
                        rw [← hld] at z1' hsl hl20 hsl2 HSW
                        have HLD : Hid _ := hld
                        obtain ⟨len, hlen⟩ : ∃ len, len = l.length := ⟨_, rfl⟩
                        rw [← hlen] at z1' hsl hl20 hsl2
                        have HLEN : Hid _ := hlen
                        clear hlen hld
                        obtain ⟨a', c', e', hcl⟩ := hsl
                        cases e'
                        go_wp2
                        go_loopg [13, 14] len (fun g vv tv wr' => ∃ t : Nat, t ≤ len ∧ g = len - t ∧ vv = .int .u64 (foldM mt (start1 (prevOf H.sess) mt i) (l.take t)) ∧ tv = .int .i64 (t : Nat) ∧ wr' = wr)
                        case atStart => exact ⟨0, Nat.zero_le _, rfl, rfl, rfl, rfl⟩
                        case round =>
                          obtain ⟨t, ht, rfl, rfl, rfl, hwc⟩ := hrel
                          subst hwc
                          have z0 := hct.cells.2
                          have z1 := cell_belowB hBd hct.bel z1'
                          by_cases hlt2 : t < len
                          · obtain ⟨b1, o1, rfl, y1⟩ := hcl (by omega)
                            have z2 := cell_belowB hBd hct.bel (y1 t hlt2)
                            have hpi := hsl2 t hlt2
                            have htk := take_succ_getD (l := l) (t := t) (by rw [← HLEN.out]; exact hlt2)
                            generalize l.getD t 0 = P at *
                            have hPn : P < n := by omega
                            have hPI : (P : Int) < n := by omega
                            have z3 := hct.row.cell hPn
                            have hfs := foldM_snoc mt (start1 (prevOf H.sess) mt i) (l.take t) P
                            rw [← htk] at hfs
                            have HFS : Hid _ := hfs
                            clear hfs htk
                            generalize foldM mt (start1 (prevOf H.sess) mt i) (l.take t) = V at *
                            by_cases hcmp : V < mt P
                            · go_wp2
                              go_roundg (len - (t + 1))
                              case measure => omega
                              case rel => exact ⟨t + 1, by omega, rfl, by rw [HFS.out]; exact congrArg (Value.int .u64) (by omega), by go_num, rfl⟩
                            · go_wp2
                              go_roundg (len - (t + 1))
                              case measure => omega
                              case rel => exact ⟨t + 1, by omega, rfl, by rw [HFS.out]; exact congrArg (Value.int .u64) (by omega), by go_num, rfl⟩
                          · have hfin : foldM mt (start1 (prevOf H.sess) mt i) (l.take t) = Mx H i := by
                              rw [List.take_of_length_le (by rw [← HLEN.out]; omega)]; exact HSW.out
                            rw [hfin]
                            have x5 := hct.row.frozen i
                            have hmi := HTI.out
                            clear hfin
                            have hnxt : Mx H i = mt i → CT w B B1 B3 n K bops bseqs bsess bplace bsi (prevOf H.sess) (tabT H ph (i + 1)) wr := fun e => hct.congr (fun j _ => by
                              rw [← hmd] at e ⊢
                              unfold tabT at e ⊢
                              rw [if_neg (Nat.lt_irrefl i)] at e
                              by_cases e1 : j = i
                              · subst e1; rw [if_neg (Nat.lt_irrefl j), if_pos (by omega), e]
                              · by_cases e2 : j < i
                                · rw [if_pos e2, if_pos (by omega)]
                                · rw [if_neg e2, if_neg (by omega)])
                            have hnxt2 : CT w B B1 B3 n K bops bseqs bsess bplace bsi (prevOf H.sess) (tabT H ph (i + 1)) (wr.setCell ⟨B3, i, none⟩ (.int .u64 (Mx H i))) := (hct.set hl3 hl4 i (Mx H i)).congr (fun j _ => by
                              rw [← hmd]
                              by_cases e1 : j = i
                              · subst e1; rw [upd_same]; exact (if_pos (by omega)).symm
                              · rw [upd_other _ _ e1]
                                unfold tabT
                                by_cases e2 : j < i
                                · rw [if_pos e2, if_pos (by omega)]
                                · rw [if_neg e2, if_neg (by omega)])
                            have hph0 : Mx H i ≠ mt i → ph = 0 := fun hne => by
                              by_cases e : ph = 0
                              · exact e
                              · refine absurd ?_ hne
                                rw [hmi]; exact (if_neg e).symm
                            clear hmi HSW HTL HTI HLD HLEN hsl2 hcl
                            by_cases heq : Mx H i = mt i
                            · have hn1 := hnxt heq
                              rw [← heq] at x1
                              go_wp2
                              go_roundg (n - (i + 1))
                              case measure => omega
                              case rel => exact ⟨i + 1, c, by omega, rfl, rfl, by go_num, hc, hn1⟩
                            · have hp0 := hph0 heq
                              generalize mt i = Y at *
                              generalize Mx H i = X at *
                              go_wp2
                              go_roundg (n - (i + 1))
                              case measure => omega
                              case rel => exact ⟨i + 1, true, by omega, rfl, rfl, by go_num, fun _ => hp0, hnxt2⟩
                  · have hct1 : CT w B B1 B3 n K bops bseqs bsess bplace bsi (prevOf H.sess) (Mx H) wr := hct.congr (fun j hj => if_pos (by omega))
                    cases c
                    · go_wp2
                      exact HR.out _ _ hct1.row hct1.bel
                    · have hp0 := hc rfl
                      go_wp2
                      go_roundg (1 - (ph + 1))
                      case measure => omega
                      case rel => exact ⟨1, by omega, by omega, rfl, hct1⟩
end Go.Proofs.Qxb6001561a
