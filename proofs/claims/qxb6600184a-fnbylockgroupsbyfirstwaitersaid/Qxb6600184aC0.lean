import Derived.Test.Qxb6600184aM0
import Derived.Deep.RegionHeld3
import Derived.Deep.DrawnRows
import Derived.Deep.RegionLawGrows
import Derived.BigRegion
import Derived.Maps.AppendAt
namespace Go.Proofs.Qxb6600184a
set_option linter.unusedVariables false
set_option linter.unusedSimpArgs false
open Go.RowKit

/-- the lockSplit -/
def lobj (s : Int) (bm : Nat) (v2 v3 v4 v5 v6 v7 v8 v9 v10 : Value) : Obj := .cells #[.int .i64 s, .map (some bm), v2, v3, v4, v5, v6, v7, v8, v9, v10] 54
structure LS (w0 : World) (bl bm : Nat) (D : List ByteArray) (s : Int) (v2 v3 v4 v5 v6 v7 v8 v9 v10 : Value) (w : World) : Prop where
  obj : w.heap[bl]? = some (lobj s bm v2 v3 v4 v5 v6 v7 v8 v9 v10)
  map : MapS w bm (mvD D)
  fr : Fr (fun x => x = bl ∨ x = bm) w0 w
  old : bl < w0.heap.size ∧ bm < w0.heap.size ∧ bl ≠ bm
section
variable {w0 w w' : World} {bl bm : Nat} {D : List ByteArray} {s : Int} {v2 v3 v4 v5 v6 v7 v8 v9 v10 : Value}
theorem LS.step {S : Nat → Prop} (h : LS w0 bl bm D s v2 v3 v4 v5 v6 v7 v8 v9 v10 w) (k : Fr S w w') (hS : ∀ x, S x → w0.heap.size ≤ x) : LS w0 bl bm D s v2 v3 v4 v5 v6 v7 v8 v9 v10 w' :=
  ⟨(k.block bl (Array.getElem?_eq_some_iff.1 h.obj).1 (fun e => by have := hS _ e; have := h.old.1; omega)).trans h.obj, h.map.fr k (fun e => by have := hS _ e; have := h.old.2.1; omega), h.fr.step k (fun x hx => .inr (hS x hx)), h.old⟩
theorem LS.alloc (h : LS w0 bl bm D s v2 v3 v4 v5 v6 v7 v8 v9 v10 w) (o : Obj) : LS w0 bl bm D s v2 v3 v4 v5 v6 v7 v8 v9 v10 (w.alloc o) := h.step (Fr.alloc w o) (fun x hx => hx.elim)
theorem LS.drewN (h : LS w0 bl bm D s v2 v3 v4 v5 v6 v7 v8 v9 v10 w) (n : Nat) : LS w0 bl bm D s v2 v3 v4 v5 v6 v7 v8 v9 v10 (w.drewN n) := h.step (S := fun _ => False) ((Fr.refl _ w).drewN n) (fun x hx => hx.elim)
theorem LS.drew (h : LS w0 bl bm D s v2 v3 v4 v5 v6 v7 v8 v9 v10 w) : LS w0 bl bm D s v2 v3 v4 v5 v6 v7 v8 v9 v10 w.drew := h.step (S := fun _ => False) ((Fr.refl _ w).drew) (fun x hx => hx.elim)
theorem LS.grown {r : Option Nat} (h : LS w0 bl bm D s v2 v3 v4 v5 v6 v7 v8 v9 v10 w) (k : w.grownBy w' r) (hr : ∀ x, r = some x → w0.heap.size ≤ x) : LS w0 bl bm D s v2 v3 v4 v5 v6 v7 v8 v9 v10 w' :=
  h.step (Fr.of_grown k) (fun x hx => hr x hx.symm)
/-- a store into the object -/
theorem LS.setObj (h : LS w0 bl bm D s v2 v3 v4 v5 v6 v7 v8 v9 v10 w) (i : Nat) (v : Value) {s' : Int} {u2 u3 u4 u5 u6 u7 u8 u9 u10 : Value}
    (e : (#[Value.int .i64 s, .map (some bm), v2, v3, v4, v5, v6, v7, v8, v9, v10] : Array Value).setIfInBounds i v = #[Value.int .i64 s', .map (some bm), u2, u3, u4, u5, u6, u7, u8, u9, u10]) :
    LS w0 bl bm D s' u2 u3 u4 u5 u6 u7 u8 u9 u10 (w.setCell ⟨bl, i, none⟩ v) :=
  ⟨by rw [heap_setCell_same w bl i _ 54 v h.obj, e]; rfl, h.map.fr (Fr.setCell w ⟨bl, i, none⟩ v) (fun e => h.old.2.2 e.symm), h.fr.trans ((Fr.setCell w ⟨bl, i, none⟩ v).mono (fun x hx => .inl hx)), h.old⟩
theorem LS.set0 (h : LS w0 bl bm D s v2 v3 v4 v5 v6 v7 v8 v9 v10 w) (s' : Int) : LS w0 bl bm D s' v2 v3 v4 v5 v6 v7 v8 v9 v10 (w.setCell ⟨bl, 0, none⟩ (.int .i64 s')) := h.setObj 0 _ rfl
theorem LS.set2 (h : LS w0 bl bm D s v2 v3 v4 v5 v6 v7 v8 v9 v10 w) (v : Value) : LS w0 bl bm D s v v3 v4 v5 v6 v7 v8 v9 v10 (w.setCell ⟨bl, 2, none⟩ v) := h.setObj 2 _ rfl
theorem LS.set3 (h : LS w0 bl bm D s v2 v3 v4 v5 v6 v7 v8 v9 v10 w) (v : Value) : LS w0 bl bm D s v2 v v4 v5 v6 v7 v8 v9 v10 (w.setCell ⟨bl, 3, none⟩ v) := h.setObj 3 _ rfl
theorem LS.set4 (h : LS w0 bl bm D s v2 v3 v4 v5 v6 v7 v8 v9 v10 w) (v : Value) : LS w0 bl bm D s v2 v3 v v5 v6 v7 v8 v9 v10 (w.setCell ⟨bl, 4, none⟩ v) := h.setObj 4 _ rfl
theorem LS.set5 (h : LS w0 bl bm D s v2 v3 v4 v5 v6 v7 v8 v9 v10 w) (v : Value) : LS w0 bl bm D s v2 v3 v4 v v6 v7 v8 v9 v10 (w.setCell ⟨bl, 5, none⟩ v) := h.setObj 5 _ rfl
theorem LS.set6 (h : LS w0 bl bm D s v2 v3 v4 v5 v6 v7 v8 v9 v10 w) (v : Value) : LS w0 bl bm D s v2 v3 v4 v5 v v7 v8 v9 v10 (w.setCell ⟨bl, 6, none⟩ v) := h.setObj 6 _ rfl
theorem LS.set7 (h : LS w0 bl bm D s v2 v3 v4 v5 v6 v7 v8 v9 v10 w) (v : Value) : LS w0 bl bm D s v2 v3 v4 v5 v6 v v8 v9 v10 (w.setCell ⟨bl, 7, none⟩ v) := h.setObj 7 _ rfl
theorem LS.set8 (h : LS w0 bl bm D s v2 v3 v4 v5 v6 v7 v8 v9 v10 w) (v : Value) : LS w0 bl bm D s v2 v3 v4 v5 v6 v7 v v9 v10 (w.setCell ⟨bl, 8, none⟩ v) := h.setObj 8 _ rfl
theorem LS.set9 (h : LS w0 bl bm D s v2 v3 v4 v5 v6 v7 v8 v9 v10 w) (v : Value) : LS w0 bl bm D s v2 v3 v4 v5 v6 v7 v8 v v10 (w.setCell ⟨bl, 9, none⟩ v) := h.setObj 9 _ rfl
theorem LS.set10 (h : LS w0 bl bm D s v2 v3 v4 v5 v6 v7 v8 v9 v10 w) (v : Value) : LS w0 bl bm D s v2 v3 v4 v5 v6 v7 v8 v9 v (w.setCell ⟨bl, 10, none⟩ v) := h.setObj 10 _ rfl
theorem LS.cell (h : LS w0 bl bm D s v2 v3 v4 v5 v6 v7 v8 v9 v10 w) (i : Nat) : w.cell? ⟨bl, i, none⟩ = (#[Value.int .i64 s, .map (some bm), v2, v3, v4, v5, v6, v7, v8, v9, v10] : Array Value)[i]? := cell_of_row w bl i _ _ _ h.obj
theorem LS.c0 (h : LS w0 bl bm D s v2 v3 v4 v5 v6 v7 v8 v9 v10 w) : w.cell? ⟨bl, 0, none⟩ = some (.int .i64 s) := h.cell 0
theorem LS.c1 (h : LS w0 bl bm D s v2 v3 v4 v5 v6 v7 v8 v9 v10 w) : w.cell? ⟨bl, 1, none⟩ = some (.map (some bm)) := h.cell 1
theorem LS.c2 (h : LS w0 bl bm D s v2 v3 v4 v5 v6 v7 v8 v9 v10 w) : w.cell? ⟨bl, 2, none⟩ = some v2 := h.cell 2
theorem LS.c3 (h : LS w0 bl bm D s v2 v3 v4 v5 v6 v7 v8 v9 v10 w) : w.cell? ⟨bl, 3, none⟩ = some v3 := h.cell 3
theorem LS.c4 (h : LS w0 bl bm D s v2 v3 v4 v5 v6 v7 v8 v9 v10 w) : w.cell? ⟨bl, 4, none⟩ = some v4 := h.cell 4
theorem LS.c5 (h : LS w0 bl bm D s v2 v3 v4 v5 v6 v7 v8 v9 v10 w) : w.cell? ⟨bl, 5, none⟩ = some v5 := h.cell 5
theorem LS.c6 (h : LS w0 bl bm D s v2 v3 v4 v5 v6 v7 v8 v9 v10 w) : w.cell? ⟨bl, 6, none⟩ = some v6 := h.cell 6
theorem LS.c7 (h : LS w0 bl bm D s v2 v3 v4 v5 v6 v7 v8 v9 v10 w) : w.cell? ⟨bl, 7, none⟩ = some v7 := h.cell 7
theorem LS.c8 (h : LS w0 bl bm D s v2 v3 v4 v5 v6 v7 v8 v9 v10 w) : w.cell? ⟨bl, 8, none⟩ = some v8 := h.cell 8
theorem LS.c9 (h : LS w0 bl bm D s v2 v3 v4 v5 v6 v7 v8 v9 v10 w) : w.cell? ⟨bl, 9, none⟩ = some v9 := h.cell 9
theorem LS.c10 (h : LS w0 bl bm D s v2 v3 v4 v5 v6 v7 v8 v9 v10 w) : w.cell? ⟨bl, 10, none⟩ = some v10 := h.cell 10
theorem LS.fz (h : LS w0 bl bm D s v2 v3 v4 v5 v6 v7 v8 v9 v10 w) (i : Nat) : w.frozen? ⟨bl, i, none⟩ = false := frozen_of_row w bl i _ _ h.obj
theorem LS.lt (h : LS w0 bl bm D s v2 v3 v4 v5 v6 v7 v8 v9 v10 w) : bl < w.heap.size := (Array.getElem?_eq_some_iff.1 h.obj).1
theorem LS.rebase (h : LS w0 bl bm D s v2 v3 v4 v5 v6 v7 v8 v9 v10 w) : LS w bl bm D s v2 v3 v4 v5 v6 v7 v8 v9 v10 w := ⟨h.obj, h.map, Fr.refl _ _, h.lt, h.map.lt, h.old.2.2⟩
theorem LS.insert (h : LS w0 bl bm D s v2 v3 v4 v5 v6 v7 v8 v9 v10 w) {x : ByteArray} (hs : x.size ≤ maxLen) (hn : x ∉ D) :
    ∃ w', (∀ n, (Instr.mapUpdate 48 (.map (some bm)) (.string x) (.agg #[.int .i64 1, .int .i64 (D.length : Nat)])).run Try.prog (w.drewN n) = .ok () (w'.drewN n)) ∧ LS w0 bl bm (D ++ [x]) s v2 v3 v4 v5 v6 v7 v8 v9 v10 w' ∧ Fr (· = bm) w w' := by
  obtain ⟨w', h1, h2, h3⟩ := h.map.insert hs (mvD_not hn) (.agg #[.int .i64 1, .int .i64 (D.length : Nat)])
  rw [mvD_snoc hn] at h2
  exact ⟨w', h1, ⟨(h3.block bl h.lt (fun e => h.old.2.2 e)).trans h.obj, h2, h.fr.trans (h3.mono (fun x hx => .inr hx)), h.old⟩, h3⟩
end

/-- ints as cells -/
def ints (f : Nat → Int) (n : Nat) : List Value := (List.range n).map (fun j => Value.int .i64 (f j))
theorem ints_succ (f : Nat → Int) (n : Nat) : ints f n ++ [.int .i64 (f n)] = ints f (n + 1) := by simp [ints, List.range_succ]
theorem ints_len (f : Nat → Int) (n : Nat) : (ints f n).length = n := by simp [ints]
theorem ints_get (f : Nat → Int) {n j : Nat} (h : j < n) : (ints f n)[j]? = some (.int .i64 (f j)) := by simp [ints, h]
theorem ownsRow_cell {w : World} {base : Nat} {v : Value} {f : Nat → Int} {n : Nat} (h : w.ownsRow base 3 1 v n (ints f n)) : SlAt w v n (fun j => .int .i64 (f j)) := by
  rcases h.2 with ⟨rfl, rfl⟩ | ⟨g, cap, cur, rfl, hb, hg, hn, _, hcs, ht⟩
  · exact SlAt.nil _ _
  · refine ⟨_, _, rfl, fun _ => ⟨g, 0, rfl, fun j hj => ?_⟩⟩
    rw [Nat.zero_add, h.cellAt j (by omega), ints_get f hj]
theorem Fr.ownsRow {S : Nat → Prop} {w w' : World} {base : Nat} {e : TypeId} {size : Nat} {v : Value} {n : Nat} {xs : List Value} (h : Fr S w w') (hown : w.ownsRow base e size v n xs) (hne : ∀ g, v.ownBlock = some g → ¬ S g) : w'.ownsRow base e size v n xs := by
  obtain ⟨h1, h2⟩ := hown
  refine ⟨h1, ?_⟩
  rcases h2 with h2 | ⟨g, cap, cur, rfl, hb, hg, r⟩
  · exact .inl h2
  · exact .inr ⟨g, cap, cur, rfl, hb, (h.block g (Array.getElem?_eq_some_iff.1 hg).1 (hne g rfl)).trans hg, r⟩
theorem ownsRow_own {w : World} {base : Nat} {e : TypeId} {size : Nat} {v : Value} {n : Nat} {xs : List Value} (h : w.ownsRow base e size v n xs) : ∀ g, v.ownBlock = some g → base ≤ g ∧ g < w.heap.size := by
  intro g hg
  rcases h.2 with ⟨rfl, _⟩ | ⟨g', cap, cur, rfl, hb, hg', _⟩
  · cases hg
  · have : g' = g := by simpa [Value.ownBlock] using hg
    subst this
    exact ⟨hb, (Array.getElem?_eq_some_iff.1 hg').1⟩
theorem ownsRow_setBl {w : World} {base : Nat} {e : TypeId} {size : Nat} {v : Value} {n : Nat} {xs : List Value} (h : w.ownsRow base e size v n xs) {bl : Nat} (hb : bl < base) (i : Nat) (u : Value) : (w.setCell ⟨bl, i, none⟩ u).ownsRow base e size v n xs :=
  (Fr.setCell w ⟨bl, i, none⟩ u).ownsRow h (fun x hx e => by
    have h1 := (ownsRow_own h x hx).1
    have e' : x = bl := e
    omega)
end Go.Proofs.Qxb6600184a
