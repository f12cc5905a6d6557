/-
  PLAIN LEMMAS on memory: a block that is known whole and is filled cell by cell, all else as it was. No condition; no program in sight.
-/
import Derived.WalkKit
import Derived.Laws.Rows
import Derived.Laws.CopyOwn
import Derived.Deep.Draws
import Derived.WalkSmall
namespace Go.Proofs.Ytjmggahedcbjkaa
open Go.RowKit

/-- Block g holds the cells cs, none frozen. -/
def Row (w : World) (g : Nat) (cs : Array Value) (t : TypeId) : Prop := w.heap[g]? = some (.cells cs t (0, 0))

theorem Row.cell {w : World} {g : Nat} {cs : Array Value} {t : TypeId} (h : Row w g cs t) (j : Nat) : w.cell? ⟨g, j, none⟩ = cs[j]? := cell_of_row w g j cs t (0, 0) h
theorem Row.free {w : World} {g : Nat} {cs : Array Value} {t : TypeId} (h : Row w g cs t) (j : Nat) : w.frozen? ⟨g, j, none⟩ = false := frozen_of_row w g j cs t h
theorem Row.lt {w : World} {g : Nat} {cs : Array Value} {t : TypeId} (h : Row w g cs t) : g < w.heap.size := (Array.getElem?_eq_some_iff.1 h).1
theorem Row.of_alloc (w : World) (cs : Array Value) (t : TypeId) : Row (w.alloc (.cells cs t)) w.heap.size cs t := heap_alloc_new w _

/-- From w to w' nothing has turned but the cells of block g, and the count of draws. -/
structure Only (g : Nat) (w w' : World) : Prop where
  os : w'.os = w.os
  tape : w'.tape = w.tape
  output : w'.output = w.output
  size : w'.heap.size = w.heap.size
  block : ∀ k, k ≠ g → w'.heap[k]? = w.heap[k]?

theorem Only.refl (g : Nat) (w : World) : Only g w w := ⟨rfl, rfl, rfl, rfl, fun _ _ => rfl⟩
theorem Only.trans {g : Nat} {a b c : World} (h : Only g a b) (k : Only g b c) : Only g a c :=
  ⟨k.os.trans h.os, k.tape.trans h.tape, k.output.trans h.output, k.size.trans h.size, fun i hi => (k.block i hi).trans (h.block i hi)⟩
theorem Only.setCell (g o : Nat) (s : Option Nat) (w : World) (v : Value) : Only g w (w.setCell ⟨g, o, s⟩ v) :=
  ⟨rfl, rfl, rfl, by simp [World.setCell], fun k hk => Below.heap_setCell _ _ _ _ hk⟩
theorem Only.drewN (g : Nat) (w : World) (n : Nat) : Only g w (w.drewN n) := ⟨rfl, rfl, rfl, rfl, fun _ _ => rfl⟩
theorem Only.drew (g : Nat) (w : World) : Only g w w.drew := ⟨rfl, rfl, rfl, rfl, fun _ _ => rfl⟩
theorem Only.cell {g : Nat} {w w' : World} (h : Only g w w') (b o : Nat) (hb : b ≠ g) : w'.cell? ⟨b, o, none⟩ = w.cell? ⟨b, o, none⟩ := World.cell?_of_block (w := w) (h.block b hb)
theorem Only.frozen {g : Nat} {w w' : World} (h : Only g w w') (b o : Nat) (hb : b ≠ g) : w'.frozen? ⟨b, o, none⟩ = w.frozen? ⟨b, o, none⟩ := World.frozen?_of_block (w := w) (h.block b hb)
theorem Only.row {g : Nat} {w w' : World} (h : Only g w w') {b : Nat} {cs : Array Value} {t : TypeId} (hb : b ≠ g) (hr : Row w b cs t) : Row w' b cs t := (h.block b hb).trans hr
theorem Only.below {g B : Nat} {w w' : World} (h : Only g w w') (hB : B ≤ g) : Below B w w' :=
  ⟨h.os, h.tape, h.output, Nat.le_of_eq h.size.symm, fun k hk => h.block k (by omega)⟩

/-- From w0 (where block g holds cs0) to w: the places o .. o + n - 1 of block g hold F 0, F 1, ..; its other places and all else are as they were. -/
def Filled (w0 : World) (g : Nat) (cs0 : Array Value) (t : TypeId) (o : Nat) (F : Nat → Value) (n : Nat) (w : World) : Prop :=
  ∃ cs, Row w g cs t ∧ Only g w0 w ∧ cs.size = cs0.size ∧ (∀ i, i < n → cs[o + i]? = some (F i)) ∧ (∀ i, i < o ∨ o + n ≤ i → cs[i]? = cs0[i]?)

theorem Filled.zero {w0 : World} {g : Nat} {cs0 : Array Value} {t : TypeId} (h : Row w0 g cs0 t) (o : Nat) (F : Nat → Value) : Filled w0 g cs0 t o F 0 w0 :=
  ⟨cs0, h, Only.refl _ _, rfl, fun _ hi => absurd hi (Nat.not_lt_zero _), fun _ _ => rfl⟩

section
variable {w0 w : World} {g : Nat} {cs0 : Array Value} {t : TypeId} {o : Nat} {F : Nat → Value} {n : Nat}

/-- The next place: it holds what it held. -/
theorem Filled.next (h : Filled w0 g cs0 t o F n w) (j : Nat) (hj : n ≤ j) (hs : o + j < cs0.size) : ∃ v, w.cell? ⟨g, o + j, none⟩ = some v := by
  obtain ⟨cs, hr, _, _, _, he⟩ := h
  exact ⟨cs0[o + j], by rw [hr.cell, he (o + j) (Or.inr (by omega))]; simp [hs]⟩
theorem Filled.free (h : Filled w0 g cs0 t o F n w) (j : Nat) : w.frozen? ⟨g, j, none⟩ = false := by
  obtain ⟨cs, hr, _⟩ := h
  exact hr.free j
theorem Filled.only (h : Filled w0 g cs0 t o F n w) : Only g w0 w := by
  obtain ⟨cs, _, ho, _⟩ := h
  exact ho
theorem Filled.drewN (h : Filled w0 g cs0 t o F n w) (q : Nat) : Filled w0 g cs0 t o F n (w.drewN q) := by
  obtain ⟨cs, hr, ho, r⟩ := h
  exact ⟨cs, hr, ho.trans (Only.drewN _ _ _), r⟩
theorem Filled.drew (h : Filled w0 g cs0 t o F n w) : Filled w0 g cs0 t o F n w.drew := h.drewN 1

/-- One store more. -/
theorem Filled.store (h : Filled w0 g cs0 t o F n w) (hs : o + n < cs0.size) {v : Value} (hv : v = F n) : Filled w0 g cs0 t o F (n + 1) (w.setCell ⟨g, o + n, none⟩ v) := by
  subst hv
  obtain ⟨cs, hr, ho, hz, hi, he⟩ := h
  refine ⟨cs.setIfInBounds (o + n) (F n), heap_setCell_same w g (o + n) cs t (F n) hr, ho.trans (Only.setCell _ _ _ _ _), by simp [hz], fun i hin => ?_, fun i hio => ?_⟩
  · rw [Array.getElem?_setIfInBounds]
    by_cases e : n = i
    · subst e
      rw [if_pos rfl, if_pos (by omega)]
    · rw [if_neg (by omega)]
      exact hi i (by omega)
  · rw [Array.getElem?_setIfInBounds, if_neg (by omega)]
    exact he i (by omega)

/-- What is filled, and what stood beside it. -/
theorem Filled.row (h : Filled w0 g cs0 t o F n w) : ∃ cs, Row w g cs t ∧ cs.size = cs0.size ∧ (∀ i, i < n → cs[o + i]? = some (F i)) ∧ (∀ i, i < o ∨ o + n ≤ i → cs[i]? = cs0[i]?) := by
  obtain ⟨cs, hr, _, r⟩ := h
  exact ⟨cs, hr, r⟩

theorem Filled.cell (h : Filled w0 g cs0 t o F n w) (i : Nat) (hi : i < n) : w.cell? ⟨g, o + i, none⟩ = some (F i) := by
  obtain ⟨cs, hr, _, _, hv, _⟩ := h
  rw [hr.cell, hv i hi]

/-- By a row written whole (a copy). -/
theorem Filled.of_splice (hb : Only g w0 w) (cs : List Value) (hr : w.heap[g]? = some (.cells (splice cs0.toList o cs).toArray t (0, 0))) (hfit : o + cs.length ≤ cs0.size)
    (hn : cs.length = n) (hF : ∀ i, i < n → cs[i]? = some (F i)) : Filled w0 g cs0 t o F n w := by
  subst hn
  refine ⟨_, hr, hb, ?_, fun i hi => ?_, fun i hi => ?_⟩
  · rw [List.size_toArray, length_splice _ _ _ (by simpa using hfit)]; simp
  · rw [List.getElem?_toArray, splice, List.getElem?_append_right (by simp; omega)]
    have : o + i - (List.take o cs0.toList).length = i := by simp; omega
    rw [this, List.getElem?_append_left hi, hF i hi]
  · rw [List.getElem?_toArray, splice]
    rcases hi with hi | hi
    · rw [List.getElem?_append_left (by simp; omega), List.getElem?_take, if_pos hi]; simp
    · rw [List.getElem?_append_right (by simp; omega), List.getElem?_append_right (by simp; omega), List.getElem?_drop]
      have : o + cs.length + (i - (List.take o cs0.toList).length - cs.length) = i := by simp; omega
      rw [this]; simp
end

/-- THE COPY OF n CELLS into a row that is known whole. -/
theorem wpList_copy_only {P : Program} {w : World} {ops : Array Oper} {rest : List Oper} {o : Oper} {a : Act} {Q : Exit → Act → World → Prop} (hgd : o.guard = none) (d s : Operand) (dT sT : TypeId)
    (ho : o.op = .call { callee := .builtin .copy, args := #[d, s], argTypes := #[dT, sT] }) (elem : TypeId) (hu : P.underlying dT = some (.slice elem)) (hsz : (P.info? elem).map (·.size) = some 1)
    (g off dLen dCap b off2 sLen sCap : Nat) (hd : a.eval d = .slice (some ⟨g, off, none⟩) dLen dCap) (hs : a.eval s = .slice (some ⟨b, off2, none⟩) sLen sCap)
    (cur : Array Value) (t : TypeId) (hg : Row w g cur t) (n : Nat) (F : Nat → Value) (hn : n = Nat.min sLen dLen) (hF : ∀ j, (F j).oneCell' = true)
    (hsrc : ∀ j, j < n → w.cell? ⟨b, off2 + j, none⟩ = some (F j)) (hfit : off + n ≤ cur.size)
    (h : ∀ w', Filled w g cur t off F n w' → wpList P ops Q rest (a.put o.dst (goInt n)) w') : wpList P ops Q (o :: rest) a w := by
  have hlen : ((List.range n).map F).length = n := by simp
  refine wpList_copy_own hgd d s dT sT ho elem hu hsz g off dLen dCap ⟨b, off2, none⟩ sLen sCap hd hs cur t hg ((List.range n).map F) (hlen.trans hn) ?_ (by rw [hlen]; exact hfit) ?_ ?_
  · intro j v hj
    have hjn : j < n := by
      have := (List.getElem?_eq_some_iff.1 hj).1
      rwa [hlen] at this
    have e : v = F j := by
      have : ((List.range n).map F)[j]? = some (F j) := by simp [hjn]
      exact Option.some.inj (hj.symm.trans this)
    rw [e, ← hsrc j hjn]
    unfold Addr.add
    split <;> simp_all
  · intro v hv
    obtain ⟨j, _, rfl⟩ := List.mem_map.1 hv
    exact hF j
  · rw [hlen]
    refine h _ (Filled.of_splice ⟨rfl, rfl, rfl, by simp [World.setRow], fun k hk => setRow_other w g k _ hk⟩ ((List.range n).map F) ?_ (by rw [hlen]; exact hfit) hlen (fun i hi => by simp [hi]))
    have := setRow_heap w g cur (cur.toList.take off ++ (((List.range n).map F) ++ cur.toList.drop (off + n))).toArray t _ hg
    rw [this]
    simp [splice]

end Go.Proofs.Ytjmggahedcbjkaa
