/-
  ROWS OF MEMORY THAT THE CALL ITSELF MADE, AND BYTE SLICES THAT ARE READ: laws over any program. No function of the program in sight.
-/
import Derived.Test.Qxb6616952aModsRRRows
import Derived.WalkKit
import Derived.WalkSpells
import Derived.Laws.CopyOwn
import Derived.OpenShut
import Derived.ProofKit
namespace Go.Proofs.Qxb6616952aModsRR
open Go.RowKit
set_option linter.unusedVariables false

/-- Block g of the world is a row of cells of type e, none of them frozen, and holds xs. -/
def RowIs (w : World) (g : Nat) (e : TypeId) (xs : List Value) : Prop := w.heap[g]? = some (.cells xs.toArray e (0, 0))

theorem RowIs.lt {w : World} {g : Nat} {e : TypeId} {xs : List Value} (h : RowIs w g e xs) : g < w.heap.size := (Array.getElem?_eq_some_iff.1 h).1

theorem RowIs.cell {w : World} {g : Nat} {e : TypeId} {xs : List Value} (h : RowIs w g e xs) (j : Nat) : w.cell? ⟨g, j, none⟩ = xs[j]? := by
  rw [cell_of_row w g j _ e (0, 0) h]; simp

theorem RowIs.frozen {w : World} {g : Nat} {e : TypeId} {xs : List Value} (h : RowIs w g e xs) (j : Nat) : w.frozen? ⟨g, j, none⟩ = false := frozen_of_row w g j _ e h

theorem RowIs.set {w : World} {g : Nat} {e : TypeId} {xs : List Value} (h : RowIs w g e xs) (j : Nat) (v : Value) : RowIs (w.setCell ⟨g, j, none⟩ v) g e (xs.set j v) := by
  have := heap_setCell_same w g j _ e v h
  simpa [RowIs] using this

theorem RowIs.below {w w' : World} {g B : Nat} {e : TypeId} {xs : List Value} (h : RowIs w g e xs) (hb : Below B w w') (hg : g < B) : RowIs w' g e xs := (hb.block g hg).trans h

theorem RowIs.after {w w' : World} {g : Nat} {e : TypeId} {xs : List Value} (h : RowIs w g e xs) (hb : Below w.heap.size w w') : RowIs w' g e xs := h.below hb h.lt

/-- A slice of bytes that is read: n bytes bs, and where there are any an address at which they lie. -/
structure InRow (w : World) (a : Option Addr) (n : Nat) (bs : List Int) : Prop where
  len : bs.length = n
  lies : 0 < n → ∃ b off, a = some ⟨b, off, none⟩ ∧ b < w.heap.size ∧ ∀ j, j < n → w.cell? ⟨b, off + j, none⟩ = some (.int .u8 (bs[j]?.getD 0))
  byte : ∀ j : Nat, 0 ≤ bs[j]?.getD 0 ∧ bs[j]?.getD 0 ≤ 255

theorem InRow.after {w w' : World} {a : Option Addr} {n : Nat} {bs : List Int} (h : InRow w a n bs) (hb : Below w.heap.size w w') : InRow w' a n bs :=
  ⟨h.len, fun h0 => by
    obtain ⟨b, off, e, hlt, hc⟩ := h.lies h0
    exact ⟨b, off, e, Nat.lt_of_lt_of_le hlt hb.size, fun j hj => (hb.cell (p := ⟨b, off + j, none⟩) hlt).trans (hc j hj)⟩, h.byte⟩

theorem bytes_of {bs : List Int} (h : ∀ x ∈ bs, (Lit.int .u8 x).wf = true) (j : Nat) : 0 ≤ bs[j]?.getD 0 ∧ bs[j]?.getD 0 ≤ 255 := range_u8 h j

/-- A row of the call's own, read as a slice from its head on. -/
theorem InRow.own {w : World} {g : Nat} {e : TypeId} {bs : List Int} (h : RowIs w g e (bs.map (Value.int .u8))) (hw : ∀ j : Nat, 0 ≤ bs[j]?.getD 0 ∧ bs[j]?.getD 0 ≤ 255) :
    InRow w (some ⟨g, 0, none⟩) bs.length bs :=
  ⟨rfl, fun _ => ⟨g, 0, rfl, h.lt, fun j hj => by
    rw [Nat.zero_add, h.cell j]
    simp [hj]⟩, hw⟩

theorem InRow.nil (w : World) : InRow w none 0 [] := ⟨rfl, fun h => by omega, fun j => by simp⟩

/-- What the shell says of a slice that came in. -/
theorem InRow.came {w : World} {x : Addr} {len cap : Nat} {zs : List Int} (h1 : len ≤ cap) (h2 : zs.length = cap) (hc : ∀ i, i < zs.length → w.cell? (x.add i) = some (.int .u8 (zs.getD i 0)))
    (hw : ∀ n ∈ zs, (Lit.int .u8 n).wf = true) : InRow w (some x) len (zs.take len) := by
  refine ⟨by simp; omega, fun h0 => ?_, bytes_of fun y hy => hw y (List.mem_of_mem_take hy)⟩
  obtain ⟨b, off, spot⟩ := x
  have hspot : spot = none := by simpa [Addr.add] using World.cell?_spot (hc 0 (by omega))
  subst hspot
  refine ⟨b, off, rfl, World.block_lt_of_cell? w _ (hc 0 (by omega)), fun j hj => ?_⟩
  have := hc j (by omega)
  rw [Addr.add_lit] at this
  rw [this]
  simp [hj]

theorem InRow.wf {w : World} {a : Option Addr} {n : Nat} {bs : List Int} (h : InRow w a n bs) : ∀ x ∈ bs, 0 ≤ x ∧ x ≤ 255 := by
  intro x hx
  obtain ⟨j, hj, rfl⟩ := List.mem_iff_getElem.1 hx
  have := h.byte j
  simpa [hj] using this

/-- 'make([]T, n)', T of one cell: a new row of n zeros. -/
theorem wpList_make_is {P : Program} (w : World) {ops : Array Oper} {rest : List Oper} {o : Oper} {a : Act} {Q : Exit → Act → World → Prop}
    (hg : o.guard = none) (l c : Operand) (t : TypeId) (hop : o.op = Op.makeSlice t l c)
    (e : TypeId) (i : TypeInfo) (k : IntKind) (h1 : P.underlying t = some (.slice e)) (h2 : P.info? e = some i) (h3 : i.zero = some (.int k 0)) (h4 : i.size = 1)
    (kl kc : IntKind) (L C : Int) (n : Nat) (hl : a.eval l = .int kl L) (hc : a.eval c = .int kc C) (hL : L = (n : Int)) (hC : C = (n : Int)) (b2 : i.bytes * n ≤ 281474976710656) (b3 : n ≤ maxLen)
    (hK : ∀ w', Hid (RowIs w' w.heap.size e ((List.replicate n (0 : Int)).map (Value.int k))) → Below w.heap.size w w' → wpList P ops Q rest (a.put o.dst (.slice (some ⟨w.heap.size, 0, none⟩) n n)) w') :
    wpList P ops Q (o :: rest) a w := by
  refine wpList_plain hg fun K hK' => ?_
  subst hL
  subst hC
  have h63' : (n : Int) ≤ 9223372036854775807 := by
    have h := b3
    simp [maxLen] at h
    omega
  have hb' : (i.bytes : Int) * (n : Int) ≤ 281474976710656 := by
    have h : ((i.bytes * n : Nat) : Int) ≤ 281474976710656 := by omega
    rwa [Int.natCast_mul] at h
  have hrun := run_make (P := P) w t e i (.int k 0) h1 h2 h3 kl kc n n (by omega) (Int.le_refl _) hb' h63'
  unfold Oper.wp
  simp [execOp, hop, hl, hc, hrun, Result.andThen]
  refine hK' _ _ (hK _ ?_ ((Below.refl _ _).alloc (Nat.le_refl _) _))
  show (w.alloc _).heap[w.heap.size]? = _
  rw [heap_alloc_new, h4, Nat.mul_one]
  have : madeCells (Value.int k 0).cells n = ((List.replicate n (0 : Int)).map (Value.int k)).toArray := by
    apply Array.toList_inj.1
    rw [show (Value.int k 0).cells = #[.int k 0] from rfl, toList_madeCells_one]
    simp
  rw [this]

/-- 'copy(c, s)', c a new row as long as s: the row holds what s holds. -/
theorem copy_is {P : Program} (t e : TypeId) (hu : P.underlying t = some (.slice e)) (hsz : (P.info? e).map (·.size) = some 1) {w : World} {a : Option Addr} {n cap : Nat} {bs zs : List Int} (h : InRow w a n bs) (g B : Nat) (hB : B ≤ g) (hz : zs.length = n) (hr : RowIs w g e (zs.map (Value.int .u8))) :
    ∃ w', (∀ ty, (Builtin.copy_ #[t, t] ty #[.slice (some ⟨g, 0, none⟩) n n, .slice a n cap]).run P w = .ok (.int .i64 (n : Int)) w') ∧ RowIs w' g e (bs.map (Value.int .u8)) ∧ Below B w w' := by
  by_cases h0 : n = 0
  · subst h0
    obtain rfl : bs = [] := List.eq_nil_of_length_eq_zero h.len
    obtain rfl : zs = [] := List.eq_nil_of_length_eq_zero hz
    exact ⟨w, fun ty => run_copy_none (P := P) w t t ty e _ _ 0 0 0 cap hu hsz rfl, hr, Below.refl _ _⟩
  · obtain ⟨b, off, rfl, hlt, hc⟩ := h.lies (by omega)
    have hlen := h.len
    have hrun := fun ty => run_copy_row (P := P) w t t ty e g 0 n n ⟨b, off, none⟩ n cap _ e (bs.map (Value.int .u8)) hu hsz hr (by simp [hlen]) (fun j v hv => by
      rw [Addr.add_lit]
      have hj : j < n := by have := (List.getElem?_eq_some_iff.1 hv).1; simpa [hlen] using this
      rw [hc j hj, ← hv]
      simp [show j < bs.length by omega]) (by simp [hlen, hz]) (ints_oneCell _ _)
    refine ⟨w.setRow g (bs.map (Value.int .u8)).toArray, fun ty => (hrun ty).trans ?_, ?_, below_setRow (Below.refl _ _) hB _⟩
    · have ed : (zs.map (Value.int .u8)).drop n = [] := List.drop_eq_nil_of_le (by simp [hz])
      simp [goInt, hlen, ed]
    · show (World.setRow _ _ _).heap[g]? = _
      rw [setRow_heap w g _ _ e _ hr]
end Go.Proofs.Qxb6616952aModsRR
