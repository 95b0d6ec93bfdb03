/-
  What both laws begin with: the copy of the data, the readers.
-/
import Derived.Test.Qxb6628830aFmtHas
import Derived.Laws.CopyOwn
namespace Go.Proofs.Qxb6628830aFmt
open Go.RowKit

theorem Tryf.info5 : (Tryf.prog.info? 5).map (fun i => (i.zero, i.size, i.bytes)) = some (some (.int .u8 0), 1, 1) := by kernel_rfl
theorem size5 : (Tryf.prog.info? 5).map (·.size) = some 1 := by kernel_rfl

set_option maxHeartbeats 400000 in
theorem new_any (a : Option Addr) (n cap : Nat) (p d : Int) (w : World) :
    Calls Tryf.prog 6 #[.slice a n cap, .int .i64 p, .int .i64 d] w fun e w' => e = .returned (.pointer (some ⟨w.heap.size, 0, none⟩)) ∧ Rd w' w.heap.size a n cap p d ∧ Below w.heap.size w w' := by
  go_enter Tryf.func6, Tryf.ntmps6
  go_wp2
  go_ret
  refine ⟨rfl, ?_, (Below.refl _ _).alloc (Nat.le_refl _) _⟩
  show (w.heap.push _)[w.heap.size]? = _
  simp

set_option maxHeartbeats 400000 in
theorem pos_any (b : Nat) (a : Option Addr) (n cap : Nat) (p d : Int) (w : World) (h : Rd w b a n cap p d) :
    Calls Tryf.prog 8 #[.pointer (some ⟨b, 0, none⟩)] w fun e w' => e = .returned (.int .i64 p) ∧ w' = w := by
  have c1 := h.c1
  clear h
  go_enter Tryf.func8, Tryf.ntmps8
  go_wp2
  go_ret
  exact ⟨rfl, rfl⟩

theorem ByteRow.below {w w' : World} {a : Option Addr} {n : Nat} {zs : List Int} (h : ByteRow w a n zs) (hb : Below w.heap.size w w') : ByteRow w' a n zs := by
  refine ⟨h.1, ?_⟩
  rcases h.2 with h | ⟨g, off, rfl, hlt, hc⟩
  · exact .inl h
  · exact .inr ⟨g, off, rfl, Nat.lt_of_lt_of_le hlt hb.size, fun j hj => by rw [hb.cell (by exact hlt)]; exact hc j hj⟩

/-- The copy lies in a row of its own. -/
theorem row_made {w : World} {g n : Nat} {cur : List Value} {bs : List UInt8} (hl : bs.length = n) (hcur : cur.length = n)
    (hg : w.heap[g]? = some (.cells (splice cur 0 ((ints bs).map (Value.int .u8))).toArray 5 (0, 0))) : ByteRow w (some ⟨g, 0, none⟩) n (ints bs) := by
  refine ⟨by rw [ints_length, hl], .inr ⟨g, 0, rfl, (Array.getElem?_eq_some_iff.1 hg).1, fun j hj => ?_⟩⟩
  rw [Nat.zero_add, cell_of_row w g j _ _ _ hg]
  have e : splice cur 0 ((ints bs).map (Value.int .u8)) = (ints bs).map (Value.int .u8) := by
    simp [splice, ints_length, hl, hcur]
  rw [e]
  simp [List.getD, ints_length, hl, hj]

theorem own_row {w : World} {base e g n cap : Nat} {xs : List Value} (h : w.ownsRow base e 1 (.slice (some ⟨g, 0, none⟩) n cap) n xs) : ∃ cur : List Value, w.heap[g]? = some (.cells cur.toArray e (0, 0)) ∧ cur.length = cap := by
  rcases h.2 with ⟨h', _⟩ | ⟨g', cap', cur, h', _, hg, _, _, hs, _⟩
  · simp at h'
  · simp only [Value.slice.injEq, Option.some.injEq, Addr.mk.injEq, and_true, true_and] at h'
    obtain ⟨rfl, rfl⟩ := h'
    exact ⟨cur.toList, by simpa using hg, by simpa using hs⟩

theorem SkipTo.drop {bs : List UInt8} {n p q : Nat} (h : SkipTo (ints bs) n p (p + q)) : SkipTo (ints (bs.drop p)) (n - p) 0 q := by
  have e : ∀ j, (ints (bs.drop p)).getD j 0 = (ints bs).getD (p + j) 0 := fun j => by rw [← ints_drop]; simp [List.getD]
  refine ⟨Nat.zero_le _, by have := h.hi; omega, fun j _ hj => ?_, fun hq => ?_⟩
  · rw [e]; exact h.all (p + j) (by omega) (by omega)
  · rw [e]; exact h.stop (by omega)

theorem ByteRow.cut {w : World} {a : Option Addr} {n cap p : Nat} {bs : List UInt8} (h : ByteRow w a n (ints bs)) (hp : p ≤ n) (hc : n ≤ cap) : ByteRow w (if cap = p then a else a.map (fun x => x.add p)) (n - p) (ints (bs.drop p)) := by
  have hl : bs.length = n := by rw [← ints_length]; exact h.1
  refine ⟨by rw [ints_length, List.length_drop, hl], ?_⟩
  by_cases h0 : n - p = 0
  · exact .inl h0
  · obtain ⟨g, off, rfl, hlt, hcc⟩ := h.2.resolve_left (by omega)
    refine .inr ⟨g, off + p, by rw [if_neg (by omega)]; simp [Addr.add], hlt, fun j hj => ?_⟩
    rw [Nat.add_assoc, hcc (p + j) (by omega), ← ints_drop]
    simp [List.getD]

theorem hide {p : Prop} (h : p) : Hid p := h
theorem unhide {p : Prop} (h : Hid p) : p := h

theorem cut_run (a : Option Addr) (n cap q : Nat) (a2 : Option Addr) (w : World) (hq : q ≤ n) (h : a2 = (if cap = q then a else Option.map (fun x : Addr => x.add q) a)) :
    (Instr.slice 22 (.slice a n cap) (some (.int .i64 (q : Int))) none none).run Tryf.prog w = .ok (.slice a2 (n - q) (cap - q)) w := by
  rw [run_slice_l (P := Tryf.prog) (t := 22) (w := w) (ht := Tryf.underlying22) (h0 := by omega) (h1 := by omega)]
  have hs : (sizeOf (Tryf.prog.elem 22)).run Tryf.prog w = .ok 1 w := by kernel_rfl
  rw [hs, h]
  simp [Result.andThen, sliced]

theorem add_block (x : Addr) (q : Nat) : (x.add q).block = x.block := by
  unfold Addr.add; split <;> rfl
theorem cut_lt {a a2 : Option Addr} {cap q B : Nat} (h : a2 = (if cap = q then a else Option.map (fun x : Addr => x.add q) a)) (hlt : ∀ x, a = some x → x.block < B) : ∀ x, a2 = some x → x.block < B := by
  intro x e
  rw [h] at e
  split at e
  · exact hlt x e
  · cases a with
    | none => simp at e
    | some y =>
      simp only [Option.map_some, Option.some.injEq] at e
      rw [← e, add_block]
      exact hlt y rfl
end Go.Proofs.Qxb6628830aFmt
