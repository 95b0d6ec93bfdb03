/-
  The text that 'zzBuild' lays, and its ends; the law of 'append(buf, s...)' where there is room.
-/
import Derived.Test.Qxb6628906aSmall
import Derived.Room.AppendFits
import Derived.Laws.OwnMore
set_option linter.unusedVariables false
namespace Go.Proofs.Qxb6628906a
open Go.RowKit

/-- The first k ids one after another; how long that is. -/
def tot (ss : List ByteArray) : Nat → Nat
  | 0 => 0
  | k + 1 => tot ss k + (key ss k).size
def cat (ss : List ByteArray) : Nat → List UInt8
  | 0 => []
  | k + 1 => cat ss k ++ (key ss k).data.toList
theorem cat_length (ss : List ByteArray) : ∀ k, (cat ss k).length = tot ss k
  | 0 => rfl
  | k + 1 => by rw [cat, List.length_append, cat_length ss k, tot, Array.length_toList]; rfl
theorem tot_le (ss : List ByteArray) : ∀ {j k : Nat}, j ≤ k → tot ss j ≤ tot ss k := by
  intro j k h
  induction k with
  | zero => rw [Nat.le_zero.1 h]; exact Nat.le_refl _
  | succ k ih =>
    by_cases e : j = k + 1
    · rw [e]; exact Nat.le_refl _
    · have := ih (by omega); rw [tot]; omega
theorem cat_take (ss : List ByteArray) (j : Nat) : ∀ {k : Nat}, j ≤ k → (cat ss k).take (tot ss j) = cat ss j := by
  intro k h
  induction k with
  | zero => rw [Nat.le_zero.1 h]; rfl
  | succ k ih =>
    by_cases e : j = k + 1
    · rw [e, ← cat_length]; exact List.take_length
    · have hl := cat_length ss k
      have h1 := tot_le ss (show j ≤ k by omega)
      rw [cat, List.take_append_of_le_length (by omega)]; exact ih (by omega)
def txt (ss : List ByteArray) (k : Nat) : ByteArray := ⟨(cat ss k).toArray⟩
theorem txt_list (ss : List ByteArray) (k : Nat) : (txt ss k).data.toList = cat ss k := by simp [txt]
theorem txt_size (ss : List ByteArray) (k : Nat) : (txt ss k).size = tot ss k := by rw [← cat_length]; simp [txt, ByteArray.size]
theorem txt_cut (ss : List ByteArray) {j n : Nat} (h : j < n) : (txt ss n).extract (tot ss j) (tot ss (j + 1)) = key ss j := by
  have e : ((txt ss n).extract (tot ss j) (tot ss (j + 1))).data.toList = (key ss j).data.toList := by
    rw [Lib.extract_data, txt_list]
    have h1 := cat_take ss (j + 1) (show j + 1 ≤ n by omega)
    have h2 : ((cat ss n).drop (tot ss j)).take (tot ss (j + 1) - tot ss j) = ((cat ss n).take (tot ss (j + 1))).drop (tot ss j) := by rw [List.drop_take]
    rw [h2, h1, cat, List.drop_append_of_le_length (by rw [cat_length]; exact Nat.le_refl _), ← cat_length, List.drop_length]; rfl
  generalize (txt ss n).extract (tot ss j) (tot ss (j + 1)) = A at e
  generalize key ss j = B at e
  obtain ⟨⟨a⟩⟩ := A
  obtain ⟨⟨b⟩⟩ := B
  simp only at e
  rw [e]

theorem spells {ss : List ByteArray} {E : List Nat} {n : Nat} (hn : ss.length = n) (hE : E.length = n) (he : ∀ j, j < n → at' E j = tot ss (j + 1)) (hs : tot ss n ≤ 1048576) : Spells ss (txt ss n) E where
  len := by omega
  le i hi := by rw [txt_size, he i (by omega)]; exact tot_le ss (by omega)
  lo i hi h0 := by rw [he i (by omega), he (i - 1) (by omega)]; exact tot_le ss (by omega)
  cut i hi := by
    have hin : i < n := by omega
    have h1 := txt_cut ss hin
    have e : (if i = 0 then 0 else at' E (i - 1)) = tot ss i := by
      by_cases h0 : i = 0
      · rw [if_pos h0, h0]; rfl
      · have h2 := he (i - 1) (by omega)
        rw [show i - 1 + 1 = i by omega] at h2
        rw [if_neg h0, h2]
    rw [he i hin, e]
    exact h1
  small := by rw [txt_size]; exact hs

/-- The buffer: its first bytes are those of the first k ids. -/
def BufAt (w : World) (g cap : Nat) (ss : List ByteArray) (k : Nat) : Prop := ∃ cur : Array Value, w.heap[g]? = some (.cells cur 5 (0, 0)) ∧ cur.size = cap ∧ cur.toList.take (tot ss k) = (cat ss k).map fun b => Value.int .u8 b.toNat
theorem BufAt.row {w : World} {g cap k : Nat} {ss : List ByteArray} (h : BufAt w g cap ss k) (hk : tot ss k ≤ cap) : ByteRow w (some ⟨g, 0, none⟩) (txt ss k).size (ints (txt ss k)) := by
  obtain ⟨cur, hg, hc, ht⟩ := h
  refine ⟨ints_length _, .inr ⟨g, 0, rfl, (Array.getElem?_eq_some_iff.1 hg).1, fun j hj => ?_⟩⟩
  rw [txt_size] at hj
  rw [cell_of_row w g (0 + j) _ _ _ hg, Nat.zero_add]
  have h1 : cur[j]? = (cur.toList.take (tot ss k))[j]? := by rw [List.getElem?_take, if_pos hj, Array.getElem?_toList]
  rw [h1, ht, ints, txt_list, List.getElem?_map, List.getD, List.getElem?_map]
  have hj' : j < (cat ss k).length := by rw [cat_length]; exact hj
  rw [List.getElem?_eq_getElem hj']; rfl

theorem wp_app {P : Program} (w : World) {ops : Array Oper} {rest : List Oper} {o : Oper} {a : Act} {Q : Exit → Act → World → Prop} (hgd : o.guard = none) (sl x : Operand) (t u : TypeId)
    (ho : o.op = .call { callee := .builtin .append, args := #[sl, x], argTypes := #[t, u] })
    (i : TypeInfo) (ht : P.underlying t = some (.slice 5)) (hu : P.underlying u = some .string) (hi : P.info? 5 = some i) (hsize : i.size = 1)
    (g cap : Nat) (ss : List ByteArray) (k : Nat) (hs : a.eval sl = .slice (some ⟨g, 0, none⟩) (tot ss k) cap) (hx : a.eval x = .string (key ss k)) (hown : BufAt w g cap ss k) (hroom : tot ss (k + 1) ≤ cap)
    (h : ∀ w', BufAt w' g cap ss (k + 1) → w'.os = w.os → w'.tape = w.tape → w'.output = w.output → w'.heap.size = w.heap.size → (∀ j, j ≠ g → w'.heap[j]? = w.heap[j]?) → wpList P ops Q rest (a.put o.dst (.slice (some ⟨g, 0, none⟩) (tot ss (k + 1)) cap)) w') : wpList P ops Q (o :: rest) a w := by
  refine wpList_plain hgd fun K hK => ?_
  obtain ⟨cur, hg, hc, htk⟩ := hown
  have hr := Lib.run_append_room_string (P := P) w t u o.type 5 i ht hu hi hsize g (tot ss k) cap cur hg (key ss k) hroom (by rw [hc]; exact hroom)
  unfold Oper.wp execOp
  simp only [ho, resolve, invoke, builtin, Sem.run_bind, Sem.run_pure, Result.andThen_ok, List.map_toArray, List.map_cons, List.map_nil, hs, hx, hr]
  refine hK _ _ (h _ ⟨_, setRow_heap w g cur _ 5 _ hg, ?_, ?_⟩ rfl rfl rfl (by simp [World.setRow]) (fun j hj => setRow_other w g j _ hj))
  · simp only [List.size_toArray, List.length_append, List.length_take, List.length_drop, Array.length_toList, Lib.strCells_length]
    rw [tot] at hroom
    omega
  · rw [htk]
    have hl : ((cat ss k).map (fun b => Value.int .u8 b.toNat) ++ Lib.strCells (key ss k)).length = tot ss (k + 1) := by
      rw [List.length_append, List.length_map, cat_length, Lib.strCells_length, tot]
    rw [← hl, List.take_left, cat, List.map_append]; rfl
end Go.Proofs.Qxb6628906a
