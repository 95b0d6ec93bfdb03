/-
  The walk of the first law (3).
-/
import Derived.Test.Qxb6628777aClone
namespace Go.Proofs.Qxb6628777a
open Go.RowKit

theorem StrRow.below {w w' : World} {a : Option Addr} {n : Nat} {ss : List ByteArray} (h : StrRow w a n ss) (hb : Below w.heap.size w w') : StrRow w' a n ss := by
  refine ⟨h.1, ?_⟩
  rcases h.2 with h | ⟨b, off, rfl, hlt, hc⟩
  · exact .inl h
  · exact .inr ⟨b, off, rfl, Nat.lt_of_lt_of_le hlt hb.size, fun j hj => by rw [hb.cell (by exact hlt)]; exact hc j hj⟩
theorem StrRow.alloc {w : World} {a : Option Addr} {n : Nat} {ss : List ByteArray} (h : StrRow w a n ss) (o : Obj) : StrRow (w.alloc o) a n ss := h.below ((Below.refl _ _).alloc (Nat.le_refl _) o)
theorem bcell {W w1 : World} (hb : Below W.heap.size W w1) : (∀ b o, b < W.heap.size → w1.cell? ⟨b, o, none⟩ = W.cell? ⟨b, o, none⟩) ∧ (∀ b o, b < W.heap.size → w1.frozen? ⟨b, o, none⟩ = W.frozen? ⟨b, o, none⟩) :=
  ⟨fun b o h => hb.cell (p := ⟨b, o, none⟩) h, fun b o h => hb.frozen (p := ⟨b, o, none⟩) h⟩

/-- Strings as cells. -/
def strsOf (l : List ByteArray) : List Value := l.map Value.string
/-- The list with x put in at q. -/
def ins (ss : List ByteArray) (q : Nat) (x : ByteArray) : List ByteArray := ss.take q ++ x :: ss.drop q
theorem ins_length {ss : List ByteArray} {q n : Nat} {x : ByteArray} (h : ss.length = n) : (ins ss q x).length = n + 1 := by
  simp [ins]; omega
theorem take_step {ss : List ByteArray} {k n : Nat} (h : ss.length = n) (hk : k < n) : ss.take (k + 1) = ss.take k ++ [ss.getD k ByteArray.empty] := by
  rw [List.take_succ_eq_append_getElem (by omega)]; simp [List.getD, h, hk]
theorem strs_step {ss : List ByteArray} {k n : Nat} {y : ByteArray} (h : ss.length = n) (hk : k < n) (hy : y = ss.getD k ByteArray.empty) : strsOf (ss.take k) ++ [.string y] = strsOf (ss.take (k + 1)) := by
  rw [take_step h hk, hy]; simp [strsOf]
theorem ins_first {ss : List ByteArray} {q n : Nat} {x : ByteArray} (h : ss.length = n) (hq : q ≤ n) : strsOf (ss.take q) ++ [.string x] = strsOf ((ins ss q x).take (q + 1)) := by
  have e : (ss.take q).length = q := by simp; omega
  have : (ins ss q x).take (q + 1) = ss.take q ++ [x] := by
    rw [ins, List.take_append, e, List.take_of_length_le (by omega)]; simp
  rw [this]; simp [strsOf]
theorem ins_getD {ss : List ByteArray} {q k n : Nat} {x : ByteArray} (h : ss.length = n) (hq : q ≤ k) (hk : k < n) : (ins ss q x).getD (k + 1) ByteArray.empty = ss.getD k ByteArray.empty := by
  have e : (ss.take q).length = q := by simp; omega
  simp only [ins, List.getD]
  rw [List.getElem?_append_right (by omega), e, show k + 1 - q = (k - q) + 1 by omega, List.getElem?_cons_succ, List.getElem?_drop, show q + (k - q) = k by omega]
theorem ins_step {ss : List ByteArray} {q k n : Nat} {x y : ByteArray} (h : ss.length = n) (hq : q ≤ k) (hk : k < n) (hy : y = ss.getD k ByteArray.empty) :
    strsOf ((ins ss q x).take (k + 1)) ++ [.string y] = strsOf ((ins ss q x).take (k + 1 + 1)) :=
  strs_step (ins_length h) (by omega) (by rw [hy, ins_getD h hq hk])

/-- What is kept of the two settings' boxes, of the argument and of its copy, behind whatever is made later. -/
structure Kept (w w1 wr : World) (t c s : ByteArray) (a a' : Option Addr) (n cap : Nat) (ss : List ByteArray) : Prop where
  below : Below w.heap.size w wr
  lt : w.heap.size < w1.heap.size
  sz : w1.heap.size < wr.heap.size
  row : StrRow wr a n ss
  row' : StrRow wr a' n ss
  o : ∀ j, wr.cell? ⟨w.heap.size, j, none⟩ = (#[Value.string t, Value.string c, Value.string s, Value.slice a n cap] : Array Value)[j]?
  c : ∀ j, wr.cell? ⟨w1.heap.size, j, none⟩ = (#[Value.string t, Value.string c, Value.string s, Value.slice a' n n] : Array Value)[j]?

theorem Kept.of {w w1 W1 wr : World} {t c s : ByteArray} {a a' : Option Addr} {n cap : Nat} {ss : List ByteArray} (hr : StrRow w a n ss)
    (hcl : Cloned (w.alloc (.cells #[.string t, .string c, .string s, .slice a n cap] 26)) w1 a' n ss)
    (hW : W1 = w1.alloc (.cells #[.string t, .string c, .string s, .slice a' n n] 26)) (hb : Below (w1.heap.size + 1) W1 wr) : Kept w w1 wr t c s a a' n cap ss := by
  subst hW
  have e1 : (w1.alloc (.cells #[.string t, .string c, .string s, .slice a' n n] 26)).heap.size = w1.heap.size + 1 := by simp
  have e0 : (w.alloc (.cells #[.string t, .string c, .string s, .slice a n cap] 26)).heap.size = w.heap.size + 1 := by simp
  have hb1 : Below (w1.heap.size + 1) _ wr := hb
  have hs := hb.size
  have hs1 := hcl.below.size
  rw [e1] at hs
  rw [e0] at hs1
  have b1 : Below w.heap.size w w1 := ((Below.refl _ _).alloc (Nat.le_refl _) _).trans (hcl.below.mono (by omega))
  have b2 : Below w1.heap.size w1 wr := ((Below.refl _ _).alloc (Nat.le_refl _) _).trans (hb.mono (by omega))
  refine ⟨b1.trans (b2.mono (by omega)), by omega, by omega, hr.below (b1.trans (b2.mono (by omega))), hcl.row.below b2, fun j => ?_, fun j => ?_⟩
  · rw [b2.cell (by show w.heap.size < w1.heap.size; omega), hcl.below.cell (by show w.heap.size < _; omega), World.cell?_alloc_at _ _ _ _ rfl]
  · rw [hb.cell (by show w1.heap.size < _; omega), World.cell?_alloc_at _ _ _ _ rfl]

/-- A box that holds settings. -/
def boxAt (W : World) (b : Nat) (t c s : ByteArray) (v : Value) : Prop :=
  W.cell? ⟨b, 0, none⟩ = some (.string t) ∧ W.cell? ⟨b, 1, none⟩ = some (.string c) ∧ W.cell? ⟨b, 2, none⟩ = some (.string s) ∧ W.cell? ⟨b, 3, none⟩ = some v ∧ b < W.heap.size
theorem boxAt.step {W W' : World} {b : Nat} {t c s : ByteArray} {v : Value} (h : boxAt W b t c s v) (hb : Below W.heap.size W W') : boxAt W' b t c s v := by
  obtain ⟨h0, h1, h2, h3, hlt⟩ := h
  exact ⟨by rw [hb.cell (by exact hlt)]; exact h0, by rw [hb.cell (by exact hlt)]; exact h1, by rw [hb.cell (by exact hlt)]; exact h2, by rw [hb.cell (by exact hlt)]; exact h3, Nat.lt_of_lt_of_le hlt hb.size⟩
theorem boxAt.alloc {W : World} {b : Nat} {t c s : ByteArray} {v : Value} (h : boxAt W b t c s v) (o : Obj) : boxAt (W.alloc o) b t c s v := h.step ((Below.refl _ _).alloc (Nat.le_refl _) o)
theorem boxAt.new (W : World) (n : Nat) (t c s : ByteArray) (v : Value) (hn : n = W.heap.size) : boxAt (W.alloc (.cells #[.string t, .string c, .string s, v] 26)) n t c s v := by
  subst hn
  refine ⟨?_, ?_, ?_, ?_, by simp⟩ <;> rw [World.cell?_alloc_at _ _ _ _ rfl] <;> rfl
theorem sameB_self (t c s : ByteArray) (ss : List ByteArray) : sameB t c s ss t c s ss = true := decide_eq_true ⟨rfl, rfl, rfl, rfl⟩

/-- All five settings lie in their boxes. -/
structure Ready (w0 W : World) (bo bc bd be bf : Nat) (t c s : ByteArray) (a a' ai af : Option Addr) (n cap : Nat) (ss is : List ByteArray) : Prop where
  below : Below w0.heap.size w0 W
  O : boxAt W bo t c s (.slice a n cap)
  C : boxAt W bc t c s (.slice a' n n)
  D : boxAt W bd t c s (.slice ai (n + 1) (n + 1))
  E : boxAt W be t c s (.slice none 0 0)
  F : boxAt W bf t c s (.slice af 0 0)
  ro : StrRow W a n ss
  rc : StrRow W a' n ss
  ri : StrRow W ai (n + 1) is
theorem Ready.step {w0 W W' : World} {bo bc bd be bf : Nat} {t c s : ByteArray} {a a' ai af : Option Addr} {n cap : Nat} {ss is : List ByteArray} (h : Ready w0 W bo bc bd be bf t c s a a' ai af n cap ss is) (hb : Below W.heap.size W W') :
    Ready w0 W' bo bc bd be bf t c s a a' ai af n cap ss is :=
  ⟨h.below.trans (hb.mono h.below.size), h.O.step hb, h.C.step hb, h.D.step hb, h.E.step hb, h.F.step hb, h.ro.below hb, h.rc.below hb, h.ri.below hb⟩
theorem StrRow.empty (W : World) (a : Option Addr) : StrRow W a 0 [] := ⟨rfl, .inl rfl⟩

set_option maxHeartbeats 1000000 in
theorem law1_row (t c s x : ByteArray) (b off n cap : Nat) (ss : List ByteArray) (p : Int) (w : World) (hn : n ≤ maxLen) (hnil : (some ⟨b, off, none⟩ : Option Addr) = none → n = 0 ∧ cap = 0) (hr : StrRow w (some ⟨b, off, none⟩) n ss) (hb : b < w.heap.size) (hc : ∀ j, j < n → w.cell? ⟨b, off + j, none⟩ = some (.string (ss.getD j ByteArray.empty))) :
    Calls Try.prog 3 #[.string t, .string c, .string s, .slice (some ⟨b, off, none⟩) n cap, .string x, .int .i64 p] w fun e w' => e = .returned (.bool true) ∧ Below w.heap.size w w' := by
  have HR : Hid (StrRow w (some ⟨b, off, none⟩) n ss) := hr
  have HN : Hid ((some ⟨b, off, none⟩ : Option Addr) = none → n = 0 ∧ cap = 0) := hnil
  have HM : Hid (n ≤ maxLen) := hn
  have HL : Hid (ss.length = n) := hr.1
  clear hnil hn hr
  have HC : Hid (∀ j, j < n → w.cell? ⟨b, off + j, none⟩ = some (.string (ss.getD j ByteArray.empty))) := hc
  clear hc
  obtain ⟨i0, hi, hz0, hz1, hz2⟩ := info_parts Try.info9
  go_enter Try.func3, Try.ntmps3
  go_wp2_with fail
  refine (bytes1 t c s x _ n cap ss p w HM.out HR.out).mono ?_
  rintro e w' ⟨⟨r, rfl⟩, rfl⟩
  cases r with
  | false =>
    go_wp2
    go_ret
    exact ⟨rfl, Below.refl _ _⟩
  | true =>
  go_wp2_with fail
  refine (sizeOK t c s x _ n cap ss _ HM.out HR.out).mono ?_
  rintro e w' ⟨⟨r, rfl, hfit⟩, rfl⟩
  cases r with
  | false =>
    go_wp2
    go_ret
    exact ⟨rfl, Below.refl _ _⟩
  | true =>
  have hn : n ≤ 65536 := hfit rfl
  clear hfit
  by_cases hp0 : p < 0
  · go_wp2
    go_ret
    exact ⟨rfl, Below.refl _ _⟩
  obtain ⟨q, rfl⟩ := Int.eq_ofNat_of_zero_le (Int.not_lt.1 hp0)
  have hd0 : decide ((q : Int) < 0) = false := by simp
  clear hp0
  by_cases hpn : n < q
  · go_wp2
    go_ret
    exact ⟨rfl, Below.refl _ _⟩
  have hd1 : decide ((n : Int) < (q : Int)) = false := by simp; omega
  go_wp2_with fail
  refine (clone_any _ n cap ss _ hn HN.out (HR.out.alloc _)).mono ?_
  rintro e w1 ⟨a', rfl, hcl⟩
  have HCL : Hid (Cloned (w'.alloc (.cells #[.string t, .string c, .string s, .slice (some ⟨b, off, none⟩) n cap] 26)) w1 a' n ss) := hcl
  clear hcl
  go_wp2_with (refine wpList_make_own _ rfl _ _ 22 rfl (w1.heap.size + 1) 9 i0 _ 1 Try.underlying22 hi hz0 hz1 .i64 .i64 ((n : Int) + 1) (n + 1) rfl rfl (by omega) (by rw [hz2]; omega) (by unfold maxLen; omega) (by simp) ?_)
  intro w2 hown hgrow
  obtain ⟨W1, hW1⟩ : ∃ W1, W1 = w1.alloc (Obj.cells #[Value.string t, Value.string c, Value.string s, Value.slice a' n n] 26) := ⟨_, rfl⟩
  have HB2 : Hid (Below (w1.heap.size + 1) W1 w2) := by rw [hW1]; exact (Below.refl _ _).grown hgrow (by simp) (fun k h => by cases h)
  have HO : Hid (w2.ownsRow (w1.heap.size + 1) 9 1 (.slice (some ⟨w1.heap.size + 1, 0, none⟩) 0 (n + 1)) 0 (strsOf (ss.take 0))) := hown
  have HKA : Hid (∀ wr, Below (w1.heap.size + 1) W1 wr → Kept w' w1 wr t c s (some ⟨b, off, none⟩) a' n cap ss) := fun wr h => Kept.of HR.out HCL.out hW1 h
  clear hown hgrow hW1
  go_wp2
  go_loopw [15, 16] (fun v i wr => ∃ k : Nat, k ≤ q ∧ i = .int .i64 k ∧ v = .slice (some ⟨w1.heap.size + 1, 0, none⟩) k (n + 1) ∧ Hid (wr.ownsRow (w1.heap.size + 1) 9 1 (.slice (some ⟨w1.heap.size + 1, 0, none⟩) k (n + 1)) k (strsOf (ss.take k))) ∧ Hid (Below (w1.heap.size + 1) W1 wr)) (fun _ i _ => q - (intOf i).toNat)
  case atStart => exact ⟨0, Nat.zero_le _, rfl, rfl, HO, HB2⟩
  case round =>
  obtain ⟨k, hk, rfl, rfl, HX, HB⟩ := hrel
  have HK : Hid (Kept w' w1 wr t c s (some ⟨b, off, none⟩) a' n cap ss) := HKA.out wr HB.out
  have hws : w1.heap.size < wr.heap.size := HK.out.sz
  by_cases hlt : k < q
  · obtain ⟨y, hy⟩ : ∃ y, y = ss.getD k ByteArray.empty := ⟨_, rfl⟩
    have g1 : wr.cell? ⟨b, off + k, none⟩ = some (.string y) := by rw [HK.out.below.cell (by exact hb), HC.out k (by omega), hy]
    have hX : Hid (y = ss.getD k ByteArray.empty) := hy
    clear hy
    go_wp2_with (at_builtin; refine wpList_append_fits _ rfl (.tmp 70) (.tmp 75) 22 rfl (w1.heap.size + 1) 9 i0 1 Try.underlying22 hi hz1 (w1.heap.size + 1) k (n + 1) _ rfl (HX.out.alloc _) ⟨wr.heap.size, 0, none⟩ 1 1 [.string y] rfl rfl (cell_one_new _ _ _) (by simp [Value.oneCell']) (by omega) ?_)
    intro w3 hown3 hgrow3
    have HO3 : Hid (w3.ownsRow (w1.heap.size + 1) 9 1 (.slice (some ⟨w1.heap.size + 1, 0, none⟩) (k + 1) (n + 1)) (k + 1) (strsOf (ss.take (k + 1)))) := by
      rw [← strs_step HL.out (by omega) hX.out]; exact hown3
    have HB3 : Hid (Below (w1.heap.size + 1) W1 w3) := (HB.out.alloc (by omega) _).grown hgrow3 (by simp; omega) (fun k h => by cases h; exact Nat.le_refl _)
    clear hown3 hgrow3
    go_wp2
    go_roundw
    case rel => exact ⟨k + 1, by omega, by go_num, rfl, HO3, HB3⟩
    case measure => simp [intOf]; omega
  obtain rfl : k = q := by omega
  go_wp2_with (at_builtin; refine wpList_append_fits _ rfl (.tmp 77) (.tmp 79) 22 rfl (w1.heap.size + 1) 9 i0 1 Try.underlying22 hi hz1 (w1.heap.size + 1) k (n + 1) _ rfl (HX.out.alloc _) ⟨wr.heap.size, 0, none⟩ 1 1 [.string x] rfl rfl (cell_one_new _ _ _) (by simp [Value.oneCell']) (by omega) ?_)
  intro w3 hown3 hgrow3
  have HO3 : Hid (w3.ownsRow (w1.heap.size + 1) 9 1 (.slice (some ⟨w1.heap.size + 1, 0, none⟩) (k + 1) (n + 1)) (k + 1) (strsOf ((ins ss k x).take (k + 1)))) := by
    rw [← ins_first HL.out (by omega)]; exact hown3
  have HB3 : Hid (Below (w1.heap.size + 1) W1 w3) := (HB.out.alloc (by omega) _).grown hgrow3 (by simp; omega) (fun k h => by cases h; exact Nat.le_refl _)
  clear hown3 hgrow3 HX HB HK hws HO HB2
  go_wp2
  obtain ⟨wo, hwo⟩ : ∃ wo, wo = wr.heap.size := ⟨_, rfl⟩
  rw [← hwo]
  clear hwo wr
  go_loopw [15, 17] (fun v i wr => ∃ m : Nat, k ≤ m ∧ m ≤ n ∧ i = .int .i64 m ∧ v = .slice (some ⟨w1.heap.size + 1, 0, none⟩) (m + 1) (n + 1) ∧ Hid (wr.ownsRow (w1.heap.size + 1) 9 1 (.slice (some ⟨w1.heap.size + 1, 0, none⟩) (m + 1) (n + 1)) (m + 1) (strsOf ((ins ss k x).take (m + 1)))) ∧ Hid (Below (w1.heap.size + 1) W1 wr)) (fun _ i _ => n - (intOf i).toNat)
  case atStart => exact ⟨k, Nat.le_refl _, by omega, rfl, rfl, HO3, HB3⟩
  case round =>
  obtain ⟨m, hkm, hmn, rfl, rfl, HX, HB⟩ := hrel
  have HK : Hid (Kept w' w1 wr t c s (some ⟨b, off, none⟩) a' n cap ss) := HKA.out wr HB.out
  have hws : w1.heap.size < wr.heap.size := HK.out.sz
  by_cases hlt2 : m < n
  · obtain ⟨y, hy⟩ : ∃ y, y = ss.getD m ByteArray.empty := ⟨_, rfl⟩
    have g1 : wr.cell? ⟨b, off + m, none⟩ = some (.string y) := by rw [HK.out.below.cell (by exact hb), HC.out m (by omega), hy]
    have hX : Hid (y = ss.getD m ByteArray.empty) := hy
    clear hy
    go_wp2_with (at_builtin; refine wpList_append_fits _ rfl (.tmp 88) (.tmp 93) 22 rfl (w1.heap.size + 1) 9 i0 1 Try.underlying22 hi hz1 (w1.heap.size + 1) (m + 1) (n + 1) _ rfl (HX.out.alloc _) ⟨wr.heap.size, 0, none⟩ 1 1 [.string y] rfl rfl (cell_one_new _ _ _) (by simp [Value.oneCell']) (by omega) ?_)
    intro w4 hown4 hgrow4
    have HO4 : Hid (w4.ownsRow (w1.heap.size + 1) 9 1 (.slice (some ⟨w1.heap.size + 1, 0, none⟩) (m + 1 + 1) (n + 1)) (m + 1 + 1) (strsOf ((ins ss k x).take (m + 1 + 1)))) := by
      rw [← ins_step HL.out hkm hlt2 hX.out]; exact hown4
    have HB4 : Hid (Below (w1.heap.size + 1) W1 w4) := (HB.out.alloc (by omega) _).grown hgrow4 (by simp; omega) (fun k h => by cases h; exact Nat.le_refl _)
    clear hown4 hgrow4
    go_wp2
    go_roundw
    case rel => exact ⟨m + 1, by omega, by omega, by go_num, rfl, HO4, HB4⟩
    case measure => simp [intOf]; omega
  obtain rfl : m = n := by omega
  have HI : Hid (StrRow wr (some ⟨w1.heap.size + 1, 0, none⟩) (m + 1) (ins ss k x)) := by
    refine ⟨ins_length HL.out, .inr ⟨_, 0, rfl, own_lt HX.out, fun j hj => ?_⟩⟩
    rw [Nat.zero_add, HX.out.cellAt j (by omega), List.take_of_length_le (by rw [ins_length HL.out]; omega), strsOf, List.getElem?_map]
    rw [List.getD, List.getElem?_eq_getElem (by rw [ins_length HL.out]; exact hj)]; rfl
  have hb0 : w'.heap.size < wr.heap.size := Nat.lt_trans HK.out.lt HK.out.sz
  have HO5 : Hid (boxAt wr w'.heap.size t c s (.slice (some ⟨b, off, none⟩) m cap)) := ⟨HK.out.o 0, HK.out.o 1, HK.out.o 2, HK.out.o 3, hb0⟩
  have HC5 : Hid (boxAt wr w1.heap.size t c s (.slice a' m m)) := ⟨HK.out.c 0, HK.out.c 1, HK.out.c 2, HK.out.c 3, hws⟩
  have s1 := sameB_self t c s ss
  have s2 : sameB t c s ss t c s (ins ss k x) = false := sameB_n HL.out (ins_length HL.out) (by omega)
  have s3 : sameB t c s (ins ss k x) t c s ss = false := sameB_n (ins_length HL.out) HL.out (by omega)
  have s4 := sameB_self t c s []
  have HE : Hid (∀ (W : World) (a : Option Addr), StrRow W a 0 []) := fun _ _ => ⟨rfl, .inl rfl⟩
  have HBW : Hid (Below w'.heap.size w' wr) := HK.out.below
  have four : ∀ o1 o2 o3 o4, boxAt ((((wr.alloc o1).alloc o2).alloc o3).alloc o4) w'.heap.size t c s (.slice (some ⟨b, off, none⟩) m cap) ∧ boxAt ((((wr.alloc o1).alloc o2).alloc o3).alloc o4) w1.heap.size t c s (.slice a' m m) :=
    fun o1 o2 o3 o4 => ⟨(((HO5.out.alloc o1).alloc o2).alloc o3).alloc o4, (((HC5.out.alloc o1).alloc o2).alloc o3).alloc o4⟩
  have o0 := fun o1 o2 o3 o4 => (four o1 o2 o3 o4).1.1
  have o1 := fun o1 o2 o3 o4 => (four o1 o2 o3 o4).1.2.1
  have o2 := fun o1 o2 o3 o4 => (four o1 o2 o3 o4).1.2.2.1
  have o3 := fun o1 o2 o3 o4 => (four o1 o2 o3 o4).1.2.2.2.1
  have c0 := fun o1 o2 o3 o4 => (four o1 o2 o3 o4).2.1
  have c1 := fun o1 o2 o3 o4 => (four o1 o2 o3 o4).2.2.1
  have c2 := fun o1 o2 o3 o4 => (four o1 o2 o3 o4).2.2.2.1
  have c3 := fun o1 o2 o3 o4 => (four o1 o2 o3 o4).2.2.2.2.1
  clear four HO3 HB3 HKA HCL
  have hmL : m ≤ maxLen := HM.out
  have HML : Hid (m ≤ maxLen) := hmL
  clear hmL
  go_wp2_with fail
  refine (equal_any t c s t c s _ _ m cap m m ss ss _ HML.out ((((HK.out.row.alloc _).alloc _).alloc _).alloc _) ((((HK.out.row'.alloc _).alloc _).alloc _).alloc _)).mono ?_
  rintro e u1 ⟨rfl, hu⟩
  have R1 : Hid (Ready w' u1 w'.heap.size w1.heap.size wr.heap.size (wr.heap.size + 1) (wr.heap.size + 1 + 1 + 1) t c s (some ⟨b, off, none⟩) a' (some ⟨w1.heap.size + 1, 0, none⟩) (some ⟨wr.heap.size + 1 + 1, 0, none⟩) m cap ss (ins ss k x)) :=
    Ready.step ⟨((((HBW.out.alloc (by omega) _).alloc (by simp; omega) _).alloc (by simp; omega) _).alloc (by simp; omega) _), (((HO5.out.alloc _).alloc _).alloc _).alloc _, (((HC5.out.alloc _).alloc _).alloc _).alloc _,
      (((boxAt.new _ _ t c s _ rfl).alloc _).alloc _).alloc _, ((boxAt.new _ _ t c s _ (by simp)).alloc _).alloc _, boxAt.new _ _ t c s _ (by simp),
      (((HK.out.row.alloc _).alloc _).alloc _).alloc _, (((HK.out.row'.alloc _).alloc _).alloc _).alloc _, (((HI.out.alloc _).alloc _).alloc _).alloc _⟩ hu
  clear hu o0 o1 o2 o3 c0 c1 c2 c3 HK HI HO5 HC5 HBW HX HB HE
  obtain ⟨a0, a1, a2, a3, al⟩ := R1.out.C
  obtain ⟨b0, b1, b2, b3, bl⟩ := R1.out.O
  go_wp2_with fail
  refine (equal_any t c s t c s _ _ m m m cap ss ss _ HML.out R1.out.rc R1.out.ro).mono ?_
  rintro e u2 ⟨rfl, hu⟩
  have R2 := Ready.step R1.out hu
  have R2 : Hid (Ready w' u2 w'.heap.size w1.heap.size wr.heap.size (wr.heap.size + 1) (wr.heap.size + 1 + 1 + 1) t c s (some ⟨b, off, none⟩) a' (some ⟨w1.heap.size + 1, 0, none⟩) (some ⟨wr.heap.size + 1 + 1, 0, none⟩) m cap ss (ins ss k x)) := R2
  clear hu a0 a1 a2 a3 al b0 b1 b2 b3 bl R1
  obtain ⟨a0, a1, a2, a3, al⟩ := R2.out.O
  obtain ⟨b0, b1, b2, b3, bl⟩ := R2.out.D
  go_wp2_with fail
  refine (equal_any t c s t c s _ _ m cap (m + 1) (m + 1) ss (ins ss k x) _ HML.out R2.out.ro R2.out.ri).mono ?_
  rintro e u3 ⟨rfl, hu⟩
  have R3 := Ready.step R2.out hu
  have R3 : Hid (Ready w' u3 w'.heap.size w1.heap.size wr.heap.size (wr.heap.size + 1) (wr.heap.size + 1 + 1 + 1) t c s (some ⟨b, off, none⟩) a' (some ⟨w1.heap.size + 1, 0, none⟩) (some ⟨wr.heap.size + 1 + 1, 0, none⟩) m cap ss (ins ss k x)) := R3
  clear hu a0 a1 a2 a3 al b0 b1 b2 b3 bl R2
  obtain ⟨a0, a1, a2, a3, al⟩ := R3.out.D
  obtain ⟨b0, b1, b2, b3, bl⟩ := R3.out.O
  go_wp2_with fail
  refine (equal_any t c s t c s _ _ (m + 1) (m + 1) m cap (ins ss k x) ss _ (by unfold maxLen; omega) R3.out.ri R3.out.ro).mono ?_
  rintro e u4 ⟨rfl, hu⟩
  have R4 := Ready.step R3.out hu
  have R4 : Hid (Ready w' u4 w'.heap.size w1.heap.size wr.heap.size (wr.heap.size + 1) (wr.heap.size + 1 + 1 + 1) t c s (some ⟨b, off, none⟩) a' (some ⟨w1.heap.size + 1, 0, none⟩) (some ⟨wr.heap.size + 1 + 1, 0, none⟩) m cap ss (ins ss k x)) := R4
  clear hu a0 a1 a2 a3 al b0 b1 b2 b3 bl R3
  obtain ⟨a0, a1, a2, a3, al⟩ := R4.out.E
  obtain ⟨b0, b1, b2, b3, bl⟩ := R4.out.F
  go_wp2_with fail
  refine (equal_any t c s t c s _ _ 0 0 0 0 [] [] _ (by unfold maxLen; omega) (StrRow.empty _ _) (StrRow.empty _ _)).mono ?_
  rintro e u5 ⟨rfl, hu⟩
  have R5 := Ready.step R4.out hu
  have R5 : Hid (Ready w' u5 w'.heap.size w1.heap.size wr.heap.size (wr.heap.size + 1) (wr.heap.size + 1 + 1 + 1) t c s (some ⟨b, off, none⟩) a' (some ⟨w1.heap.size + 1, 0, none⟩) (some ⟨wr.heap.size + 1 + 1, 0, none⟩) m cap ss (ins ss k x)) := R5
  clear hu a0 a1 a2 a3 al b0 b1 b2 b3 bl R4
  obtain ⟨a0, a1, a2, a3, al⟩ := R5.out.F
  obtain ⟨b0, b1, b2, b3, bl⟩ := R5.out.E
  go_wp2_with fail
  refine (equal_any t c s t c s _ _ 0 0 0 0 [] [] _ (by unfold maxLen; omega) (StrRow.empty _ _) (StrRow.empty _ _)).mono ?_
  rintro e u6 ⟨rfl, hu⟩
  have R6 := Ready.step R5.out hu
  have R6 : Hid (Ready w' u6 w'.heap.size w1.heap.size wr.heap.size (wr.heap.size + 1) (wr.heap.size + 1 + 1 + 1) t c s (some ⟨b, off, none⟩) a' (some ⟨w1.heap.size + 1, 0, none⟩) (some ⟨wr.heap.size + 1 + 1, 0, none⟩) m cap ss (ins ss k x)) := R6
  clear hu a0 a1 a2 a3 al b0 b1 b2 b3 bl R5
  go_wp2
  go_ret
  exact ⟨rfl, R6.out.below⟩
set_option maxHeartbeats 1000000 in
theorem law1_empty (t c s x : ByteArray) (a : Option Addr) (n cap : Nat) (hn0 : n ≤ 0) (ss : List ByteArray) (p : Int) (w : World) (hn : n ≤ maxLen) (hnil : a = none → n = 0 ∧ cap = 0) (hr : StrRow w a n ss) :
    Calls Try.prog 3 #[.string t, .string c, .string s, .slice a n cap, .string x, .int .i64 p] w fun e w' => e = .returned (.bool true) ∧ Below w.heap.size w w' := by
  have HR : Hid (StrRow w a n ss) := hr
  have HN : Hid (a = none → n = 0 ∧ cap = 0) := hnil
  have HM : Hid (n ≤ maxLen) := hn
  have HL : Hid (ss.length = n) := hr.1
  clear hnil hn hr
  obtain ⟨i0, hi, hz0, hz1, hz2⟩ := info_parts Try.info9
  go_enter Try.func3, Try.ntmps3
  go_wp2_with fail
  refine (bytes1 t c s x _ n cap ss p w HM.out HR.out).mono ?_
  rintro e w' ⟨⟨r, rfl⟩, rfl⟩
  cases r with
  | false =>
    go_wp2
    go_ret
    exact ⟨rfl, Below.refl _ _⟩
  | true =>
  go_wp2_with fail
  refine (sizeOK t c s x _ n cap ss _ HM.out HR.out).mono ?_
  rintro e w' ⟨⟨r, rfl, hfit⟩, rfl⟩
  cases r with
  | false =>
    go_wp2
    go_ret
    exact ⟨rfl, Below.refl _ _⟩
  | true =>
  have hn : n ≤ 65536 := hfit rfl
  clear hfit
  by_cases hp0 : p < 0
  · go_wp2
    go_ret
    exact ⟨rfl, Below.refl _ _⟩
  obtain ⟨q, rfl⟩ := Int.eq_ofNat_of_zero_le (Int.not_lt.1 hp0)
  have hd0 : decide ((q : Int) < 0) = false := by simp
  clear hp0
  by_cases hpn : n < q
  · go_wp2
    go_ret
    exact ⟨rfl, Below.refl _ _⟩
  have hd1 : decide ((n : Int) < (q : Int)) = false := by simp; omega
  go_wp2_with fail
  refine (clone_any _ n cap ss _ hn HN.out (HR.out.alloc _)).mono ?_
  rintro e w1 ⟨a', rfl, hcl⟩
  have HCL : Hid (Cloned (w'.alloc (.cells #[.string t, .string c, .string s, .slice a n cap] 26)) w1 a' n ss) := hcl
  clear hcl
  go_wp2_with (refine wpList_make_own _ rfl _ _ 22 rfl (w1.heap.size + 1) 9 i0 _ 1 Try.underlying22 hi hz0 hz1 .i64 .i64 ((n : Int) + 1) (n + 1) rfl rfl (by omega) (by rw [hz2]; omega) (by unfold maxLen; omega) (by simp) ?_)
  intro w2 hown hgrow
  obtain ⟨W1, hW1⟩ : ∃ W1, W1 = w1.alloc (Obj.cells #[Value.string t, Value.string c, Value.string s, Value.slice a' n n] 26) := ⟨_, rfl⟩
  have HB2 : Hid (Below (w1.heap.size + 1) W1 w2) := by rw [hW1]; exact (Below.refl _ _).grown hgrow (by simp) (fun k h => by cases h)
  have HO : Hid (w2.ownsRow (w1.heap.size + 1) 9 1 (.slice (some ⟨w1.heap.size + 1, 0, none⟩) 0 (n + 1)) 0 (strsOf (ss.take 0))) := hown
  have HKA : Hid (∀ wr, Below (w1.heap.size + 1) W1 wr → Kept w' w1 wr t c s a a' n cap ss) := fun wr h => Kept.of HR.out HCL.out hW1 h
  clear hown hgrow hW1
  go_wp2
  go_loopw [15, 16] (fun v i wr => ∃ k : Nat, k ≤ q ∧ i = .int .i64 k ∧ v = .slice (some ⟨w1.heap.size + 1, 0, none⟩) k (n + 1) ∧ Hid (wr.ownsRow (w1.heap.size + 1) 9 1 (.slice (some ⟨w1.heap.size + 1, 0, none⟩) k (n + 1)) k (strsOf (ss.take k))) ∧ Hid (Below (w1.heap.size + 1) W1 wr)) (fun _ i _ => q - (intOf i).toNat)
  case atStart => exact ⟨0, Nat.zero_le _, rfl, rfl, HO, HB2⟩
  case round =>
  obtain ⟨k, hk, rfl, rfl, HX, HB⟩ := hrel
  have HK : Hid (Kept w' w1 wr t c s a a' n cap ss) := HKA.out wr HB.out
  have hws : w1.heap.size < wr.heap.size := HK.out.sz
  by_cases hlt : k < q
  · exfalso; omega
  obtain rfl : k = q := by omega
  go_wp2_with (at_builtin; refine wpList_append_fits _ rfl (.tmp 77) (.tmp 79) 22 rfl (w1.heap.size + 1) 9 i0 1 Try.underlying22 hi hz1 (w1.heap.size + 1) k (n + 1) _ rfl (HX.out.alloc _) ⟨wr.heap.size, 0, none⟩ 1 1 [.string x] rfl rfl (cell_one_new _ _ _) (by simp [Value.oneCell']) (by omega) ?_)
  intro w3 hown3 hgrow3
  have HO3 : Hid (w3.ownsRow (w1.heap.size + 1) 9 1 (.slice (some ⟨w1.heap.size + 1, 0, none⟩) (k + 1) (n + 1)) (k + 1) (strsOf ((ins ss k x).take (k + 1)))) := by
    rw [← ins_first HL.out (by omega)]; exact hown3
  have HB3 : Hid (Below (w1.heap.size + 1) W1 w3) := (HB.out.alloc (by omega) _).grown hgrow3 (by simp; omega) (fun k h => by cases h; exact Nat.le_refl _)
  clear hown3 hgrow3 HX HB HK hws HO HB2
  go_wp2
  obtain ⟨wo, hwo⟩ : ∃ wo, wo = wr.heap.size := ⟨_, rfl⟩
  rw [← hwo]
  clear hwo wr
  go_loopw [15, 17] (fun v i wr => ∃ m : Nat, k ≤ m ∧ m ≤ n ∧ i = .int .i64 m ∧ v = .slice (some ⟨w1.heap.size + 1, 0, none⟩) (m + 1) (n + 1) ∧ Hid (wr.ownsRow (w1.heap.size + 1) 9 1 (.slice (some ⟨w1.heap.size + 1, 0, none⟩) (m + 1) (n + 1)) (m + 1) (strsOf ((ins ss k x).take (m + 1)))) ∧ Hid (Below (w1.heap.size + 1) W1 wr)) (fun _ i _ => n - (intOf i).toNat)
  case atStart => exact ⟨k, Nat.le_refl _, by omega, rfl, rfl, HO3, HB3⟩
  case round =>
  obtain ⟨m, hkm, hmn, rfl, rfl, HX, HB⟩ := hrel
  have HK : Hid (Kept w' w1 wr t c s a a' n cap ss) := HKA.out wr HB.out
  have hws : w1.heap.size < wr.heap.size := HK.out.sz
  by_cases hlt2 : m < n
  · exfalso; omega
  obtain rfl : m = n := by omega
  have HI : Hid (StrRow wr (some ⟨w1.heap.size + 1, 0, none⟩) (m + 1) (ins ss k x)) := by
    refine ⟨ins_length HL.out, .inr ⟨_, 0, rfl, own_lt HX.out, fun j hj => ?_⟩⟩
    rw [Nat.zero_add, HX.out.cellAt j (by omega), List.take_of_length_le (by rw [ins_length HL.out]; omega), strsOf, List.getElem?_map]
    rw [List.getD, List.getElem?_eq_getElem (by rw [ins_length HL.out]; exact hj)]; rfl
  have hb0 : w'.heap.size < wr.heap.size := Nat.lt_trans HK.out.lt HK.out.sz
  have HO5 : Hid (boxAt wr w'.heap.size t c s (.slice a m cap)) := ⟨HK.out.o 0, HK.out.o 1, HK.out.o 2, HK.out.o 3, hb0⟩
  have HC5 : Hid (boxAt wr w1.heap.size t c s (.slice a' m m)) := ⟨HK.out.c 0, HK.out.c 1, HK.out.c 2, HK.out.c 3, hws⟩
  have s1 := sameB_self t c s ss
  have s2 : sameB t c s ss t c s (ins ss k x) = false := sameB_n HL.out (ins_length HL.out) (by omega)
  have s3 : sameB t c s (ins ss k x) t c s ss = false := sameB_n (ins_length HL.out) HL.out (by omega)
  have s4 := sameB_self t c s []
  have HE : Hid (∀ (W : World) (a : Option Addr), StrRow W a 0 []) := fun _ _ => ⟨rfl, .inl rfl⟩
  have HBW : Hid (Below w'.heap.size w' wr) := HK.out.below
  have four : ∀ o1 o2 o3 o4, boxAt ((((wr.alloc o1).alloc o2).alloc o3).alloc o4) w'.heap.size t c s (.slice a m cap) ∧ boxAt ((((wr.alloc o1).alloc o2).alloc o3).alloc o4) w1.heap.size t c s (.slice a' m m) :=
    fun o1 o2 o3 o4 => ⟨(((HO5.out.alloc o1).alloc o2).alloc o3).alloc o4, (((HC5.out.alloc o1).alloc o2).alloc o3).alloc o4⟩
  have o0 := fun o1 o2 o3 o4 => (four o1 o2 o3 o4).1.1
  have o1 := fun o1 o2 o3 o4 => (four o1 o2 o3 o4).1.2.1
  have o2 := fun o1 o2 o3 o4 => (four o1 o2 o3 o4).1.2.2.1
  have o3 := fun o1 o2 o3 o4 => (four o1 o2 o3 o4).1.2.2.2.1
  have c0 := fun o1 o2 o3 o4 => (four o1 o2 o3 o4).2.1
  have c1 := fun o1 o2 o3 o4 => (four o1 o2 o3 o4).2.2.1
  have c2 := fun o1 o2 o3 o4 => (four o1 o2 o3 o4).2.2.2.1
  have c3 := fun o1 o2 o3 o4 => (four o1 o2 o3 o4).2.2.2.2.1
  clear four HO3 HB3 HKA HCL
  have hmL : m ≤ maxLen := HM.out
  have HML : Hid (m ≤ maxLen) := hmL
  clear hmL
  go_wp2_with fail
  refine (equal_any t c s t c s _ _ m cap m m ss ss _ HML.out ((((HK.out.row.alloc _).alloc _).alloc _).alloc _) ((((HK.out.row'.alloc _).alloc _).alloc _).alloc _)).mono ?_
  rintro e u1 ⟨rfl, hu⟩
  have R1 : Hid (Ready w' u1 w'.heap.size w1.heap.size wr.heap.size (wr.heap.size + 1) (wr.heap.size + 1 + 1 + 1) t c s a a' (some ⟨w1.heap.size + 1, 0, none⟩) (some ⟨wr.heap.size + 1 + 1, 0, none⟩) m cap ss (ins ss k x)) :=
    Ready.step ⟨((((HBW.out.alloc (by omega) _).alloc (by simp; omega) _).alloc (by simp; omega) _).alloc (by simp; omega) _), (((HO5.out.alloc _).alloc _).alloc _).alloc _, (((HC5.out.alloc _).alloc _).alloc _).alloc _,
      (((boxAt.new _ _ t c s _ rfl).alloc _).alloc _).alloc _, ((boxAt.new _ _ t c s _ (by simp)).alloc _).alloc _, boxAt.new _ _ t c s _ (by simp),
      (((HK.out.row.alloc _).alloc _).alloc _).alloc _, (((HK.out.row'.alloc _).alloc _).alloc _).alloc _, (((HI.out.alloc _).alloc _).alloc _).alloc _⟩ hu
  clear hu o0 o1 o2 o3 c0 c1 c2 c3 HK HI HO5 HC5 HBW HX HB HE
  obtain ⟨a0, a1, a2, a3, al⟩ := R1.out.C
  obtain ⟨b0, b1, b2, b3, bl⟩ := R1.out.O
  go_wp2_with fail
  refine (equal_any t c s t c s _ _ m m m cap ss ss _ HML.out R1.out.rc R1.out.ro).mono ?_
  rintro e u2 ⟨rfl, hu⟩
  have R2 := Ready.step R1.out hu
  have R2 : Hid (Ready w' u2 w'.heap.size w1.heap.size wr.heap.size (wr.heap.size + 1) (wr.heap.size + 1 + 1 + 1) t c s a a' (some ⟨w1.heap.size + 1, 0, none⟩) (some ⟨wr.heap.size + 1 + 1, 0, none⟩) m cap ss (ins ss k x)) := R2
  clear hu a0 a1 a2 a3 al b0 b1 b2 b3 bl R1
  obtain ⟨a0, a1, a2, a3, al⟩ := R2.out.O
  obtain ⟨b0, b1, b2, b3, bl⟩ := R2.out.D
  go_wp2_with fail
  refine (equal_any t c s t c s _ _ m cap (m + 1) (m + 1) ss (ins ss k x) _ HML.out R2.out.ro R2.out.ri).mono ?_
  rintro e u3 ⟨rfl, hu⟩
  have R3 := Ready.step R2.out hu
  have R3 : Hid (Ready w' u3 w'.heap.size w1.heap.size wr.heap.size (wr.heap.size + 1) (wr.heap.size + 1 + 1 + 1) t c s a a' (some ⟨w1.heap.size + 1, 0, none⟩) (some ⟨wr.heap.size + 1 + 1, 0, none⟩) m cap ss (ins ss k x)) := R3
  clear hu a0 a1 a2 a3 al b0 b1 b2 b3 bl R2
  obtain ⟨a0, a1, a2, a3, al⟩ := R3.out.D
  obtain ⟨b0, b1, b2, b3, bl⟩ := R3.out.O
  go_wp2_with fail
  refine (equal_any t c s t c s _ _ (m + 1) (m + 1) m cap (ins ss k x) ss _ (by unfold maxLen; omega) R3.out.ri R3.out.ro).mono ?_
  rintro e u4 ⟨rfl, hu⟩
  have R4 := Ready.step R3.out hu
  have R4 : Hid (Ready w' u4 w'.heap.size w1.heap.size wr.heap.size (wr.heap.size + 1) (wr.heap.size + 1 + 1 + 1) t c s a a' (some ⟨w1.heap.size + 1, 0, none⟩) (some ⟨wr.heap.size + 1 + 1, 0, none⟩) m cap ss (ins ss k x)) := R4
  clear hu a0 a1 a2 a3 al b0 b1 b2 b3 bl R3
  obtain ⟨a0, a1, a2, a3, al⟩ := R4.out.E
  obtain ⟨b0, b1, b2, b3, bl⟩ := R4.out.F
  go_wp2_with fail
  refine (equal_any t c s t c s _ _ 0 0 0 0 [] [] _ (by unfold maxLen; omega) (StrRow.empty _ _) (StrRow.empty _ _)).mono ?_
  rintro e u5 ⟨rfl, hu⟩
  have R5 := Ready.step R4.out hu
  have R5 : Hid (Ready w' u5 w'.heap.size w1.heap.size wr.heap.size (wr.heap.size + 1) (wr.heap.size + 1 + 1 + 1) t c s a a' (some ⟨w1.heap.size + 1, 0, none⟩) (some ⟨wr.heap.size + 1 + 1, 0, none⟩) m cap ss (ins ss k x)) := R5
  clear hu a0 a1 a2 a3 al b0 b1 b2 b3 bl R4
  obtain ⟨a0, a1, a2, a3, al⟩ := R5.out.F
  obtain ⟨b0, b1, b2, b3, bl⟩ := R5.out.E
  go_wp2_with fail
  refine (equal_any t c s t c s _ _ 0 0 0 0 [] [] _ (by unfold maxLen; omega) (StrRow.empty _ _) (StrRow.empty _ _)).mono ?_
  rintro e u6 ⟨rfl, hu⟩
  have R6 := Ready.step R5.out hu
  have R6 : Hid (Ready w' u6 w'.heap.size w1.heap.size wr.heap.size (wr.heap.size + 1) (wr.heap.size + 1 + 1 + 1) t c s a a' (some ⟨w1.heap.size + 1, 0, none⟩) (some ⟨wr.heap.size + 1 + 1, 0, none⟩) m cap ss (ins ss k x)) := R6
  clear hu a0 a1 a2 a3 al b0 b1 b2 b3 bl R5
  go_wp2
  go_ret
  exact ⟨rfl, R6.out.below⟩
/-- THE WALK, whatever slice. -/
theorem law1_walk (t c s x : ByteArray) (a : Option Addr) (n cap : Nat) (ss : List ByteArray) (p : Int) (w : World) (hn : n ≤ maxLen) (hnil : a = none → n = 0 ∧ cap = 0) (hr : StrRow w a n ss) :
    Calls Try.prog 3 #[.string t, .string c, .string s, .slice a n cap, .string x, .int .i64 p] w fun e w' => e = .returned (.bool true) ∧ Below w.heap.size w w' := by
  have hr0 := hr
  rcases hr.2 with h0 | ⟨b, off, rfl, hb, hc⟩
  · exact law1_empty t c s x a n cap (Nat.le_of_eq h0) ss p w hn hnil hr0
  · exact law1_row t c s x b off n cap ss p w hn hnil hr0 hb hc
end Go.Proofs.Qxb6628777a
