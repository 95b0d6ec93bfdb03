/-
  The walk of 'zzBuild' (7).
-/
import Derived.Test.Qxb6628906aCat
import Derived.Test.Qxb6628906aIndex
import Derived.Lib.ConvBytes
import Derived.OwnWalk
import Derived.Deep.Cut
set_option linter.unusedVariables false
namespace Go.Proofs.Qxb6628906a
open Go.RowKit

theorem info5 : (Try.prog.info? 5).map (fun i => (i.zero, i.size, i.bytes)) = some (some (.int .u8 0), 1, 1) := by kernel_rfl
theorem info3 : (Try.prog.info? 3).map (fun i => (i.zero, i.size, i.bytes)) = some (some (.int .i64 0), 1, 8) := by kernel_rfl
theorem info37 : (Try.prog.info? 37).map (fun i => (i.zero, i.size, i.bytes)) = some (some (.int .u64 0), 1, 8) := by kernel_rfl
theorem info40 : (Try.prog.info? 40).map (fun i => (i.zero, i.size, i.bytes)) = some (some (.int .u32 0), 1, 4) := by kernel_rfl

/-- A row that was made whole holds zeros. -/
theorem made_row {w : World} {base e g n : Nat} {z : Value} (h : w.ownsRow base e 1 (.slice (some ⟨g, 0, none⟩) n n) n (madeCells #[z] n).toList) : w.heap[g]? = some (.cells (List.replicate n z).toArray e (0, 0)) := by
  rcases h.2 with ⟨h', _⟩ | ⟨g', cap', cur, h', _, hg, _, _, hs, ht⟩
  · simp at h'
  · simp only [Value.slice.injEq, Option.some.injEq, Addr.mk.injEq, and_true, true_and] at h'
    obtain ⟨rfl, rfl⟩ := h'
    rw [toList_madeCells_one, Nat.mul_one] at ht
    rw [Nat.mul_one] at hs
    rw [List.take_of_length_le (by rw [Array.length_toList, hs]; exact Nat.le_refl _)] at ht
    rw [← ht]; exact hg
theorem own_buf {w : World} {base g cap : Nat} {ss : List ByteArray} (h : w.ownsRow base 5 1 (.slice (some ⟨g, 0, none⟩) 0 cap) 0 []) : BufAt w g cap ss 0 := by
  rcases h.2 with ⟨h', _⟩ | ⟨g', cap', cur, h', _, hg, _, _, hs, _⟩
  · simp at h'
  · simp only [Value.slice.injEq, Option.some.injEq, Addr.mk.injEq, and_true, true_and] at h'
    obtain ⟨rfl, rfl⟩ := h'
    exact ⟨cur, hg, by rw [hs, Nat.mul_one], by simp [tot, cat]⟩

theorem wp_app' {P : Program} (w : World) {ops : Array Oper} {rest : List Oper} {o : Oper} {a : Act} {Q : Exit → Act → World → Prop} (hgd : o.guard = none) (sl x : Operand) (t u : TypeId)
    (ho : o.op = .call { callee := .builtin .append, args := #[sl, x], argTypes := #[t, u] })
    (i : TypeInfo) (ht : P.underlying t = some (.slice 5)) (hu : P.underlying u = some .string) (hi : P.info? 5 = some i) (hsize : i.size = 1)
    (g cap : Nat) (ss : List ByteArray) (k tj : Nat) (s : ByteArray) (htj : tj = tot ss k) (hsk : s = key ss k) (hs : a.eval sl = .slice (some ⟨g, 0, none⟩) tj cap) (hx : a.eval x = .string s) (hown : BufAt w g cap ss k) (hroom : tot ss (k + 1) ≤ cap)
    (h : ∀ w', BufAt w' g cap ss (k + 1) → w'.os = w.os → w'.tape = w.tape → w'.output = w.output → w'.heap.size = w.heap.size → (∀ j, j ≠ g → w'.heap[j]? = w.heap[j]?) → wpList P ops Q rest (a.put o.dst (.slice (some ⟨g, 0, none⟩) (tj + s.size) cap)) w') : wpList P ops Q (o :: rest) a w := by
  subst htj
  subst hsk
  exact wp_app w hgd sl x t u ho i ht hu hi hsize g cap ss k hs hx hown hroom h

/-- The ends as far as they are laid. -/
def EndsAt (w : World) (g n : Nat) (ss : List ByteArray) (j : Nat) : Prop := ∃ E : List Nat, w.heap[g]? = some (.cells (i64s E) 3 (0, 0)) ∧ E.length = n ∧ ∀ i, i < j → at' E i = tot ss (i + 1)
theorem EndsAt.zero {w : World} {g n : Nat} {ss : List ByteArray} (h : w.heap[g]? = some (.cells (List.replicate n (Value.int .i64 0)).toArray 3 (0, 0))) : EndsAt w g n ss 0 :=
  ⟨List.replicate n 0, by rw [i64s, List.map_replicate]; exact h, by simp, fun i h => by omega⟩
theorem EndsAt.cell {w : World} {g n : Nat} {ss : List ByteArray} {j : Nat} (h : EndsAt w g n ss j) (i : Nat) (hi : i < n) : ∃ v, w.cell? ⟨g, i, none⟩ = some v := by
  obtain ⟨E, hg, hl, _⟩ := h
  rw [cell_of_row w g i _ _ _ hg]
  simp [hl, hi]
theorem EndsAt.frozen {w : World} {g n : Nat} {ss : List ByteArray} {j : Nat} (h : EndsAt w g n ss j) (i : Nat) : w.frozen? ⟨g, i, none⟩ = false := by
  obtain ⟨E, hg, hl, _⟩ := h
  exact frozen_of_row w g i _ _ hg
theorem EndsAt.step {w : World} {g n : Nat} {ss : List ByteArray} {j t : Nat} (h : EndsAt w g n ss j) (hj : j < n) (ht : t = tot ss (j + 1)) : EndsAt (w.setCell ⟨g, j, none⟩ (.int .i64 (t : Int))) g n ss (j + 1) := by
  obtain ⟨E, hg, hl, he⟩ := h
  refine ⟨E.set j t, ?_, by rw [List.length_set, hl], fun i hi => ?_⟩
  · rw [heap_setCell_same w g j _ _ _ hg]
    simp [i64s, List.map_set]
  · rw [at_set E j t i (by omega)]
    by_cases e : i = j
    · rw [if_pos e, e, ht]
    · rw [if_neg e]; exact he i (by omega)

theorem BufAt.other {w w' : World} {g cap : Nat} {ss : List ByteArray} {k : Nat} (h : BufAt w g cap ss k) (e : w'.heap[g]? = w.heap[g]?) : BufAt w' g cap ss k := by
  obtain ⟨cur, hg, h1, h2⟩ := h
  exact ⟨cur, e.trans hg, h1, h2⟩
theorem EndsAt.other {w w' : World} {g n : Nat} {ss : List ByteArray} {k : Nat} (h : EndsAt w g n ss k) (e : w'.heap[g]? = w.heap[g]?) : EndsAt w' g n ss k := by
  obtain ⟨E, hg, h1, h2⟩ := h
  exact ⟨E, e.trans hg, h1, h2⟩

section
variable {w : World} {b fb eb tb : Nat} {F : List Nat} {T : ByteArray} {E tab : List Nat}
theorem SetAt.setTab (h : SetAt w b fb eb tb F T E tab) (h1 : b ≠ tb) (h2 : fb ≠ tb) (h3 : eb ≠ tb) (p v : Nat) : SetAt (w.setCell ⟨tb, p, none⟩ (.int .u32 (v : Int))) b fb eb tb F T E (tab.set p v) where
  hb := by rw [Below.heap_setCell _ _ _ _ (by exact h1), List.length_set]; exact h.hb
  hf := by rw [Below.heap_setCell _ _ _ _ (by exact h2)]; exact h.hf
  he := by rw [Below.heap_setCell _ _ _ _ (by exact h3)]; exact h.he
  ht := by rw [heap_setCell_same w tb p _ _ _ h.ht]; simp [u32s, List.map_set]
theorem SetAt.setFil (h : SetAt w b fb eb tb F T E tab) (h1 : b ≠ fb) (h2 : tb ≠ fb) (h3 : eb ≠ fb) (p v : Nat) : SetAt (w.setCell ⟨fb, p, none⟩ (.int .u64 (v : Int))) b fb eb tb (F.set p v) T E tab where
  hb := by rw [Below.heap_setCell _ _ _ _ (by exact h1), List.length_set]; exact h.hb
  hf := by rw [heap_setCell_same w fb p _ _ _ h.hf]; simp [u64s, List.map_set]
  he := by rw [Below.heap_setCell _ _ _ _ (by exact h3)]; exact h.he
  ht := by rw [Below.heap_setCell _ _ _ _ (by exact h2)]; exact h.ht
theorem SetAt.tz (h : SetAt w b fb eb tb F T E tab) (p : Nat) : w.frozen? ⟨tb, p, none⟩ = false := frozen_of_row w tb p _ _ h.ht
theorem SetAt.fz (h : SetAt w b fb eb tb F T E tab) (p : Nat) : w.frozen? ⟨fb, p, none⟩ = false := frozen_of_row w fb p _ _ h.hf
theorem SetAt.lt (h : SetAt w b fb eb tb F T E tab) : b < w.heap.size := (Array.getElem?_eq_some_iff.1 h.hb).1
end
theorem setBit_lt {F : List Nat} (h : ∀ j, at' F j < 18446744073709551616) (a : Nat) (ha : a < 64 * F.length) : ∀ j, at' (setBit F a) j < 18446744073709551616 := fun j => by
  unfold setBit
  rw [at_set F _ _ _ (by omega)]
  split
  · exact Nat.or_lt_two_pow (n := 64) (h _) (pow_lt64 _ (by omega))
  · exact h j
theorem bytes_below (w : World) (s : ByteArray) : Below w.heap.size w (Lib.bytesWorld w 5 s) := ⟨rfl, rfl, rfl, by rw [Lib.bytesWorld_size]; omega, fun k hk => Lib.bytesWorld_at_old w 5 s k hk⟩
theorem bytes_row (w : World) (s : ByteArray) : ByteRow (Lib.bytesWorld w 5 s) (some ⟨w.heap.size, 0, none⟩) s.size (ints s) := by
  refine ⟨ints_length s, .inr ⟨w.heap.size, 0, rfl, by rw [Lib.bytesWorld_size]; omega, fun j hj => ?_⟩⟩
  rw [Nat.zero_add, Lib.bytesWorld_cell w 5 s j hj]
  have hj' : j < s.data.toList.length := by simpa using hj
  simp only [ints, List.getD, List.getElem?_map, List.getElem?_eq_getElem hj', Option.map_some, Option.getD_some]

/-- What zzBuild hands back: at b the set of the first n ids. -/
def Built (ss : List ByteArray) (n : Nat) (w : World) (b : Nat) : Prop := ∃ (fb eb tb : Nat) (F E tab : List Nat) (ex : Nat), SetAt w b fb eb tb F (txt ss n) E tab ∧ Spells ss (txt ss n) E ∧ E.length = n ∧ tab.length = 2 ^ ex ∧ tab.length ≤ 262146 ∧ n < tab.length ∧ 1 ≤ F.length ∧ F.length ≤ 262146 ∧ (∀ q, at' F q < 18446744073709551616) ∧
  Inv ss tab tab.length (fun x => H x / 65536) n ∧ FInv ss F (fun x => bitA F.length (H x)) (fun x => bitB F.length (H x)) n
theorem FInv.step {ss : List ByteArray} {F : List Nat} {fw j A B : Nat} (h : FInv ss F (fun x => bitA fw (H x)) (fun x => bitB fw (H x)) j) (hA : A = bitA fw (H (key ss j))) (hB : B = bitB fw (H (key ss j))) (hAl : A < 64 * F.length) (hBl : B < 64 * F.length) :
    FInv ss (setBit (setBit F A) B) (fun x => bitA fw (H x)) (fun x => bitB fw (H x)) (j + 1) := by
  subst hA
  subst hB
  exact FInv.set (ba := fun x => bitA fw (H x)) (bb := fun x => bitB fw (H x)) h hAl hBl

set_option maxHeartbeats 8000000 in
set_option maxRecDepth 100000 in
theorem build_any (a : Option Addr) (n cap : Nat) (ss : List ByteArray) (w : World) (hn : n ≤ 65536) (htot : tot ss n ≤ 1048576) (hsz : ∀ j, j < n → (key ss j).size ≤ 1048576) (hr : StrRow w a n ss) :
    Calls Try.prog 7 #[.slice a n cap] w fun e w' => (∃ b, e = .returned (.pointer (some ⟨b, 0, none⟩)) ∧ Built ss n w' b) ∧ Below w.heap.size w w' := by
  obtain ⟨i5, hi5, hz5, hs5, hb5⟩ := info_parts info5
  obtain ⟨i3, hi3, hz3, hs3, hb3⟩ := info_parts info3
  obtain ⟨i37, hi37, hz37, hs37, hb37⟩ := info_parts info37
  obtain ⟨i40, hi40, hz40, hs40, hb40⟩ := info_parts info40
  have HR : Hid (StrRow w a n ss) := hr
  have HT : Hid (tot ss n ≤ 1048576) := htot
  have HSZ : Hid (∀ j, j < n → (key ss j).size ≤ 1048576) := hsz
  clear hr hsz htot
  go_enter Try.func7, Try.ntmps7
  go_wp2
  go_loop [4, 5] (fun t i => ∃ k tk : Nat, k ≤ n ∧ tk ≤ 1048576 ∧ t = .int .i64 (tk : Int) ∧ i = .int .i64 (k : Int) ∧ Hid (tk = tot ss k)) (fun _ i => n - (intOf i).toNat)
  case atStart => exact ⟨0, 0, by omega, by omega, rfl, rfl, rfl⟩
  case round =>
  obtain ⟨k, tk, hk, htk, rfl, rfl, HTK⟩ := hrel
  by_cases hlt : k < n
  · obtain ⟨b, off, ha, hb, hc⟩ := HR.out.2.resolve_left (by omega)
    subst ha
    obtain ⟨s, hs⟩ : ∃ s, s = key ss k := ⟨_, rfl⟩
    have hcell : w.cell? ⟨b, off + k, none⟩ = some (.string s) := by rw [hs]; exact hc k hlt
    have hss : s.size ≤ 1048576 := by rw [hs]; exact HSZ.out k hlt
    have HN : Hid (tk + s.size = tot ss (k + 1)) := by show _ = _; rw [tot, hs, HTK.out]
    have hnb : tk + s.size ≤ 1048576 := by rw [HN.out]; exact Nat.le_trans (tot_le ss (by omega)) HT.out
    clear hs hc
    go_wp2
    go_round
    case rel => exact ⟨k + 1, tk + s.size, by omega, hnb, by first | rfl | (refine congrArg (Value.int .i64) ?_; omega), by first | rfl | (refine congrArg (Value.int .i64) ?_; omega), HN⟩
    case measure => simp [intOf]; omega
  have hkn : n = k := by omega
  subst hkn
  clear hlt hk
  go_wp2_with (refine wpList_make_own _ rfl _ _ 23 rfl w.heap.size 5 i5 _ 1 Try.underlying23 hi5 hz5 hs5 .i64 .i64 (tk : Int) tk rfl rfl rfl (by rw [hb5]; omega) (by unfold maxLen; omega) (Nat.le_refl _) ?_)
  intro w1 hown1 hgrow1
  have B1 : Hid (Below w.heap.size w w1) := (Below.refl _ _).grown hgrow1 (Nat.le_refl _) (fun k h => by cases h)
  have BF1 : Hid (BufAt w1 w.heap.size tk ss 0) := own_buf hown1
  have hs1 : w.heap.size < w1.heap.size := by obtain ⟨cur, hg, _⟩ := BF1.out; exact (Array.getElem?_eq_some_iff.1 hg).1
  clear hown1 hgrow1
  go_wp2_with (refine wpList_make_full _ rfl _ _ 32 rfl w1.heap.size 3 i3 _ 1 Try.underlying32 hi3 hz3 hs3 .i64 .i64 (n : Int) (n : Int) n rfl rfl rfl rfl (by rw [hb3]; omega) (by unfold maxLen; omega) (Nat.le_refl _) ?_)
  intro w2 hown2 hgrow2
  have B2 : Hid (Below w1.heap.size w1 w2) := (Below.refl _ _).grown hgrow2 (Nat.le_refl _) (fun k h => by cases h)
  have BF2 : Hid (BufAt w2 w.heap.size tk ss 0) := by
    obtain ⟨cur, hg, h1, h2⟩ := BF1.out
    exact ⟨cur, (B2.out.block _ hs1).trans hg, h1, h2⟩
  have EN2 : Hid (w2.heap[w1.heap.size]? = some (.cells (List.replicate n (Value.int .i64 0)).toArray 3 (0, 0))) := made_row hown2
  have B2w : Hid (Below w.heap.size w w2) := B1.out.trans (B2.out.mono B1.out.size)
  clear hown2 hgrow2 BF1 B1 B2
  have hs2 : w1.heap.size < w2.heap.size := (Array.getElem?_eq_some_iff.1 EN2.out).1
  have E2 : Hid (EndsAt w2 w1.heap.size n ss 0) := EndsAt.zero EN2.out
  clear EN2
  obtain ⟨gb, hgb⟩ : ∃ gb, gb = w.heap.size := ⟨_, rfl⟩
  obtain ⟨ge, hge⟩ : ∃ ge, ge = w1.heap.size := ⟨_, rfl⟩
  rw [← hgb] at BF2
  rw [← hge] at E2
  rw [← hgb, ← hge]
  have hgbe : gb < ge := by omega
  have hge2 : ge < w2.heap.size := by omega
  have HGB : Hid (gb = w.heap.size) := hgb
  clear hgb hge hs1 hs2
  go_wp2
  go_loopw [6, 8] (fun v i wr => ∃ j tj : Nat, j ≤ n ∧ tj ≤ 1048576 ∧ v = .slice (some ⟨gb, 0, none⟩) tj tk ∧ i = .int .i64 (j : Int) ∧ Hid (tj = tot ss j) ∧ Hid (BufAt wr gb tk ss j) ∧ Hid (EndsAt wr ge n ss j) ∧ Hid (Below w.heap.size w wr)) (fun _ i _ => n - (intOf i).toNat)
  case atStart => exact ⟨0, 0, by omega, by omega, rfl, rfl, rfl, BF2, E2, B2w⟩
  case round =>
  obtain ⟨j, tj, hj, htj, rfl, rfl, HTJ, BF, EN, BW⟩ := hrel
  by_cases hlt : j < n
  · obtain ⟨b, off, ha, hb, hc⟩ := HR.out.2.resolve_left (by omega)
    subst ha
    obtain ⟨s, hs⟩ : ∃ s, s = key ss j := ⟨_, rfl⟩
    have hcell : wr.cell? ⟨b, off + j, none⟩ = some (.string s) := by rw [hs, BW.out.cell (p := ⟨b, off + j, none⟩) hb]; exact hc j hlt
    have hss : s.size ≤ 1048576 := by rw [hs]; exact HSZ.out j hlt
    have HS : Hid (s = key ss j) := hs
    have HN : Hid (tj + s.size = tot ss (j + 1)) := by show _ = _; rw [tot, hs, HTJ.out]
    have hnb : tj + s.size ≤ 1048576 := by rw [HN.out]; exact Nat.le_trans (tot_le ss (by omega)) HT.out
    clear hs hc
    go_wp2_with (at_builtin; refine wp_app' _ rfl (.tmp 43) (.tmp 47) 23 9 rfl i5 Try.underlying23 Try.underlying9 hi5 hs5 gb tk ss j tj s HTJ.out HS.out rfl rfl BF.out (by rw [HTK.out]; exact tot_le ss (by omega)) ?_)
    intro w3 hbuf e1 e2 e3 e4 e5
    have BF3 : Hid (BufAt w3 gb tk ss (j + 1)) := hbuf
    have EN3 : Hid (EndsAt w3 ge n ss j) := by
      obtain ⟨E, hg, h1, h2⟩ := EN.out
      exact ⟨E, (e5 ge (by omega)).trans hg, h1, h2⟩
    have BW3 : Hid (Below w.heap.size w w3) := BW.out.trans ⟨e1, e2, e3, by omega, fun k hk => e5 k (by rw [HGB.out]; omega)⟩
    obtain ⟨old, hold⟩ := EN3.out.cell j hlt
    have hfr := EN3.out.frozen j
    clear hbuf e1 e2 e3 e4 e5
    have hcast : ((tj : Int) + (s.size : Int)) = ((tj + s.size : Nat) : Int) := by omega
    have HCAST : Hid (((tj : Int) + (s.size : Int)) = ((tj + s.size : Nat) : Int)) := hcast
    clear hcast
    go_wp2
    go_roundw
    case rel =>
      refine ⟨j + 1, tj + s.size, by omega, hnb, rfl, congrArg (Value.int .i64) (by omega), HN, ?_, ?_, ?_⟩
      · exact BF3.out.other (Below.heap_setCell _ _ _ _ (by show gb ≠ ge; omega))
      · show EndsAt _ _ _ _ _
        rw [HCAST.out]; exact EN3.out.step hlt HN.out
      · exact BW3.out.setCell (by show w.heap.size ≤ ge; rw [← HGB.out]; omega) _
    case measure => simp [intOf]; omega
  have hjn : n = j := by omega
  subst hjn
  clear hlt hj BF2 E2 B2w
  have htt : tj = tk := by rw [HTJ.out, HTK.out]
  subst htt
  obtain ⟨wo, hwo⟩ : ∃ wo, wo = wr := ⟨_, rfl⟩
  rw [← hwo]
  rw [← hwo] at BF EN BW
  clear hwo HTJ
  go_wp2
  go_loop [9] (fun v => ∃ (ex t : Nat), 1 ≤ t ∧ t ≤ 4 * n + 2 ∧ v = .int .i64 (t : Int) ∧ Hid (t = 2 ^ ex)) (fun v => 2 * n + 1 - (intOf v).toNat)
  case atStart => exact ⟨0, 1, by omega, by omega, rfl, rfl⟩
  case round =>
  obtain ⟨ex, ts, hts1, hts2, rfl, HTS⟩ := hrel
  by_cases hlt : ts < 2 * n + 1
  · go_wp2
    go_round
    case rel => exact ⟨ex + 1, ts * 2, by omega, by omega, congrArg (Value.int .i64) (by omega), by show ts * 2 = 2 ^ (ex + 1); rw [Nat.pow_succ, HTS.out]⟩
    case measure => simp [intOf]; omega
  go_wp2
  go_loop [10] (fun v => ∃ (t : Nat), 1 ≤ t ∧ t ≤ 4 * n + 2 ∧ v = .int .i64 (t : Int)) (fun v => 2 * n - (intOf v).toNat)
  case atStart => exact ⟨1, by omega, by omega, rfl⟩
  case round =>
  obtain ⟨fw, hfw1, hfw2, rfl⟩ := hrel
  by_cases hlf : fw * 64 < 2 * n
  · go_wp2
    go_round
    case rel => exact ⟨fw * 2, by omega, by omega, congrArg (Value.int .i64) (by omega)⟩
    case measure => simp [intOf]; omega
  go_wp2_with (refine wpList_make_full _ rfl _ _ 34 rfl wo.heap.size 37 i37 _ 1 Try.underlying34 hi37 hz37 hs37 .i64 .i64 (fw : Int) (fw : Int) fw rfl rfl rfl rfl (by rw [hb37]; omega) (by unfold maxLen; omega) (Nat.le_refl _) ?_)
  intro w4 hown4 hgrow4
  have BX4 : Hid (Below wo.heap.size wo w4) := (Below.refl _ _).grown hgrow4 (Nat.le_refl _) (fun k h => by cases h)
  have FI4 : Hid (w4.heap[wo.heap.size]? = some (.cells (List.replicate fw (Value.int .u64 0)).toArray 37 (0, 0))) := made_row hown4
  clear hown4 hgrow4
  go_wp2_with (refine wpList_make_full _ rfl _ _ 35 rfl w4.heap.size 40 i40 _ 1 Try.underlying35 hi40 hz40 hs40 .i64 .i64 (ts : Int) (ts : Int) ts rfl rfl rfl rfl (by rw [hb40]; omega) (by unfold maxLen; omega) (Nat.le_refl _) ?_)
  intro w5 hown5 hgrow5
  have BX5 : Hid (Below w4.heap.size w4 w5) := (Below.refl _ _).grown hgrow5 (Nat.le_refl _) (fun k h => by cases h)
  have TA5 : Hid (w5.heap[w4.heap.size]? = some (.cells (List.replicate ts (Value.int .u32 0)).toArray 40 (0, 0))) := made_row hown5
  clear hown5 hgrow5
  obtain ⟨E, hE, hEl, hEt⟩ := EN.out
  have hge3 : ge < wo.heap.size := (Array.getElem?_eq_some_iff.1 hE).1
  have hfb4 : wo.heap.size < w4.heap.size := (Array.getElem?_eq_some_iff.1 FI4.out).1
  have htb5 : w4.heap.size < w5.heap.size := (Array.getElem?_eq_some_iff.1 TA5.out).1
  have BW4 : Hid (Below w.heap.size w w4) := BW.out.trans (BX4.out.mono BW.out.size)
  have BW5 : Hid (Below w.heap.size w w5) := BW4.out.trans (BX5.out.mono BW4.out.size)
  have BF5 : Hid (BufAt w5 gb tj ss n) := (BF.out.other (BX4.out.block gb (by omega))).other (BX5.out.block gb (by omega))
  have HE5 : Hid (w5.heap[ge]? = some (.cells (i64s E) 3 (0, 0))) := ((BX5.out.block ge (by omega)).trans (BX4.out.block ge (by omega))).trans hE
  have HF5 : Hid (w5.heap[wo.heap.size]? = some (.cells (List.replicate fw (Value.int .u64 0)).toArray 37 (0, 0))) := (BX5.out.block _ hfb4).trans FI4.out
  have HSP : Hid (Spells ss (txt ss n) E) := spells HR.out.1 hEl hEt HT.out
  have HEL : Hid (E.length = n) := hEl
  obtain ⟨TX, hTX⟩ : ∃ TX, TX = txt ss n := ⟨_, rfl⟩
  have hTXs : TX.size = tj := by rw [hTX, txt_size, HTK.out]
  have hcv : (convert 23 9 (.slice (some ⟨gb, 0, none⟩) tj tj)).run Try.prog w5 = .ok (.string TX) w5 := by
    have h := conv_key (BF5.out.row (by rw [HTK.out]; exact Nat.le_refl _)) tj
    rw [← hTX, hTXs] at h
    exact h
  rw [← hTX] at HSP
  have HTX : Hid (TX = txt ss n) := hTX
  obtain ⟨fb, hfb⟩ : ∃ fb, fb = wo.heap.size := ⟨_, rfl⟩
  obtain ⟨tb, htb⟩ : ∃ tb, tb = w4.heap.size := ⟨_, rfl⟩
  rw [← htb] at TA5
  rw [← hfb] at HF5
  rw [← htb, ← hfb]
  have hef : ge < fb := by omega
  have hft : fb < tb := by omega
  have htb5' : tb < w5.heap.size := by omega
  clear hE hEl hEt hTX hTXs hfb htb hge3 hfb4 htb5 BX4 BX5 FI4 BW4 BF EN BW BF5
  go_wp2_with fail
  refine (new_any (some ⟨fb, 0, none⟩) (some ⟨ge, 0, none⟩) (some ⟨tb, 0, none⟩) fw n ts TX w5).mono ?_
  rintro e w6 ⟨rfl, hw6⟩
  obtain ⟨b, hb⟩ : ∃ b, b = w5.heap.size := ⟨_, rfl⟩
  rw [← hb]
  have htb' : tb < b := by omega
  have BW6 : Hid (Below w.heap.size w w6) := by rw [hw6]; exact BW5.out.alloc BW5.out.size _
  have SA6 : Hid (SetAt w6 b fb ge tb (List.replicate fw 0) TX E (List.replicate ts 0)) := by
    rw [hw6, hb]
    refine ⟨?_, ?_, ?_, ?_⟩
    · rw [HEL.out]; show (w5.heap.push _)[w5.heap.size]? = _; simp
    · rw [Below.heap_alloc _ _ _ (by omega), u64s, List.map_replicate]; exact HF5.out
    · rw [Below.heap_alloc _ _ _ (by omega)]; exact HE5.out
    · rw [Below.heap_alloc _ _ _ (by omega), u32s, List.map_replicate]; exact TA5.out
  have hnts : n < ts := by omega
  clear hw6 hb hcv HF5 HE5 TA5 BW5
  go_wp2
  go_loopw [14] (fun i wr => ∃ (j : Nat) (F tab : List Nat), j ≤ n ∧ i = .int .i64 (j : Int) ∧ Hid (SetAt wr b fb ge tb F TX E tab) ∧ Hid (F.length = fw) ∧ Hid (tab.length = ts) ∧ Hid (∀ q, at' F q < 18446744073709551616) ∧ Hid (Inv ss tab ts (fun x => H x / 65536) j) ∧ Hid (FInv ss F (fun x => bitA fw (H x)) (fun x => bitB fw (H x)) j) ∧ Hid (Below w.heap.size w wr)) (fun i _ => n - (intOf i).toNat)
  case atStart => exact ⟨0, List.replicate fw 0, List.replicate ts 0, by omega, rfl, SA6, List.length_replicate, List.length_replicate, fun q => by rw [getD_rep]; omega, Inv.zero ss ts _, fun j h => by omega, BW6⟩
  case round =>
  clear SA6 BW6
  obtain ⟨j, F, tab, hj, rfl, SA, HFL, HTL, HF, IV, FV, BW⟩ := hrel
  by_cases hlj : j < n
  · obtain ⟨b0, off, ha, hb0, hc⟩ := HR.out.2.resolve_left (by omega)
    subst ha
    obtain ⟨s, hs⟩ : ∃ s, s = key ss j := ⟨_, rfl⟩
    have hcell : wr.cell? ⟨b0, off + j, none⟩ = some (.string s) := by rw [hs, BW.out.cell (p := ⟨b0, off + j, none⟩) hb0]; exact hc j hlj
    have hss : s.size ≤ 1048576 := by rw [hs]; exact HSZ.out j hlj
    have HS : Hid (s = key ss j) := hs
    obtain ⟨cb, hcb⟩ : ∃ cb, cb = grownCap wr s.size 0 5 := ⟨_, rfl⟩
    obtain ⟨wb, hwb⟩ : ∃ wb, wb = Lib.bytesWorld wr 5 s := ⟨_, rfl⟩
    have hcs : s.size ≤ cb := by rw [hcb]; exact grownCap_ge _ _ _ _
    have hcv : (convert 9 23 (.string s)).run Try.prog wr = .ok (.slice (some ⟨wr.heap.size, 0, none⟩) s.size cb) wb := by
      rw [hcb, hwb]; exact Lib.run_convert_string_bytes wr 9 23 5 s Try.underlying9 Try.underlying23 Try.underlying5
    have BB : Hid (Below wr.heap.size wr wb) := by rw [hwb]; exact bytes_below wr s
    have RB : Hid (ByteRow wb (some ⟨wr.heap.size, 0, none⟩) s.size (ints s)) := by rw [hwb]; exact bytes_row wr s
    have hgr : wr.heap.size < wb.heap.size := by rw [hwb, Lib.bytesWorld_size]; omega
    clear hs hc hcb hwb
    obtain ⟨gr, hgr0⟩ : ∃ gr, gr = wr.heap.size := ⟨_, rfl⟩
    rw [← hgr0] at hcv RB hgr
    have HGR : Hid (gr = wr.heap.size) := hgr0
    clear hgr0
    have SB : Hid (SetAt wb b fb ge tb F TX E tab) := SA.out.below BB.out
    have BWB : Hid (Below w.heap.size w wb) := BW.out.trans (BB.out.mono BW.out.size)
    go_wp2_with fail
    refine (zhash_any (some ⟨gr, 0, none⟩) cb s wb hss hcs RB.out).mono ?_
    rintro e w7 ⟨rfl, hb7⟩
    obtain ⟨h, hh⟩ : ∃ h, h = H s := ⟨_, rfl⟩
    have hhl : h < 18446744073709551616 := by rw [hh]; exact H_lt s
    have HH : Hid (h = H s) := hh
    rw [← hh]
    have S7 : Hid (SetAt w7 b fb ge tb F TX E tab) := SB.out.below hb7
    have R7 : Hid (ByteRow w7 (some ⟨gr, 0, none⟩) s.size (ints s)) := RB.out.below hb7 (fun g o e => by cases e; exact hgr)
    have B7 : Hid (Below w.heap.size w w7) := BWB.out.trans (hb7.mono BWB.out.size)
    clear hb7 hh hcv
    obtain ⟨p0, hp0, hz0⟩ := IV.out.empty (show j < ts by omega)
    obtain ⟨p, J, hp, hsl⟩ := slot_exists ss tab ts (h / 65536) s p0 hp0 hz0
    have HSL : Hid (SlotAt ss tab ts (h / 65536) s p J) := hsl
    go_wp2_with fail
    refine (zslot_any _ _ _ _ _ p _ (slot_any b fb ge tb F TX E tab ss (some ⟨gr, 0, none⟩) cb s h ex p J w7 hhl (by rw [HTL.out]; exact HTS.out) (by rw [HTL.out]; omega) (by rw [HEL.out]; exact hn) S7.out HSP.out R7.out (fun q => by rw [HEL.out]; exact Nat.le_trans (IV.out.le q) hj) (by rw [HTL.out]; exact HSL.out))).mono ?_
    rintro e w8 ⟨rfl, m8, hw8⟩
    have S8 : Hid (SetAt w8 b fb ge tb F TX E tab) := by rw [hw8]; exact S7.out.drewN m8
    have B8 : Hid (Below w.heap.size w w8) := by rw [hw8]; exact below_drewN B7.out m8
    have hc8 := S8.out.tc p (by rw [HTL.out]; exact hp)
    have hz8 := S8.out.tz p
    obtain ⟨v, hv⟩ : ∃ v, v = at' tab p := ⟨_, rfl⟩
    have HV : Hid (v = at' tab p) := hv
    have hvb : v ≤ 65536 := by rw [hv]; have := IV.out.le p; omega
    rw [← hv] at hc8
    clear hw8 hsl hz0 hp0 p0 hv S7 B7 R7
    by_cases hv0 : v = 0
    · have hve : ((v : Int) == 0) = true := by simp; exact hv0
      have hn0 : at' tab p = 0 := by rw [← HV.out]; exact hv0
      have HH1 : Hid (SlotAt ss tab ts (H (key ss j) / 65536) (key ss j) p J) := by
        show SlotAt _ _ _ _ _ _ _; rw [← HS.out, ← HH.out]; exact HSL.out
      have IV2 : Hid (Inv ss (tab.set p (j + 1)) ts (fun x => H x / 65536) (j + 1)) := IV.out.new hp HH1.out hn0
      obtain ⟨w9, hw9⟩ : ∃ w9, w9 = w8.setCell ⟨tb, p, none⟩ (.int .u32 ((j : Int) + 1)) := ⟨_, rfl⟩
      have S9 : Hid (SetAt w9 b fb ge tb F TX E (tab.set p (j + 1))) := by
        rw [hw9, show ((j : Int) + 1) = ((j + 1 : Nat) : Int) by omega]
        exact S8.out.setTab (by omega) (by omega) (by omega) p (j + 1)
      have B9 : Hid (Below w.heap.size w w9) := by rw [hw9]; exact B8.out.setCell (by show w.heap.size ≤ tb; rw [← HGB.out]; omega) _
      have f1 : 1 ≤ F.length := by rw [HFL.out]; exact hfw1
      have f2 : F.length ≤ 1048576 := by rw [HFL.out]; omega
      have hAl := bitA_lt (h := h) f1
      have hBl := bitB_lt (h := h) f1
      obtain ⟨A, hA⟩ : ∃ A, A = bitA F.length h := ⟨_, rfl⟩
      obtain ⟨B, hB⟩ : ∃ B, B = bitB F.length h := ⟨_, rfl⟩
      have HBITS : Hid (Calls Try.prog 16 #[.pointer (some ⟨b, 0, none⟩), .int .u64 (h : Int)] w9 fun e w' => e = .returned (.tuple #[.int .u64 (A : Int), .int .u64 (B : Int)]) ∧ w' = w9) := by
        show Calls _ _ _ _ _; rw [hA, hB]; exact bits_any b fb ge tb F TX E (tab.set p (j + 1)) h w9 hhl f1 f2 S9.out
      rw [← hA, HFL.out] at hAl
      rw [← hB, HFL.out] at hBl
      have FV2 : Hid (FInv ss (setBit (setBit F A) B) (fun x => bitA fw (H x)) (fun x => bitB fw (H x)) (j + 1)) :=
        FInv.step FV.out (by rw [hA, HFL.out, HH.out, HS.out]) (by rw [hB, HFL.out, HH.out, HS.out]) (by rw [HFL.out]; exact hAl) (by rw [HFL.out]; exact hBl)
      have HF1 : Hid (∀ q, at' (setBit F A) q < 18446744073709551616) := setBit_lt HF.out A (by rw [HFL.out]; exact hAl)
      have HF2 : Hid (∀ q, at' (setBit (setBit F A) B) q < 18446744073709551616) := setBit_lt HF1.out B (by rw [setBit_length, HFL.out]; exact hBl)
      clear hA hB f1 f2 hv0
      obtain ⟨ai, hai⟩ : ∃ i, i = A / 64 := ⟨_, rfl⟩
      obtain ⟨ar, har⟩ : ∃ i, i = A % 64 := ⟨_, rfl⟩
      have qa : ((A : Int) / 64) = (ai : Int) := by omega
      have ra : ((A : Int) % 64) = (ar : Int) := by omega
      have hail : ai < fw := by omega
      have harl : ar < 64 := by omega
      have wai : IntKind.u64.wrap (ai : Int) = (ai : Int) := by rw [IntKind.wrap_u64]; omega
      have war : IntKind.u64.wrap (ar : Int) = (ar : Int) := by rw [IntKind.wrap_u64]; omega
      obtain ⟨af, haf⟩ : ∃ f, f = at' F ai := ⟨_, rfl⟩
      obtain ⟨ag, hag⟩ : ∃ g, g = af ||| 2 ^ ar := ⟨_, rfl⟩
      have oa : bits .or .u64 (af : Int) (IntKind.u64.wrap ((2 : Int) ^ ar)) = (ag : Int) := by rw [hag]; exact or_run af ar (by rw [haf]; exact HF.out _) harl
      have ca := S9.out.fc ai (by rw [HFL.out]; exact hail)
      have za := S9.out.fz ai
      rw [← haf] at ca
      obtain ⟨w10, hw10⟩ : ∃ w10, w10 = w9.setCell ⟨fb, ai, none⟩ (.int .u64 (ag : Int)) := ⟨_, rfl⟩
      have HFA : Hid (setBit F A = F.set ai ag) := by show _ = _; rw [setBit, hag, haf, hai, har]
      have S10 : Hid (SetAt w10 b fb ge tb (setBit F A) TX E (tab.set p (j + 1))) := by
        rw [hw10, HFA.out]; exact S9.out.setFil (by omega) (by omega) (by omega) ai ag
      have B10 : Hid (Below w.heap.size w w10) := by rw [hw10]; exact B9.out.setCell (by show w.heap.size ≤ fb; rw [← HGB.out]; omega) _
      clear haf hag hai har
      obtain ⟨bi, hbi⟩ : ∃ i, i = B / 64 := ⟨_, rfl⟩
      obtain ⟨br, hbr⟩ : ∃ i, i = B % 64 := ⟨_, rfl⟩
      have qb : ((B : Int) / 64) = (bi : Int) := by omega
      have rb : ((B : Int) % 64) = (br : Int) := by omega
      have hbil : bi < fw := by omega
      have hbrl : br < 64 := by omega
      have wbi : IntKind.u64.wrap (bi : Int) = (bi : Int) := by rw [IntKind.wrap_u64]; omega
      have wbr : IntKind.u64.wrap (br : Int) = (br : Int) := by rw [IntKind.wrap_u64]; omega
      obtain ⟨bf, hbf⟩ : ∃ f, f = at' (setBit F A) bi := ⟨_, rfl⟩
      obtain ⟨bg, hbg⟩ : ∃ g, g = bf ||| 2 ^ br := ⟨_, rfl⟩
      have ob : bits .or .u64 (bf : Int) (IntKind.u64.wrap ((2 : Int) ^ br)) = (bg : Int) := by rw [hbg]; exact or_run bf br (by rw [hbf]; exact HF1.out _) hbrl
      have cb2 := S10.out.fc bi (by rw [setBit_length, HFL.out]; exact hbil)
      have zb := S10.out.fz bi
      rw [← hbf] at cb2
      have HFB : Hid (setBit (setBit F A) B = (setBit F A).set bi bg) := by show (setBit F A).set (B / 64) (at' (setBit F A) (B / 64) ||| 2 ^ (B % 64)) = _; rw [hbg, hbf, hbi, hbr]
      have S11 : Hid (SetAt (w10.setCell ⟨fb, bi, none⟩ (.int .u64 (bg : Int))) b fb ge tb (setBit (setBit F A) B) TX E (tab.set p (j + 1))) := by
        show SetAt _ _ _ _ _ _ _ _ _
        rw [HFB.out]; exact S10.out.setFil (by omega) (by omega) (by omega) bi bg
      have B11 : Hid (Below w.heap.size w (w10.setCell ⟨fb, bi, none⟩ (.int .u64 (bg : Int)))) := B10.out.setCell (by show w.heap.size ≤ fb; rw [← HGB.out]; omega) _
      clear hbf hbg hbi hbr
      go_wp2_with fail
      rw [← hw9]
      clear hw9 hc8 hz8
      refine (zbits_any _ _ _ _ _ HBITS.out).mono ?_
      rintro e w12 ⟨rfl, hw12⟩
      rw [hw12]
      clear hw12 w12
      go_upto_region 33 with fail
      rw [← hw10]
      clear hw10 ca za
      go_wp2
      go_roundw
      case rel =>
        exact ⟨j + 1, setBit (setBit F A) B, tab.set p (j + 1), by omega, congrArg (Value.int .i64) (by omega), S11, by show _ = _; rw [setBit_length, setBit_length]; exact HFL.out, by show _ = _; rw [List.length_set]; exact HTL.out, HF2, IV2, FV2, B11⟩
      case measure => simp [intOf]; omega
    · have hve : ((v : Int) == 0) = false := by simp; exact hv0
      have hn0 : at' tab p ≠ 0 := by rw [← HV.out]; exact hv0
      have HH1 : Hid (SlotAt ss tab ts (H (key ss j) / 65536) (key ss j) p J) := by
        show SlotAt _ _ _ _ _ _ _; rw [← HS.out, ← HH.out]; exact HSL.out
      have IV2 : Hid (Inv ss tab ts (fun x => H x / 65536) (j + 1)) := IV.out.old HH1.out hn0
      have FV2 : Hid (FInv ss F (fun x => bitA fw (H x)) (fun x => bitB fw (H x)) (j + 1)) := fun i hi => by
        by_cases e : i = j
        · have h1 : key ss (at' tab p - 1) = key ss j := HH1.out.stop.resolve_left hn0
          have h2 := IV.out.le p
          have h3 := FV.out (at' tab p - 1) (by omega)
          rw [h1] at h3
          rw [e]; exact h3
        · exact FV.out i (by omega)
      clear hv0 hn0
      go_wp2
      go_roundw
      case rel => exact ⟨j + 1, F, tab, by omega, congrArg (Value.int .i64) (by omega), S8, HFL, HTL, HF, IV2, FV2, B8⟩
      case measure => simp [intOf]; omega
  have hjn : n = j := by omega
  subst hjn
  clear hlj hj
  go_wp2
  go_ret
  exact ⟨⟨b, rfl, fb, ge, tb, F, E, tab, ex, by rw [← HTX.out]; exact SA.out, by rw [← HTX.out]; exact HSP.out, HEL.out, by rw [HTL.out]; exact HTS.out, by rw [HTL.out]; omega, by rw [HTL.out]; exact hnts, by rw [HFL.out]; exact hfw1, by rw [HFL.out]; omega, HF.out, by rw [HTL.out]; exact IV.out, by rw [HFL.out]; exact FV.out⟩, BW.out⟩
end Go.Proofs.Qxb6628906a
