/-
  The walk of the second law (4).
-/
import Derived.Test.Qxb6628830aFmtFront
namespace Go.Proofs.Qxb6628830aFmt
open Go.RowKit Go.Extern.Stop Go.Stop Go.Extern
set_option linter.unusedVariables false

set_option maxRecDepth 100000 in
set_option maxHeartbeats 1000000 in
theorem lawB_quick (a : Option Addr) (n cap : Nat) (p d : Int) (w : World) (h : (1048576 : Int) < (n : Int) ∨ p < 0 ∨ (n : Int) < p) :
    Calls Tryf.prog 4 #[.slice a n cap, .int .i64 p, .int .i64 d] w fun e w' => e = .returned (.bool true) ∧ Below w.heap.size w w' := by
  go_enter Tryf.func4, Tryf.ntmps4
  go_wp2_with fail
  refine (bytes2 _ n cap p d w).mono ?_
  rintro e w' ⟨⟨r, rfl⟩, rfl⟩
  cases r with
  | false =>
    go_wp2
    go_ret
    exact ⟨rfl, Below.refl _ _⟩
  | true =>
  by_cases hbig : (1048576 : Int) < (n : Int)
  · go_wp2
    go_ret
    exact ⟨rfl, Below.refl _ _⟩
  by_cases hp0 : p < 0
  · go_wp2
    go_ret
    exact ⟨rfl, Below.refl _ _⟩
  have hpn : (n : Int) < p := by omega
  clear h
  go_wp2
  go_ret
  exact ⟨rfl, Below.refl _ _⟩

/-- Bytes as cells. -/
def cellsOf (l : List UInt8) : List Value := l.map fun b => Value.int .u8 b.toNat
/-- The data with the word at k, up to p, swapped for O. -/
def swp (bs O : List UInt8) (k p : Nat) : List UInt8 := bs.take k ++ (O ++ bs.drop p)
theorem ints_getD (bs : List UInt8) (i : Nat) : (ints bs).getD i 0 = ((bs.getD i 0).toNat : Int) := by
  by_cases h : i < bs.length
  · simp [ints, List.getD, h]
  · simp [ints, List.getD, List.getElem?_eq_none (Nat.le_of_not_lt h)]
theorem cells_step {l : List UInt8} {i : Nat} {c : Int} (h : i < l.length) (hc : c = ((l.getD i 0).toNat : Int)) : cellsOf (l.take i) ++ [.int .u8 c] = cellsOf (l.take (i + 1)) := by
  have e : l.getD i 0 = l[i] := by simp [List.getD, h]
  rw [List.take_succ_eq_append_getElem h, hc, e, cellsOf, cellsOf, List.map_append]
  rfl
section
variable {bs O : List UInt8} {k p n i j : Nat}
theorem take_len (hk : k ≤ bs.length) : (bs.take k).length = k := by rw [List.length_take]; omega
theorem swp_lo (hk : k ≤ bs.length) (hi : i < k) : (swp bs O k p).getD i 0 = bs.getD i 0 := by
  simp only [swp, List.getD]
  rw [List.getElem?_append_left (by rw [take_len hk]; exact hi), List.getElem?_take_of_lt hi]
theorem swp_mid (hk : k ≤ bs.length) (hi : i < O.length) : (swp bs O k p).getD (k + i) 0 = O.getD i 0 := by
  simp only [swp, List.getD]
  rw [List.getElem?_append_right (by rw [take_len hk]; omega), take_len hk, Nat.add_sub_cancel_left, List.getElem?_append_left hi]
theorem swp_hi (hk : k ≤ bs.length) : (swp bs O k p).getD (k + O.length + j) 0 = bs.getD (p + j) 0 := by
  simp only [swp, List.getD]
  rw [List.getElem?_append_right (by rw [take_len hk]; omega), take_len hk, List.getElem?_append_right (by omega), List.getElem?_drop]
  congr 2; omega
theorem swp_len (hl : bs.length = n) (hk : k ≤ n) : (swp bs O k p).length = k + O.length + (n - p) := by
  simp only [swp, List.length_append, List.length_drop]
  rw [take_len (by omega), hl]; omega
theorem swp_drop (hk : k ≤ bs.length) : (swp bs O k p).drop k = O ++ bs.drop p := by
  rw [swp, List.drop_append, take_len hk]
  simp [List.drop_of_length_le, take_len hk]
end
theorem index_run (s : ByteArray) (i : Nat) (h : i < s.size) (w : World) : (Instr.index 9 (.string s) (.int .i64 (i : Int))).run Tryf.prog w = .ok (.int .u8 ((s.data.toList.getD i 0).toNat : Int)) w := by
  have e : ((i : Int)).toNat = i := by omega
  rw [byte_at s i h, run_index_string w 9 s .i64 _ Tryf.underlying9, dif_pos ⟨by omega, by omega⟩]
  simp only [e]
theorem own_lt {w : World} {base e size g n cap : Nat} {xs : List Value} (h : w.ownsRow base e size (.slice (some ⟨g, 0, none⟩) n cap) n xs) : g < w.heap.size := by
  rcases h.2 with ⟨h', _⟩ | ⟨g', cap', cur, h', _, hg, _⟩
  · simp at h'
  · simp only [Value.slice.injEq, Option.some.injEq, Addr.mk.injEq, and_true, true_and] at h'
    obtain ⟨rfl, rfl⟩ := h'
    exact (Array.getElem?_eq_some_iff.1 hg).1
theorem row_own {w : World} {base g N cap : Nat} {l : List UInt8} (hl : l.length = N) (h : w.ownsRow base 5 1 (.slice (some ⟨g, 0, none⟩) N cap) N (cellsOf l)) : ByteRow w (some ⟨g, 0, none⟩) N (ints l) := by
  refine ⟨by rw [ints_length, hl], .inr ⟨g, 0, rfl, own_lt h, fun j hj => ?_⟩⟩
  rw [Nat.zero_add, h.cellAt j (by omega), ints_getD, cellsOf, List.getElem?_map, List.getElem?_eq_getElem (by omega)]
  simp [List.getD, hl, hj]
theorem swp_skip {bs O : List UInt8} {n q k p N : Nat} (hl : bs.length = n) (h : SkipTo (ints bs) n q k) (hN : k ≤ N) (hO : 0 < O.length ∧ spc ((O.getD 0 0).toNat : Int) = false) : SkipTo (ints (swp bs O k p)) N q k := by
  have hk : k ≤ bs.length := by rw [hl]; exact h.hi
  refine ⟨h.lo, hN, fun j h1 h2 => ?_, fun _ => ?_⟩
  · rw [ints_getD, swp_lo hk h2, ← ints_getD]; exact h.all j h1 h2
  · rw [ints_getD]
    have := swp_mid (p := p) (i := 0) hk hO.1
    rw [Nat.add_zero] at this
    rw [this]; exact hO.2
theorem row_cell {ug wr : World} {g n : Nat} {zs : List Int} (h : ByteRow ug (some ⟨g, 0, none⟩) n zs) (hb : Below ug.heap.size ug wr) (i : Nat) (hi : i < n) : wr.cell? ⟨g, i, none⟩ = some (.int .u8 (zs.getD i 0)) := by
  obtain ⟨b, off, e, hlt, hc⟩ := h.2.resolve_left (by omega)
  simp only [Option.some.injEq, Addr.mk.injEq, and_true] at e
  obtain ⟨rfl, rfl⟩ := e
  rw [hb.cell (by exact hlt)]
  have := hc i hi
  rwa [Nat.zero_add] at this

set_option maxRecDepth 100000 in
set_option maxHeartbeats 1000000 in
theorem lawB_some_T (F : Interp) (x : Addr) (n cap : Nat) (q m : Nat) (d : Int) (bs : List UInt8) (w : World) (hF : F.answers w.tape) (hl : bs.length = n) (hn : n ≤ 1048576) (hcap : n ≤ cap) (hk : SkipTo (ints bs) n q (q + m)) (hsrc : ∀ j v, ((ints bs).map (Value.int .u8))[j]? = some v → w.cell? (x.add j) = some v) (ht : tr.isPrefixOf (bs.drop (q + m)) = true) :
    Calls Tryf.prog 4 #[.slice (some x) n cap, .int .i64 (q : Int), .int .i64 d] w fun e w' => e = .returned (.bool true) ∧ Below w.heap.size w w' := by
  have HF : Hid (F.answers w.tape) := hF
  have HL : Hid (bs.length = n) := hl
  have HK : Hid (SkipTo (ints bs) n q (q + m)) := hk
  have hkn : q + m ≤ n := hk.hi
  have HT := hide ht
  clear hF hl hk ht
  have HS : Hid (∀ j v, ((ints bs).map (Value.int .u8))[j]? = some v → w.cell? (x.add j) = some v) := hsrc
  clear hsrc
  obtain ⟨i0, hi, hz0, hz1, hz2⟩ := info_parts Tryf.info5
  have q22 : ∀ (w : World) (a : Option Addr) (n c n' c' : Nat), (binOp .neq 22 (.slice a n c) (.slice none n' c')).run Tryf.prog w = .ok (.bool (!a.isNone)) w := fun w a n c n' c' => run_neq_slice_nil_any w _ _ a n c n' c' Tryf.underlying22
  have db : decide ((1048576 : Int) < (n : Int)) = false := by simp; omega
  have hd0 : decide ((q : Int) < 0) = false := by simp
  have hd1 : decide ((n : Int) < (q : Int)) = false := by simp; omega
  have hd1n : decide (n < q) = false := by simp; omega
  go_enter Tryf.func4, Tryf.ntmps4
  go_wp2_with fail
  refine (bytes2 _ n cap q d w).mono ?_
  rintro e w' ⟨⟨r, rfl⟩, rfl⟩
  cases r with
  | false =>
    go_wp2
    go_ret
    exact ⟨rfl, Below.refl _ _⟩
  | true =>
  go_wp2_with (refine wpList_make_full _ rfl _ _ 22 rfl w'.heap.size 5 i0 _ 1 Tryf.underlying22 hi hz0 hz1 .i64 .i64 (n : Int) (n : Int) n rfl rfl rfl rfl (by rw [hz2]; omega) (by unfold maxLen; omega) (Nat.le_refl _) ?_)
  intro w1 hown hgrow
  have HB1 : Hid (Below w'.heap.size w' w1) := (Below.refl _ _).grown hgrow (Nat.le_refl _) (fun k h => by cases h)
  obtain ⟨cur, hcur, hcl⟩ := own_row hown
  have HCL : Hid (cur.length = n) := hcl
  have HCUR : Hid (w1.heap[w'.heap.size]? = some (.cells cur.toArray 5 (0, 0))) := hcur
  have HS1 : Hid (∀ j v, ((ints bs).map (Value.int .u8))[j]? = some v → w1.cell? (x.add j) = some v) := fun j v hj => by
    have := HS.out j v hj
    rw [HB1.out.cell (World.block_lt_of_cell? _ _ this)]; exact this
  clear hown hgrow hcur hcl
  obtain ⟨X1, hX1⟩ : ∃ X1, X1 = (ints bs).map (Value.int .u8) := ⟨_, rfl⟩
  have HX : Hid (X1 = (ints bs).map (Value.int .u8)) := hX1
  have HXL : Hid (X1.length = n) := by show X1.length = n; rw [hX1, List.length_map, ints_length, HL.out]
  have HXS : Hid (0 < X1.length → (some ⟨w'.heap.size, 0, none⟩ : Option Addr) = some ⟨w'.heap.size, 0, none⟩ ∧ ∃ ad, some x = some ad ∧ ∀ j v, X1[j]? = some v → w1.cell? (ad.add j) = some v) := fun _ => ⟨rfl, x, rfl, by rw [hX1]; exact HS1.out⟩
  have HXO : Hid (∀ v ∈ X1, v.oneCell' = true) := by
    show ∀ v ∈ X1, v.oneCell' = true; rw [hX1]; intro v hv; obtain ⟨y, _, rfl⟩ := List.mem_map.1 hv; rfl
  clear hX1
  go_wp2_with (refine wpList_copy_splice rfl (.tmp 45) (.tmp 46) 22 22 rfl 5 Tryf.underlying22 size5 (some ⟨w'.heap.size, 0, none⟩) (some x) n n n cap rfl rfl w'.heap.size 0 cur 5 HCUR.out X1 (by rw [HXL.out]; simp) HXS.out (by rw [HXL.out, HCL.out]; omega) HXO.out w'.heap.size w' HB1.out (Nat.le_refl _) ?_; intro w2 HG2 hB2)
  have HB : Hid (Below w'.heap.size w' w2) := hB2
  have HR : Hid (ByteRow w2 (some ⟨w'.heap.size, 0, none⟩) n (ints bs)) := row_made (cur := cur) HL.out HCL.out (by rw [← HX.out]; exact HG2.out)
  have hlt2 : w'.heap.size < w2.heap.size := (Array.getElem?_eq_some_iff.1 HG2.out).1
  have HNE : Hid (∀ x, (some ⟨w'.heap.size, 0, none⟩ : Option Addr) = some x → x.block < w2.heap.size) := fun x h => by
    simp only [Option.some.injEq] at h; rw [← h]; exact hlt2
  clear hB2 HG2 HXS HXO HXL HX HCUR HCL HS1 HB1
  go_wp2_with fail
  refine (new_any (some ⟨w'.heap.size, 0, none⟩ : Option Addr) n n (q : Int) d w2).mono ?_
  rintro e u1 ⟨rfl, hrd, hb⟩
  have B1 : Hid (Below w'.heap.size w' u1) := HB.out.trans (hb.mono HB.out.size)
  have R1 : Hid (Rd u1 w2.heap.size (some ⟨w'.heap.size, 0, none⟩ : Option Addr) n n q d) := hrd
  have Y1 : Hid (ByteRow u1 (some ⟨w'.heap.size, 0, none⟩ : Option Addr) n (ints bs)) := HR.out.below hb
  have N1 : Hid (∀ g off, (some ⟨w'.heap.size, 0, none⟩ : Option Addr) = some ⟨g, off, none⟩ → g ≠ w2.heap.size) := fun g off h => Nat.ne_of_lt (HNE.out ⟨g, off, none⟩ h)
  have hsz0 : w'.heap.size ≤ w2.heap.size := HB.out.size
  clear hrd hb
  go_wp2_with fail
  refine (bool_true w2.heap.size (some ⟨w'.heap.size, 0, none⟩ : Option Addr) n n q (q + m) d bs u1 (by omega) (by omega) HK.out R1.out Y1.out N1.out (unhide HT)).mono ?_
  rintro e u2 ⟨rfl, hrd, hmv⟩
  have B2 : Hid (Below w'.heap.size w' u2) := B1.out.trans (hmv.below B1.out.size hsz0)
  have R2 : Hid (Rd u2 w2.heap.size (some ⟨w'.heap.size, 0, none⟩ : Option Addr) n n ((((q + m) : Nat) : Int) + 4) d) := hrd
  have Y2 : Hid (ByteRow u2 (some ⟨w'.heap.size, 0, none⟩ : Option Addr) n (ints bs)) := Y1.out.mv hmv N1.out
  clear hrd hmv
  go_wp2_with fail
  refine (pos_any w2.heap.size (some ⟨w'.heap.size, 0, none⟩ : Option Addr) n n (((q + m : Nat) : Int) + 4) d u2 R2.out).mono ?_
  rintro e u ⟨rfl, hw⟩
  rw [hw]
  clear hw u
  have hds : decide ((q : Int) + (m : Int) < (q : Int)) = false := by simp; omega
  have hds2 : ((q : Int) + (m : Int) + 4 - 4) = (q : Int) + (m : Int) := by omega
  go_wp2_with fail
  refine (has_any (some ⟨w'.heap.size, 0, none⟩ : Option Addr) n n (q + m) bs ⟨#[116, 114, 117, 101]⟩ _ true _ (by omega) hkn (by omega) (by decide) Y2.out (unhide HT)).mono ?_
  rintro e v1 ⟨rfl, m1, hw⟩
  rw [hw]
  clear hw v1
  obtain ⟨ug, hug⟩ : ∃ ug, ug = u2.drewN m1 := ⟨_, rfl⟩
  rw [← hug]
  have BG : Hid (Below w'.heap.size w' ug) := by rw [hug]; exact below_drewN B2.out _
  have YG : Hid (ByteRow ug (some ⟨w'.heap.size, 0, none⟩ : Option Addr) n (ints bs)) := by rw [hug]; exact Y2.out.drewN _
  clear hug
  have hlen : q + m + 4 ≤ n := by
    have h1 := ((isPrefixOf_iff _ _ _).1 (unhide HT)).1
    rw [HL.out] at h1
    have h2 : tr.length = 4 := rfl
    omega
  clear N1 R1 R2 Y1 Y2 B1 B2 HR HB HNE
  go_wp2_with (refine wpList_make_own _ rfl _ _ 22 rfl ug.heap.size 5 i0 _ 1 Tryf.underlying22 hi hz0 hz1 .i64 .i64 ((n : Int) + 1) (n + 1) rfl rfl (by omega) (by rw [hz2]; omega) (by unfold maxLen; omega) (Nat.le_refl _) ?_)
  intro ux hown hgrow
  have BX : Hid (Below ug.heap.size ug ux) := (Below.refl _ _).grown hgrow (Nat.le_refl _) (fun k h => by cases h)
  have OX : Hid (ux.ownsRow ug.heap.size 5 1 (.slice (some ⟨ug.heap.size, 0, none⟩) 0 (n + 1)) 0 (cellsOf ((swp bs fa (q + m) (q + m + 4)).take 0))) := hown
  have HSL : Hid ((swp bs fa (q + m) (q + m + 4)).length = q + m + 5 + (n - (q + m + 4))) := swp_len HL.out hkn
  clear hown hgrow
  go_wp2
  go_loopw [17, 18] (fun v x wr => ∃ i : Nat, i ≤ q + m ∧ x = .int .i64 i ∧ v = .slice (some ⟨ug.heap.size, 0, none⟩) i (n + 1) ∧ Hid (wr.ownsRow ug.heap.size 5 1 (.slice (some ⟨ug.heap.size, 0, none⟩) i (n + 1)) i (cellsOf ((swp bs fa (q + m) (q + m + 4)).take i))) ∧ Hid (Below ug.heap.size ug wr)) (fun _ x _ => q + m - (intOf x).toNat)
  case atStart => exact ⟨0, Nat.zero_le _, rfl, rfl, OX, BX⟩
  case round =>
  obtain ⟨i, hi1, rfl, rfl, OR, BR⟩ := hrel
  by_cases hlt : i < q + m
  · obtain ⟨c, hc⟩ : ∃ c, c = (ints bs).getD i 0 := ⟨_, rfl⟩
    have g1 : wr.cell? ⟨w'.heap.size, i, none⟩ = some (.int .u8 c) := by rw [hc]; exact row_cell YG.out BR.out i (by omega)
    have HX : Hid (c = (ints bs).getD i 0) := hc
    clear hc
    go_wp2_with (at_builtin; refine wpList_append_fits _ rfl (.tmp 111) (.tmp 116) 22 rfl ug.heap.size 5 i0 1 Tryf.underlying22 hi hz1 ug.heap.size i (n + 1) _ rfl (OR.out.alloc _) ⟨wr.heap.size, 0, none⟩ 1 1 [.int .u8 c] rfl rfl (cell_one_new _ _ _) (by simp [Value.oneCell']) (by omega) ?_)
    intro w4 hown4 hgrow4
    have O4 : Hid (w4.ownsRow ug.heap.size 5 1 (.slice (some ⟨ug.heap.size, 0, none⟩) (i + 1) (n + 1)) (i + 1) (cellsOf ((swp bs fa (q + m) (q + m + 4)).take (i + 1)))) := by
      rw [← cells_step (l := swp bs fa (q + m) (q + m + 4)) (c := c) (by rw [HSL.out]; omega) (by rw [HX.out, ints_getD, swp_lo (by rw [HL.out]; exact hkn) hlt])]; exact hown4
    have B4 : Hid (Below ug.heap.size ug w4) := (BR.out.alloc BR.out.size _).grown hgrow4 (by have := BR.out.size; simp; omega) (fun k h => by cases h; exact Nat.le_refl _)
    clear hown4 hgrow4
    go_wp2
    go_roundw
    case rel => exact ⟨i + 1, by omega, by go_num, rfl, O4, B4⟩
    case measure => simp [intOf]; omega
  obtain rfl : i = q + m := by omega
  clear hlt hi1 OX BX
  go_wp2
  obtain ⟨wo, hwo⟩ : ∃ wo, wo = wr := ⟨_, rfl⟩
  rw [← hwo]
  have OW : Hid (wo.ownsRow ug.heap.size 5 1 (.slice (some ⟨ug.heap.size, 0, none⟩) (q + m) (n + 1)) (q + m) (cellsOf ((swp bs fa (q + m) (q + m + 4)).take (q + m)))) := by rw [hwo]; exact OR.out
  have BW : Hid (Below ug.heap.size ug wo) := by rw [hwo]; exact BR.out
  clear hwo OR BR wr
  rw [show (((q + m : Nat)) : Int) = (q : Int) + (m : Int) from Int.natCast_add q m]
  go_loopw [17, 19] (fun v x wr => ∃ i : Nat, i ≤ 5 ∧ x = .int .i64 i ∧ v = .slice (some ⟨ug.heap.size, 0, none⟩) (q + m + i) (n + 1) ∧ Hid (wr.ownsRow ug.heap.size 5 1 (.slice (some ⟨ug.heap.size, 0, none⟩) (q + m + i) (n + 1)) (q + m + i) (cellsOf ((swp bs fa (q + m) (q + m + 4)).take (q + m + i)))) ∧ Hid (Below ug.heap.size ug wr)) (fun _ x _ => 5 - (intOf x).toNat)
  case atStart => exact ⟨0, Nat.zero_le _, rfl, rfl, OW, BW⟩
  case round =>
  obtain ⟨i, hi1, rfl, rfl, OR, BR⟩ := hrel
  by_cases hlt : i < 5
  · have hO : Hid (∀ c : Int, c = (((fa : List UInt8).getD i 0).toNat : Int) → cellsOf ((swp bs fa (q + m) (q + m + 4)).take (q + m + i)) ++ [.int .u8 c] = cellsOf ((swp bs fa (q + m) (q + m + 4)).take (q + m + i + 1))) := fun c hc =>
      cells_step (by rw [HSL.out]; omega) (by rw [hc, swp_mid (by rw [HL.out]; exact hkn) (by exact hlt)])
    obtain ⟨c, hc⟩ : ∃ c : Int, c = (((fa : List UInt8).getD i 0).toNat : Int) := ⟨_, rfl⟩
    have hidx : ∀ w, (Instr.index 9 (.string ⟨#[102, 97, 108, 115, 101]⟩) (.int .i64 (i : Int))).run Tryf.prog w = .ok (.int .u8 c) w := fun w => by
      rw [hc]; exact index_run ⟨#[102, 97, 108, 115, 101]⟩ i hlt w
    have HX : Hid (c = (((fa : List UInt8).getD i 0).toNat : Int)) := hc
    clear hc
    go_wp2_with (at_builtin; refine wpList_append_fits _ rfl (.tmp 124) (.tmp 128) 22 rfl ug.heap.size 5 i0 1 Tryf.underlying22 hi hz1 ug.heap.size (q + m + i) (n + 1) _ rfl (OR.out.alloc _) ⟨wr.heap.size, 0, none⟩ 1 1 [.int .u8 c] rfl rfl (cell_one_new _ _ _) (by simp [Value.oneCell']) (by omega) ?_)
    intro w4 hown4 hgrow4
    have O4 : Hid (w4.ownsRow ug.heap.size 5 1 (.slice (some ⟨ug.heap.size, 0, none⟩) (q + m + (i + 1)) (n + 1)) (q + m + (i + 1)) (cellsOf ((swp bs fa (q + m) (q + m + 4)).take (q + m + (i + 1))))) := by
      rw [← Nat.add_assoc, ← hO.out c HX.out]; exact hown4
    have B4 : Hid (Below ug.heap.size ug w4) := (BR.out.alloc BR.out.size _).grown hgrow4 (by have := BR.out.size; simp; omega) (fun k h => by cases h; exact Nat.le_refl _)
    clear hown4 hgrow4 hidx
    go_wp2
    go_roundw
    case rel => exact ⟨i + 1, by omega, by go_num, rfl, O4, B4⟩
    case measure => simp [intOf]; omega
  obtain rfl : i = 5 := by omega
  clear hlt hi1 OW BW
  go_wp2
  obtain ⟨wo, hwo⟩ : ∃ wo, wo = wr := ⟨_, rfl⟩
  rw [← hwo]
  have OW : Hid (wo.ownsRow ug.heap.size 5 1 (.slice (some ⟨ug.heap.size, 0, none⟩) (q + m + 5) (n + 1)) (q + m + 5) (cellsOf ((swp bs fa (q + m) (q + m + 4)).take (q + m + 5)))) := by rw [hwo]; exact OR.out
  have BW : Hid (Below ug.heap.size ug wo) := by rw [hwo]; exact BR.out
  clear hwo OR BR wr
  rw [show (((5 : Nat)) : Int) = (5 : Int) from rfl]
  go_loopw [17, 20] (fun v x wr => ∃ j : Nat, q + m + 4 + j ≤ n ∧ x = .int .i64 ((q : Int) + (m : Int) + 4 + (j : Int)) ∧ v = .slice (some ⟨ug.heap.size, 0, none⟩) (q + m + 5 + j) (n + 1) ∧ Hid (wr.ownsRow ug.heap.size 5 1 (.slice (some ⟨ug.heap.size, 0, none⟩) (q + m + 5 + j) (n + 1)) (q + m + 5 + j) (cellsOf ((swp bs fa (q + m) (q + m + 4)).take (q + m + 5 + j)))) ∧ Hid (Below ug.heap.size ug wr)) (fun _ x _ => n - (intOf x).toNat)
  case atStart => exact ⟨0, by omega, by go_num, rfl, OW, BW⟩
  case round =>
  obtain ⟨j, hj1, rfl, rfl, OR, BR⟩ := hrel
  by_cases hlt : q + m + 4 + j < n
  · obtain ⟨c, hc⟩ : ∃ c, c = (ints bs).getD (q + m + 4 + j) 0 := ⟨_, rfl⟩
    have g1 : wr.cell? ⟨w'.heap.size, q + m + 4 + j, none⟩ = some (.int .u8 c) := by rw [hc]; exact row_cell YG.out BR.out _ hlt
    have HX : Hid (c = (ints bs).getD (q + m + 4 + j) 0) := hc
    clear hc
    go_wp2_with (at_builtin; refine wpList_append_fits _ rfl (.tmp 137) (.tmp 142) 22 rfl ug.heap.size 5 i0 1 Tryf.underlying22 hi hz1 ug.heap.size (q + m + 5 + j) (n + 1) _ rfl (OR.out.alloc _) ⟨wr.heap.size, 0, none⟩ 1 1 [.int .u8 c] rfl rfl (cell_one_new _ _ _) (by simp [Value.oneCell']) (by omega) ?_)
    intro w4 hown4 hgrow4
    have O4 : Hid (w4.ownsRow ug.heap.size 5 1 (.slice (some ⟨ug.heap.size, 0, none⟩) (q + m + 5 + (j + 1)) (n + 1)) (q + m + 5 + (j + 1)) (cellsOf ((swp bs fa (q + m) (q + m + 4)).take (q + m + 5 + (j + 1))))) := by
      rw [← Nat.add_assoc, ← cells_step (l := swp bs fa (q + m) (q + m + 4)) (c := c) (by rw [HSL.out]; omega) (by rw [HX.out, ints_getD]; exact congrArg (fun b : UInt8 => (b.toNat : Int)) (swp_hi (O := fa) (by rw [HL.out]; exact hkn)).symm)]; exact hown4
    have B4 : Hid (Below ug.heap.size ug w4) := (BR.out.alloc BR.out.size _).grown hgrow4 (by have := BR.out.size; simp; omega) (fun k h => by cases h; exact Nat.le_refl _)
    clear hown4 hgrow4
    go_wp2
    go_roundw
    case rel => exact ⟨j + 1, by omega, by go_num, rfl, O4, B4⟩
    case measure => simp [intOf]; omega
  obtain ⟨N, hN⟩ : ∃ N, N = q + m + 5 + j := ⟨_, rfl⟩
  rw [← hN]
  have hNe : (swp bs fa (q + m) (q + m + 4)).length = N := by rw [HSL.out, hN]; omega
  have HNE2 : Hid ((swp bs fa (q + m) (q + m + 4)).length = N) := hNe
  have ON : Hid (wr.ownsRow ug.heap.size 5 1 (.slice (some ⟨ug.heap.size, 0, none⟩) N (n + 1)) N (cellsOf (swp bs fa (q + m) (q + m + 4)))) := by
    have h := OR.out
    rw [← hN, List.take_of_length_le (by omega)] at h
    exact h
  have hN1 : N ≤ n + 1 := by omega
  have hN2 : q + m + 5 ≤ N := by omega
  have YR : Hid (ByteRow wr (some ⟨ug.heap.size, 0, none⟩) N (ints (swp bs fa (q + m) (q + m + 4)))) := row_own hNe ON.out
  have BW2 : Hid (Below w'.heap.size w' wr) := BG.out.trans (BR.out.mono BG.out.size)
  have hgl : ug.heap.size < wr.heap.size := own_lt ON.out
  have HSK : Hid (SkipTo (ints (swp bs fa (q + m) (q + m + 4))) N q (q + m)) := swp_skip HL.out HK.out (by omega) (by decide)
  clear hNe hN
  have hdrop : Hid ((swp bs fa (q + m) (q + m + 4)).drop (q + m) = fa ++ bs.drop (q + m + 4)) := swp_drop (by rw [HL.out]; exact hkn)
  go_wp2_with fail
  refine (new_any (some ⟨ug.heap.size, 0, none⟩) N (n + 1) (q : Int) d wr).mono ?_
  rintro e u5 ⟨rfl, hrd, hb⟩
  have B5 : Hid (Below w'.heap.size w' u5) := BW2.out.trans (hb.mono BW2.out.size)
  have R5 : Hid (Rd u5 wr.heap.size (some ⟨ug.heap.size, 0, none⟩) N (n + 1) q d) := hrd
  have Y5 : Hid (ByteRow u5 (some ⟨ug.heap.size, 0, none⟩) N (ints (swp bs fa (q + m) (q + m + 4)))) := YR.out.below hb
  have N5 : Hid (∀ g off, (some ⟨ug.heap.size, 0, none⟩ : Option Addr) = some ⟨g, off, none⟩ → g ≠ wr.heap.size) := fun g off h => by
    simp only [Option.some.injEq, Addr.mk.injEq, and_true] at h; omega
  have hsz5 : w'.heap.size ≤ wr.heap.size := BW2.out.size
  clear hrd hb
  go_wp2_with fail
  refine (bool_false wr.heap.size (some ⟨ug.heap.size, 0, none⟩) N (n + 1) q (q + m) d (swp bs fa (q + m) (q + m + 4)) u5 (by omega) hN1 HSK.out R5.out Y5.out N5.out (by rw [hdrop.out]; rfl) (by rw [hdrop.out]; rfl)).mono ?_
  rintro e u6 ⟨rfl, hrd, hmv⟩
  have B6 : Hid (Below w'.heap.size w' u6) := B5.out.trans (hmv.below B5.out.size hsz5)
  have R6 : Hid (Rd u6 wr.heap.size (some ⟨ug.heap.size, 0, none⟩) N (n + 1) ((((q + m) : Nat) : Int) + 5) d) := hrd
  clear hrd hmv
  go_wp2_with fail
  refine (pos_any wr.heap.size (some ⟨ug.heap.size, 0, none⟩) N (n + 1) (((q + m : Nat) : Int) + 5) d u6 R6.out).mono ?_
  rintro e u ⟨rfl, hw⟩
  rw [hw]
  clear hw u
  go_wp2
  go_ret
  exact ⟨by simp, B6.out⟩

set_option maxRecDepth 100000 in
set_option maxHeartbeats 1000000 in
theorem lawB_some_F (F : Interp) (x : Addr) (n cap : Nat) (q m : Nat) (d : Int) (bs : List UInt8) (w : World) (hF : F.answers w.tape) (hl : bs.length = n) (hn : n ≤ 1048576) (hcap : n ≤ cap) (hk : SkipTo (ints bs) n q (q + m)) (hsrc : ∀ j v, ((ints bs).map (Value.int .u8))[j]? = some v → w.cell? (x.add j) = some v) (ht : tr.isPrefixOf (bs.drop (q + m)) = false) (hf : fa.isPrefixOf (bs.drop (q + m)) = true) :
    Calls Tryf.prog 4 #[.slice (some x) n cap, .int .i64 (q : Int), .int .i64 d] w fun e w' => e = .returned (.bool true) ∧ Below w.heap.size w w' := by
  have HF : Hid (F.answers w.tape) := hF
  have HL : Hid (bs.length = n) := hl
  have HK : Hid (SkipTo (ints bs) n q (q + m)) := hk
  have hkn : q + m ≤ n := hk.hi
  have HT := hide ht
  clear hF hl hk ht
  have HG := hide hf
  clear hf
  have HS : Hid (∀ j v, ((ints bs).map (Value.int .u8))[j]? = some v → w.cell? (x.add j) = some v) := hsrc
  clear hsrc
  obtain ⟨i0, hi, hz0, hz1, hz2⟩ := info_parts Tryf.info5
  have q22 : ∀ (w : World) (a : Option Addr) (n c n' c' : Nat), (binOp .neq 22 (.slice a n c) (.slice none n' c')).run Tryf.prog w = .ok (.bool (!a.isNone)) w := fun w a n c n' c' => run_neq_slice_nil_any w _ _ a n c n' c' Tryf.underlying22
  have db : decide ((1048576 : Int) < (n : Int)) = false := by simp; omega
  have hd0 : decide ((q : Int) < 0) = false := by simp
  have hd1 : decide ((n : Int) < (q : Int)) = false := by simp; omega
  have hd1n : decide (n < q) = false := by simp; omega
  go_enter Tryf.func4, Tryf.ntmps4
  go_wp2_with fail
  refine (bytes2 _ n cap q d w).mono ?_
  rintro e w' ⟨⟨r, rfl⟩, rfl⟩
  cases r with
  | false =>
    go_wp2
    go_ret
    exact ⟨rfl, Below.refl _ _⟩
  | true =>
  go_wp2_with (refine wpList_make_full _ rfl _ _ 22 rfl w'.heap.size 5 i0 _ 1 Tryf.underlying22 hi hz0 hz1 .i64 .i64 (n : Int) (n : Int) n rfl rfl rfl rfl (by rw [hz2]; omega) (by unfold maxLen; omega) (Nat.le_refl _) ?_)
  intro w1 hown hgrow
  have HB1 : Hid (Below w'.heap.size w' w1) := (Below.refl _ _).grown hgrow (Nat.le_refl _) (fun k h => by cases h)
  obtain ⟨cur, hcur, hcl⟩ := own_row hown
  have HCL : Hid (cur.length = n) := hcl
  have HCUR : Hid (w1.heap[w'.heap.size]? = some (.cells cur.toArray 5 (0, 0))) := hcur
  have HS1 : Hid (∀ j v, ((ints bs).map (Value.int .u8))[j]? = some v → w1.cell? (x.add j) = some v) := fun j v hj => by
    have := HS.out j v hj
    rw [HB1.out.cell (World.block_lt_of_cell? _ _ this)]; exact this
  clear hown hgrow hcur hcl
  obtain ⟨X1, hX1⟩ : ∃ X1, X1 = (ints bs).map (Value.int .u8) := ⟨_, rfl⟩
  have HX : Hid (X1 = (ints bs).map (Value.int .u8)) := hX1
  have HXL : Hid (X1.length = n) := by show X1.length = n; rw [hX1, List.length_map, ints_length, HL.out]
  have HXS : Hid (0 < X1.length → (some ⟨w'.heap.size, 0, none⟩ : Option Addr) = some ⟨w'.heap.size, 0, none⟩ ∧ ∃ ad, some x = some ad ∧ ∀ j v, X1[j]? = some v → w1.cell? (ad.add j) = some v) := fun _ => ⟨rfl, x, rfl, by rw [hX1]; exact HS1.out⟩
  have HXO : Hid (∀ v ∈ X1, v.oneCell' = true) := by
    show ∀ v ∈ X1, v.oneCell' = true; rw [hX1]; intro v hv; obtain ⟨y, _, rfl⟩ := List.mem_map.1 hv; rfl
  clear hX1
  go_wp2_with (refine wpList_copy_splice rfl (.tmp 45) (.tmp 46) 22 22 rfl 5 Tryf.underlying22 size5 (some ⟨w'.heap.size, 0, none⟩) (some x) n n n cap rfl rfl w'.heap.size 0 cur 5 HCUR.out X1 (by rw [HXL.out]; simp) HXS.out (by rw [HXL.out, HCL.out]; omega) HXO.out w'.heap.size w' HB1.out (Nat.le_refl _) ?_; intro w2 HG2 hB2)
  have HB : Hid (Below w'.heap.size w' w2) := hB2
  have HR : Hid (ByteRow w2 (some ⟨w'.heap.size, 0, none⟩) n (ints bs)) := row_made (cur := cur) HL.out HCL.out (by rw [← HX.out]; exact HG2.out)
  have hlt2 : w'.heap.size < w2.heap.size := (Array.getElem?_eq_some_iff.1 HG2.out).1
  have HNE : Hid (∀ x, (some ⟨w'.heap.size, 0, none⟩ : Option Addr) = some x → x.block < w2.heap.size) := fun x h => by
    simp only [Option.some.injEq] at h; rw [← h]; exact hlt2
  clear hB2 HG2 HXS HXO HXL HX HCUR HCL HS1 HB1
  go_wp2_with fail
  refine (new_any (some ⟨w'.heap.size, 0, none⟩ : Option Addr) n n (q : Int) d w2).mono ?_
  rintro e u1 ⟨rfl, hrd, hb⟩
  have B1 : Hid (Below w'.heap.size w' u1) := HB.out.trans (hb.mono HB.out.size)
  have R1 : Hid (Rd u1 w2.heap.size (some ⟨w'.heap.size, 0, none⟩ : Option Addr) n n q d) := hrd
  have Y1 : Hid (ByteRow u1 (some ⟨w'.heap.size, 0, none⟩ : Option Addr) n (ints bs)) := HR.out.below hb
  have N1 : Hid (∀ g off, (some ⟨w'.heap.size, 0, none⟩ : Option Addr) = some ⟨g, off, none⟩ → g ≠ w2.heap.size) := fun g off h => Nat.ne_of_lt (HNE.out ⟨g, off, none⟩ h)
  have hsz0 : w'.heap.size ≤ w2.heap.size := HB.out.size
  clear hrd hb
  go_wp2_with fail
  refine (bool_false w2.heap.size (some ⟨w'.heap.size, 0, none⟩ : Option Addr) n n q (q + m) d bs u1 (by omega) (by omega) HK.out R1.out Y1.out N1.out (unhide HT) (unhide HG)).mono ?_
  rintro e u2 ⟨rfl, hrd, hmv⟩
  have B2 : Hid (Below w'.heap.size w' u2) := B1.out.trans (hmv.below B1.out.size hsz0)
  have R2 : Hid (Rd u2 w2.heap.size (some ⟨w'.heap.size, 0, none⟩ : Option Addr) n n ((((q + m) : Nat) : Int) + 5) d) := hrd
  have Y2 : Hid (ByteRow u2 (some ⟨w'.heap.size, 0, none⟩ : Option Addr) n (ints bs)) := Y1.out.mv hmv N1.out
  clear hrd hmv
  go_wp2_with fail
  refine (pos_any w2.heap.size (some ⟨w'.heap.size, 0, none⟩ : Option Addr) n n (((q + m : Nat) : Int) + 5) d u2 R2.out).mono ?_
  rintro e u ⟨rfl, hw⟩
  rw [hw]
  clear hw u
  have hds : decide ((q : Int) + (m : Int) < (q : Int)) = false := by simp; omega
  have hds2 : ((q : Int) + (m : Int) + 5 - 5) = (q : Int) + (m : Int) := by omega
  go_wp2_with fail
  refine (has_any (some ⟨w'.heap.size, 0, none⟩ : Option Addr) n n (q + m) bs ⟨#[102, 97, 108, 115, 101]⟩ _ true _ (by omega) hkn (by omega) (by decide) Y2.out (unhide HG)).mono ?_
  rintro e v1 ⟨rfl, m1, hw⟩
  rw [hw]
  clear hw v1
  obtain ⟨ug, hug⟩ : ∃ ug, ug = u2.drewN m1 := ⟨_, rfl⟩
  rw [← hug]
  have BG : Hid (Below w'.heap.size w' ug) := by rw [hug]; exact below_drewN B2.out _
  have YG : Hid (ByteRow ug (some ⟨w'.heap.size, 0, none⟩ : Option Addr) n (ints bs)) := by rw [hug]; exact Y2.out.drewN _
  clear hug
  have hlen : q + m + 5 ≤ n := by
    have h1 := ((isPrefixOf_iff _ _ _).1 (unhide HG)).1
    rw [HL.out] at h1
    have h2 : fa.length = 5 := rfl
    omega
  clear N1 R1 R2 Y1 Y2 B1 B2 HR HB HNE
  go_wp2_with (refine wpList_make_own _ rfl _ _ 22 rfl ug.heap.size 5 i0 _ 1 Tryf.underlying22 hi hz0 hz1 .i64 .i64 ((n : Int) + 1) (n + 1) rfl rfl (by omega) (by rw [hz2]; omega) (by unfold maxLen; omega) (Nat.le_refl _) ?_)
  intro ux hown hgrow
  have BX : Hid (Below ug.heap.size ug ux) := (Below.refl _ _).grown hgrow (Nat.le_refl _) (fun k h => by cases h)
  have OX : Hid (ux.ownsRow ug.heap.size 5 1 (.slice (some ⟨ug.heap.size, 0, none⟩) 0 (n + 1)) 0 (cellsOf ((swp bs tr (q + m) (q + m + 5)).take 0))) := hown
  have HSL : Hid ((swp bs tr (q + m) (q + m + 5)).length = q + m + 4 + (n - (q + m + 5))) := swp_len HL.out hkn
  clear hown hgrow
  go_wp2
  go_loopw [17, 18] (fun v x wr => ∃ i : Nat, i ≤ q + m ∧ x = .int .i64 i ∧ v = .slice (some ⟨ug.heap.size, 0, none⟩) i (n + 1) ∧ Hid (wr.ownsRow ug.heap.size 5 1 (.slice (some ⟨ug.heap.size, 0, none⟩) i (n + 1)) i (cellsOf ((swp bs tr (q + m) (q + m + 5)).take i))) ∧ Hid (Below ug.heap.size ug wr)) (fun _ x _ => q + m - (intOf x).toNat)
  case atStart => exact ⟨0, Nat.zero_le _, rfl, rfl, OX, BX⟩
  case round =>
  obtain ⟨i, hi1, rfl, rfl, OR, BR⟩ := hrel
  by_cases hlt : i < q + m
  · obtain ⟨c, hc⟩ : ∃ c, c = (ints bs).getD i 0 := ⟨_, rfl⟩
    have g1 : wr.cell? ⟨w'.heap.size, i, none⟩ = some (.int .u8 c) := by rw [hc]; exact row_cell YG.out BR.out i (by omega)
    have HX : Hid (c = (ints bs).getD i 0) := hc
    clear hc
    go_wp2_with (at_builtin; refine wpList_append_fits _ rfl (.tmp 111) (.tmp 116) 22 rfl ug.heap.size 5 i0 1 Tryf.underlying22 hi hz1 ug.heap.size i (n + 1) _ rfl (OR.out.alloc _) ⟨wr.heap.size, 0, none⟩ 1 1 [.int .u8 c] rfl rfl (cell_one_new _ _ _) (by simp [Value.oneCell']) (by omega) ?_)
    intro w4 hown4 hgrow4
    have O4 : Hid (w4.ownsRow ug.heap.size 5 1 (.slice (some ⟨ug.heap.size, 0, none⟩) (i + 1) (n + 1)) (i + 1) (cellsOf ((swp bs tr (q + m) (q + m + 5)).take (i + 1)))) := by
      rw [← cells_step (l := swp bs tr (q + m) (q + m + 5)) (c := c) (by rw [HSL.out]; omega) (by rw [HX.out, ints_getD, swp_lo (by rw [HL.out]; exact hkn) hlt])]; exact hown4
    have B4 : Hid (Below ug.heap.size ug w4) := (BR.out.alloc BR.out.size _).grown hgrow4 (by have := BR.out.size; simp; omega) (fun k h => by cases h; exact Nat.le_refl _)
    clear hown4 hgrow4
    go_wp2
    go_roundw
    case rel => exact ⟨i + 1, by omega, by go_num, rfl, O4, B4⟩
    case measure => simp [intOf]; omega
  obtain rfl : i = q + m := by omega
  clear hlt hi1 OX BX
  go_wp2
  obtain ⟨wo, hwo⟩ : ∃ wo, wo = wr := ⟨_, rfl⟩
  rw [← hwo]
  have OW : Hid (wo.ownsRow ug.heap.size 5 1 (.slice (some ⟨ug.heap.size, 0, none⟩) (q + m) (n + 1)) (q + m) (cellsOf ((swp bs tr (q + m) (q + m + 5)).take (q + m)))) := by rw [hwo]; exact OR.out
  have BW : Hid (Below ug.heap.size ug wo) := by rw [hwo]; exact BR.out
  clear hwo OR BR wr
  rw [show (((q + m : Nat)) : Int) = (q : Int) + (m : Int) from Int.natCast_add q m]
  go_loopw [17, 19] (fun v x wr => ∃ i : Nat, i ≤ 4 ∧ x = .int .i64 i ∧ v = .slice (some ⟨ug.heap.size, 0, none⟩) (q + m + i) (n + 1) ∧ Hid (wr.ownsRow ug.heap.size 5 1 (.slice (some ⟨ug.heap.size, 0, none⟩) (q + m + i) (n + 1)) (q + m + i) (cellsOf ((swp bs tr (q + m) (q + m + 5)).take (q + m + i)))) ∧ Hid (Below ug.heap.size ug wr)) (fun _ x _ => 4 - (intOf x).toNat)
  case atStart => exact ⟨0, Nat.zero_le _, rfl, rfl, OW, BW⟩
  case round =>
  obtain ⟨i, hi1, rfl, rfl, OR, BR⟩ := hrel
  by_cases hlt : i < 4
  · have hO : Hid (∀ c : Int, c = (((tr : List UInt8).getD i 0).toNat : Int) → cellsOf ((swp bs tr (q + m) (q + m + 5)).take (q + m + i)) ++ [.int .u8 c] = cellsOf ((swp bs tr (q + m) (q + m + 5)).take (q + m + i + 1))) := fun c hc =>
      cells_step (by rw [HSL.out]; omega) (by rw [hc, swp_mid (by rw [HL.out]; exact hkn) (by exact hlt)])
    obtain ⟨c, hc⟩ : ∃ c : Int, c = (((tr : List UInt8).getD i 0).toNat : Int) := ⟨_, rfl⟩
    have hidx : ∀ w, (Instr.index 9 (.string ⟨#[116, 114, 117, 101]⟩) (.int .i64 (i : Int))).run Tryf.prog w = .ok (.int .u8 c) w := fun w => by
      rw [hc]; exact index_run ⟨#[116, 114, 117, 101]⟩ i hlt w
    have HX : Hid (c = (((tr : List UInt8).getD i 0).toNat : Int)) := hc
    clear hc
    go_wp2_with (at_builtin; refine wpList_append_fits _ rfl (.tmp 124) (.tmp 128) 22 rfl ug.heap.size 5 i0 1 Tryf.underlying22 hi hz1 ug.heap.size (q + m + i) (n + 1) _ rfl (OR.out.alloc _) ⟨wr.heap.size, 0, none⟩ 1 1 [.int .u8 c] rfl rfl (cell_one_new _ _ _) (by simp [Value.oneCell']) (by omega) ?_)
    intro w4 hown4 hgrow4
    have O4 : Hid (w4.ownsRow ug.heap.size 5 1 (.slice (some ⟨ug.heap.size, 0, none⟩) (q + m + (i + 1)) (n + 1)) (q + m + (i + 1)) (cellsOf ((swp bs tr (q + m) (q + m + 5)).take (q + m + (i + 1))))) := by
      rw [← Nat.add_assoc, ← hO.out c HX.out]; exact hown4
    have B4 : Hid (Below ug.heap.size ug w4) := (BR.out.alloc BR.out.size _).grown hgrow4 (by have := BR.out.size; simp; omega) (fun k h => by cases h; exact Nat.le_refl _)
    clear hown4 hgrow4 hidx
    go_wp2
    go_roundw
    case rel => exact ⟨i + 1, by omega, by go_num, rfl, O4, B4⟩
    case measure => simp [intOf]; omega
  obtain rfl : i = 4 := by omega
  clear hlt hi1 OW BW
  go_wp2
  obtain ⟨wo, hwo⟩ : ∃ wo, wo = wr := ⟨_, rfl⟩
  rw [← hwo]
  have OW : Hid (wo.ownsRow ug.heap.size 5 1 (.slice (some ⟨ug.heap.size, 0, none⟩) (q + m + 4) (n + 1)) (q + m + 4) (cellsOf ((swp bs tr (q + m) (q + m + 5)).take (q + m + 4)))) := by rw [hwo]; exact OR.out
  have BW : Hid (Below ug.heap.size ug wo) := by rw [hwo]; exact BR.out
  clear hwo OR BR wr
  rw [show (((4 : Nat)) : Int) = (4 : Int) from rfl]
  go_loopw [17, 20] (fun v x wr => ∃ j : Nat, q + m + 5 + j ≤ n ∧ x = .int .i64 ((q : Int) + (m : Int) + 5 + (j : Int)) ∧ v = .slice (some ⟨ug.heap.size, 0, none⟩) (q + m + 4 + j) (n + 1) ∧ Hid (wr.ownsRow ug.heap.size 5 1 (.slice (some ⟨ug.heap.size, 0, none⟩) (q + m + 4 + j) (n + 1)) (q + m + 4 + j) (cellsOf ((swp bs tr (q + m) (q + m + 5)).take (q + m + 4 + j)))) ∧ Hid (Below ug.heap.size ug wr)) (fun _ x _ => n - (intOf x).toNat)
  case atStart => exact ⟨0, by omega, by go_num, rfl, OW, BW⟩
  case round =>
  obtain ⟨j, hj1, rfl, rfl, OR, BR⟩ := hrel
  by_cases hlt : q + m + 5 + j < n
  · obtain ⟨c, hc⟩ : ∃ c, c = (ints bs).getD (q + m + 5 + j) 0 := ⟨_, rfl⟩
    have g1 : wr.cell? ⟨w'.heap.size, q + m + 5 + j, none⟩ = some (.int .u8 c) := by rw [hc]; exact row_cell YG.out BR.out _ hlt
    have HX : Hid (c = (ints bs).getD (q + m + 5 + j) 0) := hc
    clear hc
    go_wp2_with (at_builtin; refine wpList_append_fits _ rfl (.tmp 137) (.tmp 142) 22 rfl ug.heap.size 5 i0 1 Tryf.underlying22 hi hz1 ug.heap.size (q + m + 4 + j) (n + 1) _ rfl (OR.out.alloc _) ⟨wr.heap.size, 0, none⟩ 1 1 [.int .u8 c] rfl rfl (cell_one_new _ _ _) (by simp [Value.oneCell']) (by omega) ?_)
    intro w4 hown4 hgrow4
    have O4 : Hid (w4.ownsRow ug.heap.size 5 1 (.slice (some ⟨ug.heap.size, 0, none⟩) (q + m + 4 + (j + 1)) (n + 1)) (q + m + 4 + (j + 1)) (cellsOf ((swp bs tr (q + m) (q + m + 5)).take (q + m + 4 + (j + 1))))) := by
      rw [← Nat.add_assoc, ← cells_step (l := swp bs tr (q + m) (q + m + 5)) (c := c) (by rw [HSL.out]; omega) (by rw [HX.out, ints_getD]; exact congrArg (fun b : UInt8 => (b.toNat : Int)) (swp_hi (O := tr) (by rw [HL.out]; exact hkn)).symm)]; exact hown4
    have B4 : Hid (Below ug.heap.size ug w4) := (BR.out.alloc BR.out.size _).grown hgrow4 (by have := BR.out.size; simp; omega) (fun k h => by cases h; exact Nat.le_refl _)
    clear hown4 hgrow4
    go_wp2
    go_roundw
    case rel => exact ⟨j + 1, by omega, by go_num, rfl, O4, B4⟩
    case measure => simp [intOf]; omega
  obtain ⟨N, hN⟩ : ∃ N, N = q + m + 4 + j := ⟨_, rfl⟩
  rw [← hN]
  have hNe : (swp bs tr (q + m) (q + m + 5)).length = N := by rw [HSL.out, hN]; omega
  have HNE2 : Hid ((swp bs tr (q + m) (q + m + 5)).length = N) := hNe
  have ON : Hid (wr.ownsRow ug.heap.size 5 1 (.slice (some ⟨ug.heap.size, 0, none⟩) N (n + 1)) N (cellsOf (swp bs tr (q + m) (q + m + 5)))) := by
    have h := OR.out
    rw [← hN, List.take_of_length_le (by omega)] at h
    exact h
  have hN1 : N ≤ n + 1 := by omega
  have hN2 : q + m + 4 ≤ N := by omega
  have YR : Hid (ByteRow wr (some ⟨ug.heap.size, 0, none⟩) N (ints (swp bs tr (q + m) (q + m + 5)))) := row_own hNe ON.out
  have BW2 : Hid (Below w'.heap.size w' wr) := BG.out.trans (BR.out.mono BG.out.size)
  have hgl : ug.heap.size < wr.heap.size := own_lt ON.out
  have HSK : Hid (SkipTo (ints (swp bs tr (q + m) (q + m + 5))) N q (q + m)) := swp_skip HL.out HK.out (by omega) (by decide)
  clear hNe hN
  have hdrop : Hid ((swp bs tr (q + m) (q + m + 5)).drop (q + m) = tr ++ bs.drop (q + m + 5)) := swp_drop (by rw [HL.out]; exact hkn)
  go_wp2_with fail
  refine (new_any (some ⟨ug.heap.size, 0, none⟩) N (n + 1) (q : Int) d wr).mono ?_
  rintro e u5 ⟨rfl, hrd, hb⟩
  have B5 : Hid (Below w'.heap.size w' u5) := BW2.out.trans (hb.mono BW2.out.size)
  have R5 : Hid (Rd u5 wr.heap.size (some ⟨ug.heap.size, 0, none⟩) N (n + 1) q d) := hrd
  have Y5 : Hid (ByteRow u5 (some ⟨ug.heap.size, 0, none⟩) N (ints (swp bs tr (q + m) (q + m + 5)))) := YR.out.below hb
  have N5 : Hid (∀ g off, (some ⟨ug.heap.size, 0, none⟩ : Option Addr) = some ⟨g, off, none⟩ → g ≠ wr.heap.size) := fun g off h => by
    simp only [Option.some.injEq, Addr.mk.injEq, and_true] at h; omega
  have hsz5 : w'.heap.size ≤ wr.heap.size := BW2.out.size
  clear hrd hb
  go_wp2_with fail
  refine (bool_true wr.heap.size (some ⟨ug.heap.size, 0, none⟩) N (n + 1) q (q + m) d (swp bs tr (q + m) (q + m + 5)) u5 (by omega) hN1 HSK.out R5.out Y5.out N5.out (by rw [hdrop.out]; rfl)).mono ?_
  rintro e u6 ⟨rfl, hrd, hmv⟩
  have B6 : Hid (Below w'.heap.size w' u6) := B5.out.trans (hmv.below B5.out.size hsz5)
  have R6 : Hid (Rd u6 wr.heap.size (some ⟨ug.heap.size, 0, none⟩) N (n + 1) ((((q + m) : Nat) : Int) + 4) d) := hrd
  clear hrd hmv
  go_wp2_with fail
  refine (pos_any wr.heap.size (some ⟨ug.heap.size, 0, none⟩) N (n + 1) (((q + m : Nat) : Int) + 4) d u6 R6.out).mono ?_
  rintro e u ⟨rfl, hw⟩
  rw [hw]
  clear hw u
  go_wp2
  go_ret
  exact ⟨by simp, B6.out⟩

set_option maxRecDepth 100000 in
set_option maxHeartbeats 1000000 in
theorem lawB_some_E (F : Interp) (x : Addr) (n cap : Nat) (q m : Nat) (d : Int) (bs : List UInt8) (w : World) (hF : F.answers w.tape) (hl : bs.length = n) (hn : n ≤ 1048576) (hcap : n ≤ cap) (hk : SkipTo (ints bs) n q (q + m)) (hsrc : ∀ j v, ((ints bs).map (Value.int .u8))[j]? = some v → w.cell? (x.add j) = some v) (ht : tr.isPrefixOf (bs.drop (q + m)) = false) (hf : fa.isPrefixOf (bs.drop (q + m)) = false) :
    Calls Tryf.prog 4 #[.slice (some x) n cap, .int .i64 (q : Int), .int .i64 d] w fun e w' => e = .returned (.bool true) ∧ Below w.heap.size w w' := by
  have HF : Hid (F.answers w.tape) := hF
  have HL : Hid (bs.length = n) := hl
  have HK : Hid (SkipTo (ints bs) n q (q + m)) := hk
  have hkn : q + m ≤ n := hk.hi
  have HT := hide ht
  clear hF hl hk ht
  have HG := hide hf
  clear hf
  have HS : Hid (∀ j v, ((ints bs).map (Value.int .u8))[j]? = some v → w.cell? (x.add j) = some v) := hsrc
  clear hsrc
  obtain ⟨i0, hi, hz0, hz1, hz2⟩ := info_parts Tryf.info5
  have q22 : ∀ (w : World) (a : Option Addr) (n c n' c' : Nat), (binOp .neq 22 (.slice a n c) (.slice none n' c')).run Tryf.prog w = .ok (.bool (!a.isNone)) w := fun w a n c n' c' => run_neq_slice_nil_any w _ _ a n c n' c' Tryf.underlying22
  have db : decide ((1048576 : Int) < (n : Int)) = false := by simp; omega
  have hd0 : decide ((q : Int) < 0) = false := by simp
  have hd1 : decide ((n : Int) < (q : Int)) = false := by simp; omega
  have hd1n : decide (n < q) = false := by simp; omega
  go_enter Tryf.func4, Tryf.ntmps4
  go_wp2_with fail
  refine (bytes2 _ n cap q d w).mono ?_
  rintro e w' ⟨⟨r, rfl⟩, rfl⟩
  cases r with
  | false =>
    go_wp2
    go_ret
    exact ⟨rfl, Below.refl _ _⟩
  | true =>
  go_wp2_with (refine wpList_make_full _ rfl _ _ 22 rfl w'.heap.size 5 i0 _ 1 Tryf.underlying22 hi hz0 hz1 .i64 .i64 (n : Int) (n : Int) n rfl rfl rfl rfl (by rw [hz2]; omega) (by unfold maxLen; omega) (Nat.le_refl _) ?_)
  intro w1 hown hgrow
  have HB1 : Hid (Below w'.heap.size w' w1) := (Below.refl _ _).grown hgrow (Nat.le_refl _) (fun k h => by cases h)
  obtain ⟨cur, hcur, hcl⟩ := own_row hown
  have HCL : Hid (cur.length = n) := hcl
  have HCUR : Hid (w1.heap[w'.heap.size]? = some (.cells cur.toArray 5 (0, 0))) := hcur
  have HS1 : Hid (∀ j v, ((ints bs).map (Value.int .u8))[j]? = some v → w1.cell? (x.add j) = some v) := fun j v hj => by
    have := HS.out j v hj
    rw [HB1.out.cell (World.block_lt_of_cell? _ _ this)]; exact this
  clear hown hgrow hcur hcl
  obtain ⟨X1, hX1⟩ : ∃ X1, X1 = (ints bs).map (Value.int .u8) := ⟨_, rfl⟩
  have HX : Hid (X1 = (ints bs).map (Value.int .u8)) := hX1
  have HXL : Hid (X1.length = n) := by show X1.length = n; rw [hX1, List.length_map, ints_length, HL.out]
  have HXS : Hid (0 < X1.length → (some ⟨w'.heap.size, 0, none⟩ : Option Addr) = some ⟨w'.heap.size, 0, none⟩ ∧ ∃ ad, some x = some ad ∧ ∀ j v, X1[j]? = some v → w1.cell? (ad.add j) = some v) := fun _ => ⟨rfl, x, rfl, by rw [hX1]; exact HS1.out⟩
  have HXO : Hid (∀ v ∈ X1, v.oneCell' = true) := by
    show ∀ v ∈ X1, v.oneCell' = true; rw [hX1]; intro v hv; obtain ⟨y, _, rfl⟩ := List.mem_map.1 hv; rfl
  clear hX1
  go_wp2_with (refine wpList_copy_splice rfl (.tmp 45) (.tmp 46) 22 22 rfl 5 Tryf.underlying22 size5 (some ⟨w'.heap.size, 0, none⟩) (some x) n n n cap rfl rfl w'.heap.size 0 cur 5 HCUR.out X1 (by rw [HXL.out]; simp) HXS.out (by rw [HXL.out, HCL.out]; omega) HXO.out w'.heap.size w' HB1.out (Nat.le_refl _) ?_; intro w2 HG2 hB2)
  have HB : Hid (Below w'.heap.size w' w2) := hB2
  have HR : Hid (ByteRow w2 (some ⟨w'.heap.size, 0, none⟩) n (ints bs)) := row_made (cur := cur) HL.out HCL.out (by rw [← HX.out]; exact HG2.out)
  have hlt2 : w'.heap.size < w2.heap.size := (Array.getElem?_eq_some_iff.1 HG2.out).1
  have HNE : Hid (∀ x, (some ⟨w'.heap.size, 0, none⟩ : Option Addr) = some x → x.block < w2.heap.size) := fun x h => by
    simp only [Option.some.injEq] at h; rw [← h]; exact hlt2
  clear hB2 HG2 HXS HXO HXL HX HCUR HCL HS1 HB1
  go_wp2_with fail
  refine (new_any (some ⟨w'.heap.size, 0, none⟩ : Option Addr) n n (q : Int) d w2).mono ?_
  rintro e u1 ⟨rfl, hrd, hb⟩
  have B1 : Hid (Below w'.heap.size w' u1) := HB.out.trans (hb.mono HB.out.size)
  have R1 : Hid (Rd u1 w2.heap.size (some ⟨w'.heap.size, 0, none⟩ : Option Addr) n n q d) := hrd
  have Y1 : Hid (ByteRow u1 (some ⟨w'.heap.size, 0, none⟩ : Option Addr) n (ints bs)) := HR.out.below hb
  have N1 : Hid (∀ g off, (some ⟨w'.heap.size, 0, none⟩ : Option Addr) = some ⟨g, off, none⟩ → g ≠ w2.heap.size) := fun g off h => Nat.ne_of_lt (HNE.out ⟨g, off, none⟩ h)
  have hsz0 : w'.heap.size ≤ w2.heap.size := HB.out.size
  clear hrd hb
  go_wp2_with fail
  refine (bool_err F w2.heap.size (some ⟨w'.heap.size, 0, none⟩ : Option Addr) n n q (q + m) d bs u1 (by rw [B1.out.tape]; exact HF.out) (by omega) (by omega) HK.out R1.out Y1.out N1.out (unhide HT) (unhide HG)).mono ?_
  rintro e u2 ⟨⟨ad2, rfl⟩, hrd, hmv⟩
  have B2 : Hid (Below w'.heap.size w' u2) := B1.out.trans (hmv.below B1.out.size hsz0)
  have R2 : Hid (Rd u2 w2.heap.size (some ⟨w'.heap.size, 0, none⟩ : Option Addr) n n ((((q + m) : Nat) : Int)) d) := hrd
  have Y2 : Hid (ByteRow u2 (some ⟨w'.heap.size, 0, none⟩ : Option Addr) n (ints bs)) := Y1.out.mv hmv N1.out
  clear hrd hmv
  go_wp2_with fail
  refine (pos_any w2.heap.size (some ⟨w'.heap.size, 0, none⟩ : Option Addr) n n (((q + m : Nat) : Int)) d u2 R2.out).mono ?_
  rintro e u ⟨rfl, hw⟩
  rw [hw]
  clear hw u
  go_wp2_with fail
  refine (sre_true (some ⟨w'.heap.size, 0, none⟩ : Option Addr) n n q (q + m) (ints bs) _ _ (by omega) HK.out (by omega) Y2.out).mono ?_
  rintro e v1 ⟨rfl, hw⟩
  rw [hw]
  clear hw v1
  go_wp2_with fail
  refine (bool_err F w2.heap.size (some ⟨w'.heap.size, 0, none⟩ : Option Addr) n n (q + m) (q + m) d bs u2 (by rw [B2.out.tape]; exact HF.out) (by omega) (by omega) HK.out.self R2.out Y2.out N1.out (unhide HT) (unhide HG)).mono ?_
  rintro e u3 ⟨⟨ad3, rfl⟩, hrd, hmv⟩
  have B3 : Hid (Below w'.heap.size w' u3) := B2.out.trans (hmv.below B2.out.size hsz0)
  have R3 : Hid (Rd u3 w2.heap.size (some ⟨w'.heap.size, 0, none⟩ : Option Addr) n n ((((q + m) : Nat) : Int)) d) := hrd
  clear hrd hmv
  go_wp2_with fail
  refine (pos_any w2.heap.size (some ⟨w'.heap.size, 0, none⟩ : Option Addr) n n ((q + m : Nat) : Int) d u3 R3.out).mono ?_
  rintro e u ⟨rfl, hw⟩
  rw [hw]
  clear hw u
  go_wp2
  go_ret
  exact ⟨by simp, B3.out⟩

set_option maxRecDepth 100000 in
set_option maxHeartbeats 1000000 in
theorem lawB_nil_E (F : Interp) (n cap : Nat) (hn0 : n ≤ 0) (q m : Nat) (d : Int) (bs : List UInt8) (w : World) (hF : F.answers w.tape) (hl : bs.length = n) (hn : n ≤ 1048576) (hcap : n ≤ cap) (hk : SkipTo (ints bs) n q (q + m)) (ht : tr.isPrefixOf (bs.drop (q + m)) = false) (hf : fa.isPrefixOf (bs.drop (q + m)) = false) :
    Calls Tryf.prog 4 #[.slice none n cap, .int .i64 (q : Int), .int .i64 d] w fun e w' => e = .returned (.bool true) ∧ Below w.heap.size w w' := by
  have HF : Hid (F.answers w.tape) := hF
  have HL : Hid (bs.length = n) := hl
  have HK : Hid (SkipTo (ints bs) n q (q + m)) := hk
  have hkn : q + m ≤ n := hk.hi
  have HT := hide ht
  clear hF hl hk ht
  have HG := hide hf
  clear hf
  have q22 : ∀ (w : World) (a : Option Addr) (n c n' c' : Nat), (binOp .neq 22 (.slice a n c) (.slice none n' c')).run Tryf.prog w = .ok (.bool (!a.isNone)) w := fun w a n c n' c' => run_neq_slice_nil_any w _ _ a n c n' c' Tryf.underlying22
  have db : decide ((1048576 : Int) < (n : Int)) = false := by simp; omega
  have hd0 : decide ((q : Int) < 0) = false := by simp
  have hd1 : decide ((n : Int) < (q : Int)) = false := by simp; omega
  have hd1n : decide (n < q) = false := by simp; omega
  go_enter Tryf.func4, Tryf.ntmps4
  go_wp2_with fail
  refine (bytes2 _ n cap q d w).mono ?_
  rintro e w' ⟨⟨r, rfl⟩, rfl⟩
  cases r with
  | false =>
    go_wp2
    go_ret
    exact ⟨rfl, Below.refl _ _⟩
  | true =>
  have HR : Hid (ByteRow w' none n (ints bs)) := ⟨by rw [ints_length, HL.out], .inl (by omega)⟩
  have HB : Hid (Below w'.heap.size w' w') := Below.refl _ _
  have HNE : Hid (∀ x, (none : Option Addr) = some x → x.block < w'.heap.size) := fun _ h => by cases h
  go_wp2_with fail
  refine (new_any (none : Option Addr) n cap (q : Int) d w').mono ?_
  rintro e u1 ⟨rfl, hrd, hb⟩
  have B1 : Hid (Below w'.heap.size w' u1) := HB.out.trans (hb.mono HB.out.size)
  have R1 : Hid (Rd u1 w'.heap.size (none : Option Addr) n cap q d) := hrd
  have Y1 : Hid (ByteRow u1 (none : Option Addr) n (ints bs)) := HR.out.below hb
  have N1 : Hid (∀ g off, (none : Option Addr) = some ⟨g, off, none⟩ → g ≠ w'.heap.size) := fun g off h => Nat.ne_of_lt (HNE.out ⟨g, off, none⟩ h)
  have hsz0 : w'.heap.size ≤ w'.heap.size := HB.out.size
  clear hrd hb
  go_wp2_with fail
  refine (bool_err F w'.heap.size (none : Option Addr) n cap q (q + m) d bs u1 (by rw [B1.out.tape]; exact HF.out) (by omega) (by omega) HK.out R1.out Y1.out N1.out (unhide HT) (unhide HG)).mono ?_
  rintro e u2 ⟨⟨ad2, rfl⟩, hrd, hmv⟩
  have B2 : Hid (Below w'.heap.size w' u2) := B1.out.trans (hmv.below B1.out.size hsz0)
  have R2 : Hid (Rd u2 w'.heap.size (none : Option Addr) n cap ((((q + m) : Nat) : Int)) d) := hrd
  have Y2 : Hid (ByteRow u2 (none : Option Addr) n (ints bs)) := Y1.out.mv hmv N1.out
  clear hrd hmv
  go_wp2_with fail
  refine (pos_any w'.heap.size (none : Option Addr) n cap (((q + m : Nat) : Int)) d u2 R2.out).mono ?_
  rintro e u ⟨rfl, hw⟩
  rw [hw]
  clear hw u
  go_wp2_with fail
  refine (sre_true (none : Option Addr) n cap q (q + m) (ints bs) _ _ (by omega) HK.out (by omega) Y2.out).mono ?_
  rintro e v1 ⟨rfl, hw⟩
  rw [hw]
  clear hw v1
  go_wp2_with fail
  refine (bool_err F w'.heap.size (none : Option Addr) n cap (q + m) (q + m) d bs u2 (by rw [B2.out.tape]; exact HF.out) (by omega) (by omega) HK.out.self R2.out Y2.out N1.out (unhide HT) (unhide HG)).mono ?_
  rintro e u3 ⟨⟨ad3, rfl⟩, hrd, hmv⟩
  have B3 : Hid (Below w'.heap.size w' u3) := B2.out.trans (hmv.below B2.out.size hsz0)
  have R3 : Hid (Rd u3 w'.heap.size (none : Option Addr) n cap ((((q + m) : Nat) : Int)) d) := hrd
  clear hrd hmv
  go_wp2_with fail
  refine (pos_any w'.heap.size (none : Option Addr) n cap ((q + m : Nat) : Int) d u3 R3.out).mono ?_
  rintro e u ⟨rfl, hw⟩
  rw [hw]
  clear hw u
  go_wp2
  go_ret
  exact ⟨by simp, B3.out⟩

/-- THE WALK, whatever the input. -/
theorem lawB_walk (F : Interp) (a : Option Addr) (n cap : Nat) (p d : Int) (bs : List UInt8) (w : World) (hF : F.answers w.tape) (hl : bs.length = n) (hcap : n ≤ cap) (hnil : a = none → n = 0)
    (hsrc : ∀ x, a = some x → ∀ j v, ((ints bs).map (Value.int .u8))[j]? = some v → w.cell? (x.add j) = some v) :
    Calls Tryf.prog 4 #[.slice a n cap, .int .i64 p, .int .i64 d] w fun e w' => e = .returned (.bool true) ∧ Below w.heap.size w w' := by
  by_cases hq : (1048576 : Int) < (n : Int) ∨ p < 0 ∨ (n : Int) < p
  · exact lawB_quick a n cap p d w hq
  obtain ⟨q, rfl⟩ := Int.eq_ofNat_of_zero_le (show 0 ≤ p by omega)
  obtain ⟨k0, hk0⟩ := skip_exists (ints bs) n q (by omega)
  obtain ⟨m, rfl⟩ : ∃ m, k0 = q + m := ⟨k0 - q, by have := hk0.lo; omega⟩
  have hn : n ≤ 1048576 := by omega
  cases a with
  | none =>
    have h0 : n ≤ 0 := Nat.le_of_eq (hnil rfl)
    have hb : bs = [] := List.eq_nil_of_length_eq_zero (by omega)
    have hd : bs.drop (q + m) = [] := by rw [hb]; simp
    exact lawB_nil_E F n cap h0 q m d bs w hF hl hn hcap hk0 (by rw [hd]; rfl) (by rw [hd]; rfl)
  | some x =>
    cases ht : tr.isPrefixOf (bs.drop (q + m)) with
    | true => exact lawB_some_T F x n cap q m d bs w hF hl hn hcap hk0 (hsrc x rfl) ht
    | false =>
      cases hf : fa.isPrefixOf (bs.drop (q + m)) with
      | true => exact lawB_some_F F x n cap q m d bs w hF hl hn hcap hk0 (hsrc x rfl) ht hf
      | false => exact lawB_some_E F x n cap q m d bs w hF hl hn hcap hk0 (hsrc x rfl) ht hf
end Go.Proofs.Qxb6628830aFmt
