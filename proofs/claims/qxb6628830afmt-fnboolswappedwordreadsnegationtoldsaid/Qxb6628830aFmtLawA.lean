/-
  The walk of the first law (3).
-/
import Derived.Test.Qxb6628830aFmtFront
namespace Go.Proofs.Qxb6628830aFmt
open Go.RowKit Go.Extern.Stop Go.Stop Go.Extern
set_option linter.unusedVariables false

set_option maxHeartbeats 1000000 in
theorem lawA_quick (a : Option Addr) (n cap : Nat) (p d : Int) (w : World) (h : (1048576 : Int) < (n : Int) ∨ p < 0 ∨ (n : Int) < p) :
    Calls Tryf.prog 3 #[.slice a n cap, .int .i64 p, .int .i64 d] w fun e w' => e = .returned (.bool true) ∧ Below w.heap.size w w' := by
  go_enter Tryf.func3, Tryf.ntmps3
  go_wp2_with fail
  refine (bytes1 _ n cap p d w).mono ?_
  rintro e w' ⟨⟨r, rfl⟩, rfl⟩
  cases r with
  | false =>
    go_wp2
    go_ret
    exact ⟨rfl, Below.refl _ _⟩
  | true =>
  by_cases hbig : (1048576 : Int) < (n : Int)
  · go_wp2
    go_ret
    exact ⟨rfl, Below.refl _ _⟩
  by_cases hp0 : p < 0
  · go_wp2
    go_ret
    exact ⟨rfl, Below.refl _ _⟩
  have hpn : (n : Int) < p := by omega
  clear h
  go_wp2
  go_ret
  exact ⟨rfl, Below.refl _ _⟩

set_option maxHeartbeats 1000000 in
theorem lawA_some_T (F : Interp) (x : Addr) (n cap : Nat) (q m : Nat) (d : Int) (bs : List UInt8) (w : World) (hF : F.answers w.tape) (hl : bs.length = n) (hn : n ≤ 1048576) (hcap : n ≤ cap) (hk : SkipTo (ints bs) n q (q + m)) (hsrc : ∀ j v, ((ints bs).map (Value.int .u8))[j]? = some v → w.cell? (x.add j) = some v) (ht : tr.isPrefixOf (bs.drop (q + m)) = true) :
    Calls Tryf.prog 3 #[.slice (some x) n cap, .int .i64 (q : Int), .int .i64 d] w fun e w' => e = .returned (.bool true) ∧ Below w.heap.size w w' := by
  have HF : Hid (F.answers w.tape) := hF
  have HL : Hid (bs.length = n) := hl
  have HK : Hid (SkipTo (ints bs) n q (q + m)) := hk
  have hkn : q + m ≤ n := hk.hi
  have HT := hide ht
  clear hF hl hk ht
  have HS : Hid (∀ j v, ((ints bs).map (Value.int .u8))[j]? = some v → w.cell? (x.add j) = some v) := hsrc
  clear hsrc
  obtain ⟨i0, hi, hz0, hz1, hz2⟩ := info_parts Tryf.info5
  have q22 : ∀ (w : World) (a : Option Addr) (n c n' c' : Nat), (binOp .neq 22 (.slice a n c) (.slice none n' c')).run Tryf.prog w = .ok (.bool (!a.isNone)) w := fun w a n c n' c' => run_neq_slice_nil_any w _ _ a n c n' c' Tryf.underlying22
  have db : decide ((1048576 : Int) < (n : Int)) = false := by simp; omega
  have hd0 : decide ((q : Int) < 0) = false := by simp
  have hd1 : decide ((n : Int) < (q : Int)) = false := by simp; omega
  have hd1n : decide (n < q) = false := by simp; omega
  go_enter Tryf.func3, Tryf.ntmps3
  go_wp2_with fail
  refine (bytes1 _ n cap q d w).mono ?_
  rintro e w' ⟨⟨r, rfl⟩, rfl⟩
  cases r with
  | false =>
    go_wp2
    go_ret
    exact ⟨rfl, Below.refl _ _⟩
  | true =>
  go_wp2_with (refine wpList_make_full _ rfl _ _ 22 rfl w'.heap.size 5 i0 _ 1 Tryf.underlying22 hi hz0 hz1 .i64 .i64 (n : Int) (n : Int) n rfl rfl rfl rfl (by rw [hz2]; omega) (by unfold maxLen; omega) (Nat.le_refl _) ?_)
  intro w1 hown hgrow
  have HB1 : Hid (Below w'.heap.size w' w1) := (Below.refl _ _).grown hgrow (Nat.le_refl _) (fun k h => by cases h)
  obtain ⟨cur, hcur, hcl⟩ := own_row hown
  have HCL : Hid (cur.length = n) := hcl
  have HCUR : Hid (w1.heap[w'.heap.size]? = some (.cells cur.toArray 5 (0, 0))) := hcur
  have HS1 : Hid (∀ j v, ((ints bs).map (Value.int .u8))[j]? = some v → w1.cell? (x.add j) = some v) := fun j v hj => by
    have := HS.out j v hj
    rw [HB1.out.cell (World.block_lt_of_cell? _ _ this)]; exact this
  clear hown hgrow hcur hcl
  obtain ⟨X1, hX1⟩ : ∃ X1, X1 = (ints bs).map (Value.int .u8) := ⟨_, rfl⟩
  have HX : Hid (X1 = (ints bs).map (Value.int .u8)) := hX1
  have HXL : Hid (X1.length = n) := by show X1.length = n; rw [hX1, List.length_map, ints_length, HL.out]
  have HXS : Hid (0 < X1.length → (some ⟨w'.heap.size, 0, none⟩ : Option Addr) = some ⟨w'.heap.size, 0, none⟩ ∧ ∃ ad, some x = some ad ∧ ∀ j v, X1[j]? = some v → w1.cell? (ad.add j) = some v) := fun _ => ⟨rfl, x, rfl, by rw [hX1]; exact HS1.out⟩
  have HXO : Hid (∀ v ∈ X1, v.oneCell' = true) := by
    show ∀ v ∈ X1, v.oneCell' = true; rw [hX1]; intro v hv; obtain ⟨y, _, rfl⟩ := List.mem_map.1 hv; rfl
  clear hX1
  go_wp2_with (refine wpList_copy_splice rfl (.tmp 37) (.tmp 38) 22 22 rfl 5 Tryf.underlying22 size5 (some ⟨w'.heap.size, 0, none⟩) (some x) n n n cap rfl rfl w'.heap.size 0 cur 5 HCUR.out X1 (by rw [HXL.out]; simp) HXS.out (by rw [HXL.out, HCL.out]; omega) HXO.out w'.heap.size w' HB1.out (Nat.le_refl _) ?_; intro w2 HG2 hB2)
  have HB : Hid (Below w'.heap.size w' w2) := hB2
  have HR : Hid (ByteRow w2 (some ⟨w'.heap.size, 0, none⟩) n (ints bs)) := row_made (cur := cur) HL.out HCL.out (by rw [← HX.out]; exact HG2.out)
  have hlt2 : w'.heap.size < w2.heap.size := (Array.getElem?_eq_some_iff.1 HG2.out).1
  have HNE : Hid (∀ x, (some ⟨w'.heap.size, 0, none⟩ : Option Addr) = some x → x.block < w2.heap.size) := fun x h => by
    simp only [Option.some.injEq] at h; rw [← h]; exact hlt2
  clear hB2 HG2 HXS HXO HXL HX HCUR HCL HS1 HB1
  obtain ⟨a2, ha2⟩ : ∃ a2, a2 = (if n = q then (some ⟨w'.heap.size, 0, none⟩ : Option Addr) else Option.map (fun x : Addr => x.add q) (some ⟨w'.heap.size, 0, none⟩ : Option Addr)) := ⟨_, rfl⟩
  have hsl : ∀ w, (Instr.slice 22 (.slice (some ⟨w'.heap.size, 0, none⟩ : Option Addr) n n) (some (.int .i64 (q : Int))) none none).run Tryf.prog w = .ok (.slice a2 (n - q) (n - q)) w := fun w => cut_run _ n n q a2 w (by omega) ha2
  have HA2 : Hid (a2 = (if n = q then (some ⟨w'.heap.size, 0, none⟩ : Option Addr) else Option.map (fun x : Addr => x.add q) (some ⟨w'.heap.size, 0, none⟩ : Option Addr))) := ha2
  clear ha2
  go_wp2_with fail
  refine (new_any (some ⟨w'.heap.size, 0, none⟩ : Option Addr) n n (q : Int) d w2).mono ?_
  rintro e u1 ⟨rfl, hrd, hb⟩
  have B1 : Hid (Below w'.heap.size w' u1) := HB.out.trans (hb.mono HB.out.size)
  have R1 : Hid (Rd u1 w2.heap.size (some ⟨w'.heap.size, 0, none⟩ : Option Addr) n n q d) := hrd
  have Y1 : Hid (ByteRow u1 (some ⟨w'.heap.size, 0, none⟩ : Option Addr) n (ints bs)) := HR.out.below hb
  have N1 : Hid (∀ g off, (some ⟨w'.heap.size, 0, none⟩ : Option Addr) = some ⟨g, off, none⟩ → g ≠ w2.heap.size) := fun g off h => Nat.ne_of_lt (HNE.out ⟨g, off, none⟩ h)
  have hsz0 : w'.heap.size ≤ w2.heap.size := HB.out.size
  clear hrd hb
  go_wp2_with fail
  refine (bool_true w2.heap.size (some ⟨w'.heap.size, 0, none⟩ : Option Addr) n n q (q + m) d bs u1 (by omega) (by omega) HK.out R1.out Y1.out N1.out (unhide HT)).mono ?_
  rintro e u2 ⟨rfl, hrd, hmv⟩
  have B2 : Hid (Below w'.heap.size w' u2) := B1.out.trans (hmv.below B1.out.size hsz0)
  have R2 : Hid (Rd u2 w2.heap.size (some ⟨w'.heap.size, 0, none⟩ : Option Addr) n n ((((q + m) : Nat) : Int) + 4) d) := hrd
  have Y2 : Hid (ByteRow u2 (some ⟨w'.heap.size, 0, none⟩ : Option Addr) n (ints bs)) := Y1.out.mv hmv N1.out
  have N2 : Hid (∀ x, (some ⟨w'.heap.size, 0, none⟩ : Option Addr) = some x → x.block < u2.heap.size) := fun x h => by
    have h1 := HNE.out x h; have h2 := R2.out.lt; omega
  clear hrd hmv
  go_wp2_with fail
  refine (pos_any w2.heap.size (some ⟨w'.heap.size, 0, none⟩ : Option Addr) n n (((q + m : Nat) : Int) + 4) d u2 R2.out).mono ?_
  rintro e u ⟨rfl, hw⟩
  rw [hw]
  clear hw u
  go_wp2_with fail
  refine (new_any a2 (n - q) (n - q) 0 d u2).mono ?_
  rintro e u3 ⟨rfl, hrd, hb⟩
  have B3 : Hid (Below w'.heap.size w' u3) := B2.out.trans (hb.mono B2.out.size)
  have R3 : Hid (Rd u3 u2.heap.size a2 (n - q) (n - q) ((0 : Nat) : Int) d) := hrd
  have Y3 : Hid (ByteRow u3 (some ⟨w'.heap.size, 0, none⟩ : Option Addr) n (ints bs)) := Y2.out.below hb
  have Z3 : Hid (ByteRow u3 a2 (n - q) (ints (bs.drop q))) := by rw [HA2.out]; exact Y3.out.cut (by omega) (by omega)
  have N3 : Hid (∀ g off, a2 = some ⟨g, off, none⟩ → g ≠ u2.heap.size) := fun g off h => Nat.ne_of_lt (cut_lt HA2.out N2.out ⟨g, off, none⟩ h)
  have hsz1 : w'.heap.size ≤ u2.heap.size := B2.out.size
  clear hrd hb
  go_wp2_with fail
  refine (bool_true u2.heap.size a2 (n - q) (n - q) 0 m d (bs.drop q) u3 (by omega) (by omega) HK.out.drop R3.out Z3.out N3.out (by rw [List.drop_drop]; exact unhide HT)).mono ?_
  rintro e u4 ⟨rfl, hrd, hmv⟩
  have B4 : Hid (Below w'.heap.size w' u4) := B3.out.trans (hmv.below B3.out.size hsz1)
  have R4 : Hid (Rd u4 u2.heap.size a2 (n - q) (n - q) (((m : Nat) : Int) + 4) d) := hrd
  have Y4 : Hid (ByteRow u4 (some ⟨w'.heap.size, 0, none⟩ : Option Addr) n (ints bs)) := Y3.out.mv hmv (fun g off h => Nat.ne_of_lt (N2.out ⟨g, off, none⟩ h))
  clear hrd hmv
  go_wp2_with fail
  refine (pos_any u2.heap.size a2 (n - q) (n - q) (((m : Nat) : Int) + 4) d u4 R4.out).mono ?_
  rintro e u ⟨rfl, hw⟩
  rw [hw]
  clear hw u
  have hsum : (((m : Int) + 4 + (q : Int)) != ((q : Int) + (m : Int) + 4)) = false := by simp; omega
  clear N1 N2 N3 R1 R2 R3 R4 Y1 Y2 Y3 Z3 B1 B2 B3 HR HB HNE HA2
  have hB : Hid (Below w'.heap.size w' u4) := B4.out
  clear B4
  go_wp2
  go_quiet (fail)
  go_wp2_with fail
  refine (sre_true (some ⟨w'.heap.size, 0, none⟩ : Option Addr) n n q (q + m) (ints bs) _ _ (by omega) HK.out (by omega) (Y4.out.drewN _)).mono ?_
  rintro e v1 ⟨rfl, hw⟩
  rw [hw]
  clear hw v1
  go_wp2_with fail
  refine (has_any (some ⟨w'.heap.size, 0, none⟩ : Option Addr) n n (q + m) bs ⟨#[116, 114, 117, 101]⟩ _ true _ (by omega) hkn (by omega) (by decide) (Y4.out.drewN _) (unhide HT)).mono ?_
  rintro e v2 ⟨rfl, m2, hw⟩
  rw [hw, World.drewN_drewN]
  clear hw v2
  go_wp2
  go_ret
  exact ⟨rfl, below_drewN hB.out _⟩

set_option maxHeartbeats 1000000 in
theorem lawA_some_F (F : Interp) (x : Addr) (n cap : Nat) (q m : Nat) (d : Int) (bs : List UInt8) (w : World) (hF : F.answers w.tape) (hl : bs.length = n) (hn : n ≤ 1048576) (hcap : n ≤ cap) (hk : SkipTo (ints bs) n q (q + m)) (hsrc : ∀ j v, ((ints bs).map (Value.int .u8))[j]? = some v → w.cell? (x.add j) = some v) (ht : tr.isPrefixOf (bs.drop (q + m)) = false) (hf : fa.isPrefixOf (bs.drop (q + m)) = true) :
    Calls Tryf.prog 3 #[.slice (some x) n cap, .int .i64 (q : Int), .int .i64 d] w fun e w' => e = .returned (.bool true) ∧ Below w.heap.size w w' := by
  have HF : Hid (F.answers w.tape) := hF
  have HL : Hid (bs.length = n) := hl
  have HK : Hid (SkipTo (ints bs) n q (q + m)) := hk
  have hkn : q + m ≤ n := hk.hi
  have HT := hide ht
  clear hF hl hk ht
  have HG := hide hf
  clear hf
  have HS : Hid (∀ j v, ((ints bs).map (Value.int .u8))[j]? = some v → w.cell? (x.add j) = some v) := hsrc
  clear hsrc
  obtain ⟨i0, hi, hz0, hz1, hz2⟩ := info_parts Tryf.info5
  have q22 : ∀ (w : World) (a : Option Addr) (n c n' c' : Nat), (binOp .neq 22 (.slice a n c) (.slice none n' c')).run Tryf.prog w = .ok (.bool (!a.isNone)) w := fun w a n c n' c' => run_neq_slice_nil_any w _ _ a n c n' c' Tryf.underlying22
  have db : decide ((1048576 : Int) < (n : Int)) = false := by simp; omega
  have hd0 : decide ((q : Int) < 0) = false := by simp
  have hd1 : decide ((n : Int) < (q : Int)) = false := by simp; omega
  have hd1n : decide (n < q) = false := by simp; omega
  go_enter Tryf.func3, Tryf.ntmps3
  go_wp2_with fail
  refine (bytes1 _ n cap q d w).mono ?_
  rintro e w' ⟨⟨r, rfl⟩, rfl⟩
  cases r with
  | false =>
    go_wp2
    go_ret
    exact ⟨rfl, Below.refl _ _⟩
  | true =>
  go_wp2_with (refine wpList_make_full _ rfl _ _ 22 rfl w'.heap.size 5 i0 _ 1 Tryf.underlying22 hi hz0 hz1 .i64 .i64 (n : Int) (n : Int) n rfl rfl rfl rfl (by rw [hz2]; omega) (by unfold maxLen; omega) (Nat.le_refl _) ?_)
  intro w1 hown hgrow
  have HB1 : Hid (Below w'.heap.size w' w1) := (Below.refl _ _).grown hgrow (Nat.le_refl _) (fun k h => by cases h)
  obtain ⟨cur, hcur, hcl⟩ := own_row hown
  have HCL : Hid (cur.length = n) := hcl
  have HCUR : Hid (w1.heap[w'.heap.size]? = some (.cells cur.toArray 5 (0, 0))) := hcur
  have HS1 : Hid (∀ j v, ((ints bs).map (Value.int .u8))[j]? = some v → w1.cell? (x.add j) = some v) := fun j v hj => by
    have := HS.out j v hj
    rw [HB1.out.cell (World.block_lt_of_cell? _ _ this)]; exact this
  clear hown hgrow hcur hcl
  obtain ⟨X1, hX1⟩ : ∃ X1, X1 = (ints bs).map (Value.int .u8) := ⟨_, rfl⟩
  have HX : Hid (X1 = (ints bs).map (Value.int .u8)) := hX1
  have HXL : Hid (X1.length = n) := by show X1.length = n; rw [hX1, List.length_map, ints_length, HL.out]
  have HXS : Hid (0 < X1.length → (some ⟨w'.heap.size, 0, none⟩ : Option Addr) = some ⟨w'.heap.size, 0, none⟩ ∧ ∃ ad, some x = some ad ∧ ∀ j v, X1[j]? = some v → w1.cell? (ad.add j) = some v) := fun _ => ⟨rfl, x, rfl, by rw [hX1]; exact HS1.out⟩
  have HXO : Hid (∀ v ∈ X1, v.oneCell' = true) := by
    show ∀ v ∈ X1, v.oneCell' = true; rw [hX1]; intro v hv; obtain ⟨y, _, rfl⟩ := List.mem_map.1 hv; rfl
  clear hX1
  go_wp2_with (refine wpList_copy_splice rfl (.tmp 37) (.tmp 38) 22 22 rfl 5 Tryf.underlying22 size5 (some ⟨w'.heap.size, 0, none⟩) (some x) n n n cap rfl rfl w'.heap.size 0 cur 5 HCUR.out X1 (by rw [HXL.out]; simp) HXS.out (by rw [HXL.out, HCL.out]; omega) HXO.out w'.heap.size w' HB1.out (Nat.le_refl _) ?_; intro w2 HG2 hB2)
  have HB : Hid (Below w'.heap.size w' w2) := hB2
  have HR : Hid (ByteRow w2 (some ⟨w'.heap.size, 0, none⟩) n (ints bs)) := row_made (cur := cur) HL.out HCL.out (by rw [← HX.out]; exact HG2.out)
  have hlt2 : w'.heap.size < w2.heap.size := (Array.getElem?_eq_some_iff.1 HG2.out).1
  have HNE : Hid (∀ x, (some ⟨w'.heap.size, 0, none⟩ : Option Addr) = some x → x.block < w2.heap.size) := fun x h => by
    simp only [Option.some.injEq] at h; rw [← h]; exact hlt2
  clear hB2 HG2 HXS HXO HXL HX HCUR HCL HS1 HB1
  obtain ⟨a2, ha2⟩ : ∃ a2, a2 = (if n = q then (some ⟨w'.heap.size, 0, none⟩ : Option Addr) else Option.map (fun x : Addr => x.add q) (some ⟨w'.heap.size, 0, none⟩ : Option Addr)) := ⟨_, rfl⟩
  have hsl : ∀ w, (Instr.slice 22 (.slice (some ⟨w'.heap.size, 0, none⟩ : Option Addr) n n) (some (.int .i64 (q : Int))) none none).run Tryf.prog w = .ok (.slice a2 (n - q) (n - q)) w := fun w => cut_run _ n n q a2 w (by omega) ha2
  have HA2 : Hid (a2 = (if n = q then (some ⟨w'.heap.size, 0, none⟩ : Option Addr) else Option.map (fun x : Addr => x.add q) (some ⟨w'.heap.size, 0, none⟩ : Option Addr))) := ha2
  clear ha2
  go_wp2_with fail
  refine (new_any (some ⟨w'.heap.size, 0, none⟩ : Option Addr) n n (q : Int) d w2).mono ?_
  rintro e u1 ⟨rfl, hrd, hb⟩
  have B1 : Hid (Below w'.heap.size w' u1) := HB.out.trans (hb.mono HB.out.size)
  have R1 : Hid (Rd u1 w2.heap.size (some ⟨w'.heap.size, 0, none⟩ : Option Addr) n n q d) := hrd
  have Y1 : Hid (ByteRow u1 (some ⟨w'.heap.size, 0, none⟩ : Option Addr) n (ints bs)) := HR.out.below hb
  have N1 : Hid (∀ g off, (some ⟨w'.heap.size, 0, none⟩ : Option Addr) = some ⟨g, off, none⟩ → g ≠ w2.heap.size) := fun g off h => Nat.ne_of_lt (HNE.out ⟨g, off, none⟩ h)
  have hsz0 : w'.heap.size ≤ w2.heap.size := HB.out.size
  clear hrd hb
  go_wp2_with fail
  refine (bool_false w2.heap.size (some ⟨w'.heap.size, 0, none⟩ : Option Addr) n n q (q + m) d bs u1 (by omega) (by omega) HK.out R1.out Y1.out N1.out (unhide HT) (unhide HG)).mono ?_
  rintro e u2 ⟨rfl, hrd, hmv⟩
  have B2 : Hid (Below w'.heap.size w' u2) := B1.out.trans (hmv.below B1.out.size hsz0)
  have R2 : Hid (Rd u2 w2.heap.size (some ⟨w'.heap.size, 0, none⟩ : Option Addr) n n ((((q + m) : Nat) : Int) + 5) d) := hrd
  have Y2 : Hid (ByteRow u2 (some ⟨w'.heap.size, 0, none⟩ : Option Addr) n (ints bs)) := Y1.out.mv hmv N1.out
  have N2 : Hid (∀ x, (some ⟨w'.heap.size, 0, none⟩ : Option Addr) = some x → x.block < u2.heap.size) := fun x h => by
    have h1 := HNE.out x h; have h2 := R2.out.lt; omega
  clear hrd hmv
  go_wp2_with fail
  refine (pos_any w2.heap.size (some ⟨w'.heap.size, 0, none⟩ : Option Addr) n n (((q + m : Nat) : Int) + 5) d u2 R2.out).mono ?_
  rintro e u ⟨rfl, hw⟩
  rw [hw]
  clear hw u
  go_wp2_with fail
  refine (new_any a2 (n - q) (n - q) 0 d u2).mono ?_
  rintro e u3 ⟨rfl, hrd, hb⟩
  have B3 : Hid (Below w'.heap.size w' u3) := B2.out.trans (hb.mono B2.out.size)
  have R3 : Hid (Rd u3 u2.heap.size a2 (n - q) (n - q) ((0 : Nat) : Int) d) := hrd
  have Y3 : Hid (ByteRow u3 (some ⟨w'.heap.size, 0, none⟩ : Option Addr) n (ints bs)) := Y2.out.below hb
  have Z3 : Hid (ByteRow u3 a2 (n - q) (ints (bs.drop q))) := by rw [HA2.out]; exact Y3.out.cut (by omega) (by omega)
  have N3 : Hid (∀ g off, a2 = some ⟨g, off, none⟩ → g ≠ u2.heap.size) := fun g off h => Nat.ne_of_lt (cut_lt HA2.out N2.out ⟨g, off, none⟩ h)
  have hsz1 : w'.heap.size ≤ u2.heap.size := B2.out.size
  clear hrd hb
  go_wp2_with fail
  refine (bool_false u2.heap.size a2 (n - q) (n - q) 0 m d (bs.drop q) u3 (by omega) (by omega) HK.out.drop R3.out Z3.out N3.out (by rw [List.drop_drop]; exact unhide HT) (by rw [List.drop_drop]; exact unhide HG)).mono ?_
  rintro e u4 ⟨rfl, hrd, hmv⟩
  have B4 : Hid (Below w'.heap.size w' u4) := B3.out.trans (hmv.below B3.out.size hsz1)
  have R4 : Hid (Rd u4 u2.heap.size a2 (n - q) (n - q) (((m : Nat) : Int) + 5) d) := hrd
  have Y4 : Hid (ByteRow u4 (some ⟨w'.heap.size, 0, none⟩ : Option Addr) n (ints bs)) := Y3.out.mv hmv (fun g off h => Nat.ne_of_lt (N2.out ⟨g, off, none⟩ h))
  clear hrd hmv
  go_wp2_with fail
  refine (pos_any u2.heap.size a2 (n - q) (n - q) (((m : Nat) : Int) + 5) d u4 R4.out).mono ?_
  rintro e u ⟨rfl, hw⟩
  rw [hw]
  clear hw u
  have hsum : (((m : Int) + 5 + (q : Int)) != ((q : Int) + (m : Int) + 5)) = false := by simp; omega
  clear N1 N2 N3 R1 R2 R3 R4 Y1 Y2 Y3 Z3 B1 B2 B3 HR HB HNE HA2
  have hB : Hid (Below w'.heap.size w' u4) := B4.out
  clear B4
  go_wp2
  go_quiet (fail)
  go_wp2_with fail
  refine (sre_true (some ⟨w'.heap.size, 0, none⟩ : Option Addr) n n q (q + m) (ints bs) _ _ (by omega) HK.out (by omega) (Y4.out.drewN _)).mono ?_
  rintro e v1 ⟨rfl, hw⟩
  rw [hw]
  clear hw v1
  go_wp2_with fail
  refine (has_any (some ⟨w'.heap.size, 0, none⟩ : Option Addr) n n (q + m) bs ⟨#[102, 97, 108, 115, 101]⟩ _ true _ (by omega) hkn (by omega) (by decide) (Y4.out.drewN _) (unhide HG)).mono ?_
  rintro e v2 ⟨rfl, m2, hw⟩
  rw [hw, World.drewN_drewN]
  clear hw v2
  go_wp2
  go_ret
  exact ⟨rfl, below_drewN hB.out _⟩

set_option maxHeartbeats 1000000 in
theorem lawA_some_E (F : Interp) (x : Addr) (n cap : Nat) (q m : Nat) (d : Int) (bs : List UInt8) (w : World) (hF : F.answers w.tape) (hl : bs.length = n) (hn : n ≤ 1048576) (hcap : n ≤ cap) (hk : SkipTo (ints bs) n q (q + m)) (hsrc : ∀ j v, ((ints bs).map (Value.int .u8))[j]? = some v → w.cell? (x.add j) = some v) (ht : tr.isPrefixOf (bs.drop (q + m)) = false) (hf : fa.isPrefixOf (bs.drop (q + m)) = false) :
    Calls Tryf.prog 3 #[.slice (some x) n cap, .int .i64 (q : Int), .int .i64 d] w fun e w' => e = .returned (.bool true) ∧ Below w.heap.size w w' := by
  have HF : Hid (F.answers w.tape) := hF
  have HL : Hid (bs.length = n) := hl
  have HK : Hid (SkipTo (ints bs) n q (q + m)) := hk
  have hkn : q + m ≤ n := hk.hi
  have HT := hide ht
  clear hF hl hk ht
  have HG := hide hf
  clear hf
  have HS : Hid (∀ j v, ((ints bs).map (Value.int .u8))[j]? = some v → w.cell? (x.add j) = some v) := hsrc
  clear hsrc
  obtain ⟨i0, hi, hz0, hz1, hz2⟩ := info_parts Tryf.info5
  have q22 : ∀ (w : World) (a : Option Addr) (n c n' c' : Nat), (binOp .neq 22 (.slice a n c) (.slice none n' c')).run Tryf.prog w = .ok (.bool (!a.isNone)) w := fun w a n c n' c' => run_neq_slice_nil_any w _ _ a n c n' c' Tryf.underlying22
  have db : decide ((1048576 : Int) < (n : Int)) = false := by simp; omega
  have hd0 : decide ((q : Int) < 0) = false := by simp
  have hd1 : decide ((n : Int) < (q : Int)) = false := by simp; omega
  have hd1n : decide (n < q) = false := by simp; omega
  go_enter Tryf.func3, Tryf.ntmps3
  go_wp2_with fail
  refine (bytes1 _ n cap q d w).mono ?_
  rintro e w' ⟨⟨r, rfl⟩, rfl⟩
  cases r with
  | false =>
    go_wp2
    go_ret
    exact ⟨rfl, Below.refl _ _⟩
  | true =>
  go_wp2_with (refine wpList_make_full _ rfl _ _ 22 rfl w'.heap.size 5 i0 _ 1 Tryf.underlying22 hi hz0 hz1 .i64 .i64 (n : Int) (n : Int) n rfl rfl rfl rfl (by rw [hz2]; omega) (by unfold maxLen; omega) (Nat.le_refl _) ?_)
  intro w1 hown hgrow
  have HB1 : Hid (Below w'.heap.size w' w1) := (Below.refl _ _).grown hgrow (Nat.le_refl _) (fun k h => by cases h)
  obtain ⟨cur, hcur, hcl⟩ := own_row hown
  have HCL : Hid (cur.length = n) := hcl
  have HCUR : Hid (w1.heap[w'.heap.size]? = some (.cells cur.toArray 5 (0, 0))) := hcur
  have HS1 : Hid (∀ j v, ((ints bs).map (Value.int .u8))[j]? = some v → w1.cell? (x.add j) = some v) := fun j v hj => by
    have := HS.out j v hj
    rw [HB1.out.cell (World.block_lt_of_cell? _ _ this)]; exact this
  clear hown hgrow hcur hcl
  obtain ⟨X1, hX1⟩ : ∃ X1, X1 = (ints bs).map (Value.int .u8) := ⟨_, rfl⟩
  have HX : Hid (X1 = (ints bs).map (Value.int .u8)) := hX1
  have HXL : Hid (X1.length = n) := by show X1.length = n; rw [hX1, List.length_map, ints_length, HL.out]
  have HXS : Hid (0 < X1.length → (some ⟨w'.heap.size, 0, none⟩ : Option Addr) = some ⟨w'.heap.size, 0, none⟩ ∧ ∃ ad, some x = some ad ∧ ∀ j v, X1[j]? = some v → w1.cell? (ad.add j) = some v) := fun _ => ⟨rfl, x, rfl, by rw [hX1]; exact HS1.out⟩
  have HXO : Hid (∀ v ∈ X1, v.oneCell' = true) := by
    show ∀ v ∈ X1, v.oneCell' = true; rw [hX1]; intro v hv; obtain ⟨y, _, rfl⟩ := List.mem_map.1 hv; rfl
  clear hX1
  go_wp2_with (refine wpList_copy_splice rfl (.tmp 37) (.tmp 38) 22 22 rfl 5 Tryf.underlying22 size5 (some ⟨w'.heap.size, 0, none⟩) (some x) n n n cap rfl rfl w'.heap.size 0 cur 5 HCUR.out X1 (by rw [HXL.out]; simp) HXS.out (by rw [HXL.out, HCL.out]; omega) HXO.out w'.heap.size w' HB1.out (Nat.le_refl _) ?_; intro w2 HG2 hB2)
  have HB : Hid (Below w'.heap.size w' w2) := hB2
  have HR : Hid (ByteRow w2 (some ⟨w'.heap.size, 0, none⟩) n (ints bs)) := row_made (cur := cur) HL.out HCL.out (by rw [← HX.out]; exact HG2.out)
  have hlt2 : w'.heap.size < w2.heap.size := (Array.getElem?_eq_some_iff.1 HG2.out).1
  have HNE : Hid (∀ x, (some ⟨w'.heap.size, 0, none⟩ : Option Addr) = some x → x.block < w2.heap.size) := fun x h => by
    simp only [Option.some.injEq] at h; rw [← h]; exact hlt2
  clear hB2 HG2 HXS HXO HXL HX HCUR HCL HS1 HB1
  obtain ⟨a2, ha2⟩ : ∃ a2, a2 = (if n = q then (some ⟨w'.heap.size, 0, none⟩ : Option Addr) else Option.map (fun x : Addr => x.add q) (some ⟨w'.heap.size, 0, none⟩ : Option Addr)) := ⟨_, rfl⟩
  have hsl : ∀ w, (Instr.slice 22 (.slice (some ⟨w'.heap.size, 0, none⟩ : Option Addr) n n) (some (.int .i64 (q : Int))) none none).run Tryf.prog w = .ok (.slice a2 (n - q) (n - q)) w := fun w => cut_run _ n n q a2 w (by omega) ha2
  have HA2 : Hid (a2 = (if n = q then (some ⟨w'.heap.size, 0, none⟩ : Option Addr) else Option.map (fun x : Addr => x.add q) (some ⟨w'.heap.size, 0, none⟩ : Option Addr))) := ha2
  clear ha2
  go_wp2_with fail
  refine (new_any (some ⟨w'.heap.size, 0, none⟩ : Option Addr) n n (q : Int) d w2).mono ?_
  rintro e u1 ⟨rfl, hrd, hb⟩
  have B1 : Hid (Below w'.heap.size w' u1) := HB.out.trans (hb.mono HB.out.size)
  have R1 : Hid (Rd u1 w2.heap.size (some ⟨w'.heap.size, 0, none⟩ : Option Addr) n n q d) := hrd
  have Y1 : Hid (ByteRow u1 (some ⟨w'.heap.size, 0, none⟩ : Option Addr) n (ints bs)) := HR.out.below hb
  have N1 : Hid (∀ g off, (some ⟨w'.heap.size, 0, none⟩ : Option Addr) = some ⟨g, off, none⟩ → g ≠ w2.heap.size) := fun g off h => Nat.ne_of_lt (HNE.out ⟨g, off, none⟩ h)
  have hsz0 : w'.heap.size ≤ w2.heap.size := HB.out.size
  clear hrd hb
  go_wp2_with fail
  refine (bool_err F w2.heap.size (some ⟨w'.heap.size, 0, none⟩ : Option Addr) n n q (q + m) d bs u1 (by rw [B1.out.tape]; exact HF.out) (by omega) (by omega) HK.out R1.out Y1.out N1.out (unhide HT) (unhide HG)).mono ?_
  rintro e u2 ⟨⟨ad2, rfl⟩, hrd, hmv⟩
  have B2 : Hid (Below w'.heap.size w' u2) := B1.out.trans (hmv.below B1.out.size hsz0)
  have R2 : Hid (Rd u2 w2.heap.size (some ⟨w'.heap.size, 0, none⟩ : Option Addr) n n ((((q + m) : Nat) : Int)) d) := hrd
  have Y2 : Hid (ByteRow u2 (some ⟨w'.heap.size, 0, none⟩ : Option Addr) n (ints bs)) := Y1.out.mv hmv N1.out
  have N2 : Hid (∀ x, (some ⟨w'.heap.size, 0, none⟩ : Option Addr) = some x → x.block < u2.heap.size) := fun x h => by
    have h1 := HNE.out x h; have h2 := R2.out.lt; omega
  clear hrd hmv
  go_wp2_with fail
  refine (pos_any w2.heap.size (some ⟨w'.heap.size, 0, none⟩ : Option Addr) n n (((q + m : Nat) : Int)) d u2 R2.out).mono ?_
  rintro e u ⟨rfl, hw⟩
  rw [hw]
  clear hw u
  go_wp2_with fail
  refine (new_any a2 (n - q) (n - q) 0 d u2).mono ?_
  rintro e u3 ⟨rfl, hrd, hb⟩
  have B3 : Hid (Below w'.heap.size w' u3) := B2.out.trans (hb.mono B2.out.size)
  have R3 : Hid (Rd u3 u2.heap.size a2 (n - q) (n - q) ((0 : Nat) : Int) d) := hrd
  have Y3 : Hid (ByteRow u3 (some ⟨w'.heap.size, 0, none⟩ : Option Addr) n (ints bs)) := Y2.out.below hb
  have Z3 : Hid (ByteRow u3 a2 (n - q) (ints (bs.drop q))) := by rw [HA2.out]; exact Y3.out.cut (by omega) (by omega)
  have N3 : Hid (∀ g off, a2 = some ⟨g, off, none⟩ → g ≠ u2.heap.size) := fun g off h => Nat.ne_of_lt (cut_lt HA2.out N2.out ⟨g, off, none⟩ h)
  have hsz1 : w'.heap.size ≤ u2.heap.size := B2.out.size
  clear hrd hb
  go_wp2_with fail
  refine (bool_err F u2.heap.size a2 (n - q) (n - q) 0 m d (bs.drop q) u3 (by rw [B3.out.tape]; exact HF.out) (by omega) (by omega) HK.out.drop R3.out Z3.out N3.out (by rw [List.drop_drop]; exact unhide HT) (by rw [List.drop_drop]; exact unhide HG)).mono ?_
  rintro e u4 ⟨⟨ad4, rfl⟩, hrd, hmv⟩
  have B4 : Hid (Below w'.heap.size w' u4) := B3.out.trans (hmv.below B3.out.size hsz1)
  have R4 : Hid (Rd u4 u2.heap.size a2 (n - q) (n - q) (((m : Nat) : Int)) d) := hrd
  have Y4 : Hid (ByteRow u4 (some ⟨w'.heap.size, 0, none⟩ : Option Addr) n (ints bs)) := Y3.out.mv hmv (fun g off h => Nat.ne_of_lt (N2.out ⟨g, off, none⟩ h))
  clear hrd hmv
  go_wp2_with fail
  refine (pos_any u2.heap.size a2 (n - q) (n - q) (((m : Nat) : Int)) d u4 R4.out).mono ?_
  rintro e u ⟨rfl, hw⟩
  rw [hw]
  clear hw u
  have hsum : (((m : Int) + (q : Int)) != ((q : Int) + (m : Int))) = false := by simp; omega
  clear N1 N2 N3 R1 R2 R3 R4 Y1 Y2 Y3 Z3 B1 B2 B3 HR HB HNE HA2
  have hB : Hid (Below w'.heap.size w' u4) := B4.out
  clear B4
  go_wp2
  go_quiet (fail)
  go_wp2_with fail
  refine (sre_true (some ⟨w'.heap.size, 0, none⟩ : Option Addr) n n q (q + m) (ints bs) _ _ (by omega) HK.out (by omega) (Y4.out.drewN _)).mono ?_
  rintro e v1 ⟨rfl, hw⟩
  rw [hw]
  clear hw v1
  go_wp2_with fail
  refine (has_any (some ⟨w'.heap.size, 0, none⟩ : Option Addr) n n (q + m) bs ⟨#[116, 114, 117, 101]⟩ _ false _ (by omega) hkn (by omega) (by decide) (Y4.out.drewN _) (unhide HT)).mono ?_
  rintro e v1 ⟨rfl, m1, hw⟩
  rw [hw, World.drewN_drewN]
  clear hw v1
  go_wp2_with fail
  refine (has_any (some ⟨w'.heap.size, 0, none⟩ : Option Addr) n n (q + m) bs ⟨#[102, 97, 108, 115, 101]⟩ _ false _ (by omega) hkn (by omega) (by decide) (Y4.out.drewN _) (unhide HG)).mono ?_
  rintro e v2 ⟨rfl, m2, hw⟩
  rw [hw, World.drewN_drewN]
  clear hw v2
  go_wp2
  go_ret
  exact ⟨rfl, below_drewN hB.out _⟩

set_option maxHeartbeats 1000000 in
theorem lawA_nil_T (F : Interp) (n cap : Nat) (hn0 : n ≤ 0) (q m : Nat) (d : Int) (bs : List UInt8) (w : World) (hF : F.answers w.tape) (hl : bs.length = n) (hn : n ≤ 1048576) (hcap : n ≤ cap) (hk : SkipTo (ints bs) n q (q + m)) (ht : tr.isPrefixOf (bs.drop (q + m)) = true) :
    Calls Tryf.prog 3 #[.slice none n cap, .int .i64 (q : Int), .int .i64 d] w fun e w' => e = .returned (.bool true) ∧ Below w.heap.size w w' := by
  have HF : Hid (F.answers w.tape) := hF
  have HL : Hid (bs.length = n) := hl
  have HK : Hid (SkipTo (ints bs) n q (q + m)) := hk
  have hkn : q + m ≤ n := hk.hi
  have HT := hide ht
  clear hF hl hk ht
  have q22 : ∀ (w : World) (a : Option Addr) (n c n' c' : Nat), (binOp .neq 22 (.slice a n c) (.slice none n' c')).run Tryf.prog w = .ok (.bool (!a.isNone)) w := fun w a n c n' c' => run_neq_slice_nil_any w _ _ a n c n' c' Tryf.underlying22
  have db : decide ((1048576 : Int) < (n : Int)) = false := by simp; omega
  have hd0 : decide ((q : Int) < 0) = false := by simp
  have hd1 : decide ((n : Int) < (q : Int)) = false := by simp; omega
  have hd1n : decide (n < q) = false := by simp; omega
  go_enter Tryf.func3, Tryf.ntmps3
  go_wp2_with fail
  refine (bytes1 _ n cap q d w).mono ?_
  rintro e w' ⟨⟨r, rfl⟩, rfl⟩
  cases r with
  | false =>
    go_wp2
    go_ret
    exact ⟨rfl, Below.refl _ _⟩
  | true =>
  have HR : Hid (ByteRow w' none n (ints bs)) := ⟨by rw [ints_length, HL.out], .inl (by omega)⟩
  have HB : Hid (Below w'.heap.size w' w') := Below.refl _ _
  have HNE : Hid (∀ x, (none : Option Addr) = some x → x.block < w'.heap.size) := fun _ h => by cases h
  obtain ⟨a2, ha2⟩ : ∃ a2, a2 = (if cap = q then (none : Option Addr) else Option.map (fun x : Addr => x.add q) (none : Option Addr)) := ⟨_, rfl⟩
  have hsl : ∀ w, (Instr.slice 22 (.slice (none : Option Addr) n cap) (some (.int .i64 (q : Int))) none none).run Tryf.prog w = .ok (.slice a2 (n - q) (cap - q)) w := fun w => cut_run _ n cap q a2 w (by omega) ha2
  have HA2 : Hid (a2 = (if cap = q then (none : Option Addr) else Option.map (fun x : Addr => x.add q) (none : Option Addr))) := ha2
  clear ha2
  go_wp2_with fail
  refine (new_any (none : Option Addr) n cap (q : Int) d w').mono ?_
  rintro e u1 ⟨rfl, hrd, hb⟩
  have B1 : Hid (Below w'.heap.size w' u1) := HB.out.trans (hb.mono HB.out.size)
  have R1 : Hid (Rd u1 w'.heap.size (none : Option Addr) n cap q d) := hrd
  have Y1 : Hid (ByteRow u1 (none : Option Addr) n (ints bs)) := HR.out.below hb
  have N1 : Hid (∀ g off, (none : Option Addr) = some ⟨g, off, none⟩ → g ≠ w'.heap.size) := fun g off h => Nat.ne_of_lt (HNE.out ⟨g, off, none⟩ h)
  have hsz0 : w'.heap.size ≤ w'.heap.size := HB.out.size
  clear hrd hb
  go_wp2_with fail
  refine (bool_true w'.heap.size (none : Option Addr) n cap q (q + m) d bs u1 (by omega) (by omega) HK.out R1.out Y1.out N1.out (unhide HT)).mono ?_
  rintro e u2 ⟨rfl, hrd, hmv⟩
  have B2 : Hid (Below w'.heap.size w' u2) := B1.out.trans (hmv.below B1.out.size hsz0)
  have R2 : Hid (Rd u2 w'.heap.size (none : Option Addr) n cap ((((q + m) : Nat) : Int) + 4) d) := hrd
  have Y2 : Hid (ByteRow u2 (none : Option Addr) n (ints bs)) := Y1.out.mv hmv N1.out
  have N2 : Hid (∀ x, (none : Option Addr) = some x → x.block < u2.heap.size) := fun x h => by
    have h1 := HNE.out x h; have h2 := R2.out.lt; omega
  clear hrd hmv
  go_wp2_with fail
  refine (pos_any w'.heap.size (none : Option Addr) n cap (((q + m : Nat) : Int) + 4) d u2 R2.out).mono ?_
  rintro e u ⟨rfl, hw⟩
  rw [hw]
  clear hw u
  go_wp2_with fail
  refine (new_any a2 (n - q) (cap - q) 0 d u2).mono ?_
  rintro e u3 ⟨rfl, hrd, hb⟩
  have B3 : Hid (Below w'.heap.size w' u3) := B2.out.trans (hb.mono B2.out.size)
  have R3 : Hid (Rd u3 u2.heap.size a2 (n - q) (cap - q) ((0 : Nat) : Int) d) := hrd
  have Y3 : Hid (ByteRow u3 (none : Option Addr) n (ints bs)) := Y2.out.below hb
  have Z3 : Hid (ByteRow u3 a2 (n - q) (ints (bs.drop q))) := by rw [HA2.out]; exact Y3.out.cut (by omega) (by omega)
  have N3 : Hid (∀ g off, a2 = some ⟨g, off, none⟩ → g ≠ u2.heap.size) := fun g off h => Nat.ne_of_lt (cut_lt HA2.out N2.out ⟨g, off, none⟩ h)
  have hsz1 : w'.heap.size ≤ u2.heap.size := B2.out.size
  clear hrd hb
  go_wp2_with fail
  refine (bool_true u2.heap.size a2 (n - q) (cap - q) 0 m d (bs.drop q) u3 (by omega) (by omega) HK.out.drop R3.out Z3.out N3.out (by rw [List.drop_drop]; exact unhide HT)).mono ?_
  rintro e u4 ⟨rfl, hrd, hmv⟩
  have B4 : Hid (Below w'.heap.size w' u4) := B3.out.trans (hmv.below B3.out.size hsz1)
  have R4 : Hid (Rd u4 u2.heap.size a2 (n - q) (cap - q) (((m : Nat) : Int) + 4) d) := hrd
  have Y4 : Hid (ByteRow u4 (none : Option Addr) n (ints bs)) := Y3.out.mv hmv (fun g off h => Nat.ne_of_lt (N2.out ⟨g, off, none⟩ h))
  clear hrd hmv
  go_wp2_with fail
  refine (pos_any u2.heap.size a2 (n - q) (cap - q) (((m : Nat) : Int) + 4) d u4 R4.out).mono ?_
  rintro e u ⟨rfl, hw⟩
  rw [hw]
  clear hw u
  have hsum : (((m : Int) + 4 + (q : Int)) != ((q : Int) + (m : Int) + 4)) = false := by simp; omega
  clear N1 N2 N3 R1 R2 R3 R4 Y1 Y2 Y3 Z3 B1 B2 B3 HR HB HNE HA2
  have hB : Hid (Below w'.heap.size w' u4) := B4.out
  clear B4
  go_wp2
  go_quiet (fail)
  go_wp2_with fail
  refine (sre_true (none : Option Addr) n cap q (q + m) (ints bs) _ _ (by omega) HK.out (by omega) (Y4.out.drewN _)).mono ?_
  rintro e v1 ⟨rfl, hw⟩
  rw [hw]
  clear hw v1
  go_wp2_with fail
  refine (has_any (none : Option Addr) n cap (q + m) bs ⟨#[116, 114, 117, 101]⟩ _ true _ (by omega) hkn (by omega) (by decide) (Y4.out.drewN _) (unhide HT)).mono ?_
  rintro e v2 ⟨rfl, m2, hw⟩
  rw [hw, World.drewN_drewN]
  clear hw v2
  go_wp2
  go_ret
  exact ⟨rfl, below_drewN hB.out _⟩

set_option maxHeartbeats 1000000 in
theorem lawA_nil_F (F : Interp) (n cap : Nat) (hn0 : n ≤ 0) (q m : Nat) (d : Int) (bs : List UInt8) (w : World) (hF : F.answers w.tape) (hl : bs.length = n) (hn : n ≤ 1048576) (hcap : n ≤ cap) (hk : SkipTo (ints bs) n q (q + m)) (ht : tr.isPrefixOf (bs.drop (q + m)) = false) (hf : fa.isPrefixOf (bs.drop (q + m)) = true) :
    Calls Tryf.prog 3 #[.slice none n cap, .int .i64 (q : Int), .int .i64 d] w fun e w' => e = .returned (.bool true) ∧ Below w.heap.size w w' := by
  have HF : Hid (F.answers w.tape) := hF
  have HL : Hid (bs.length = n) := hl
  have HK : Hid (SkipTo (ints bs) n q (q + m)) := hk
  have hkn : q + m ≤ n := hk.hi
  have HT := hide ht
  clear hF hl hk ht
  have HG := hide hf
  clear hf
  have q22 : ∀ (w : World) (a : Option Addr) (n c n' c' : Nat), (binOp .neq 22 (.slice a n c) (.slice none n' c')).run Tryf.prog w = .ok (.bool (!a.isNone)) w := fun w a n c n' c' => run_neq_slice_nil_any w _ _ a n c n' c' Tryf.underlying22
  have db : decide ((1048576 : Int) < (n : Int)) = false := by simp; omega
  have hd0 : decide ((q : Int) < 0) = false := by simp
  have hd1 : decide ((n : Int) < (q : Int)) = false := by simp; omega
  have hd1n : decide (n < q) = false := by simp; omega
  go_enter Tryf.func3, Tryf.ntmps3
  go_wp2_with fail
  refine (bytes1 _ n cap q d w).mono ?_
  rintro e w' ⟨⟨r, rfl⟩, rfl⟩
  cases r with
  | false =>
    go_wp2
    go_ret
    exact ⟨rfl, Below.refl _ _⟩
  | true =>
  have HR : Hid (ByteRow w' none n (ints bs)) := ⟨by rw [ints_length, HL.out], .inl (by omega)⟩
  have HB : Hid (Below w'.heap.size w' w') := Below.refl _ _
  have HNE : Hid (∀ x, (none : Option Addr) = some x → x.block < w'.heap.size) := fun _ h => by cases h
  obtain ⟨a2, ha2⟩ : ∃ a2, a2 = (if cap = q then (none : Option Addr) else Option.map (fun x : Addr => x.add q) (none : Option Addr)) := ⟨_, rfl⟩
  have hsl : ∀ w, (Instr.slice 22 (.slice (none : Option Addr) n cap) (some (.int .i64 (q : Int))) none none).run Tryf.prog w = .ok (.slice a2 (n - q) (cap - q)) w := fun w => cut_run _ n cap q a2 w (by omega) ha2
  have HA2 : Hid (a2 = (if cap = q then (none : Option Addr) else Option.map (fun x : Addr => x.add q) (none : Option Addr))) := ha2
  clear ha2
  go_wp2_with fail
  refine (new_any (none : Option Addr) n cap (q : Int) d w').mono ?_
  rintro e u1 ⟨rfl, hrd, hb⟩
  have B1 : Hid (Below w'.heap.size w' u1) := HB.out.trans (hb.mono HB.out.size)
  have R1 : Hid (Rd u1 w'.heap.size (none : Option Addr) n cap q d) := hrd
  have Y1 : Hid (ByteRow u1 (none : Option Addr) n (ints bs)) := HR.out.below hb
  have N1 : Hid (∀ g off, (none : Option Addr) = some ⟨g, off, none⟩ → g ≠ w'.heap.size) := fun g off h => Nat.ne_of_lt (HNE.out ⟨g, off, none⟩ h)
  have hsz0 : w'.heap.size ≤ w'.heap.size := HB.out.size
  clear hrd hb
  go_wp2_with fail
  refine (bool_false w'.heap.size (none : Option Addr) n cap q (q + m) d bs u1 (by omega) (by omega) HK.out R1.out Y1.out N1.out (unhide HT) (unhide HG)).mono ?_
  rintro e u2 ⟨rfl, hrd, hmv⟩
  have B2 : Hid (Below w'.heap.size w' u2) := B1.out.trans (hmv.below B1.out.size hsz0)
  have R2 : Hid (Rd u2 w'.heap.size (none : Option Addr) n cap ((((q + m) : Nat) : Int) + 5) d) := hrd
  have Y2 : Hid (ByteRow u2 (none : Option Addr) n (ints bs)) := Y1.out.mv hmv N1.out
  have N2 : Hid (∀ x, (none : Option Addr) = some x → x.block < u2.heap.size) := fun x h => by
    have h1 := HNE.out x h; have h2 := R2.out.lt; omega
  clear hrd hmv
  go_wp2_with fail
  refine (pos_any w'.heap.size (none : Option Addr) n cap (((q + m : Nat) : Int) + 5) d u2 R2.out).mono ?_
  rintro e u ⟨rfl, hw⟩
  rw [hw]
  clear hw u
  go_wp2_with fail
  refine (new_any a2 (n - q) (cap - q) 0 d u2).mono ?_
  rintro e u3 ⟨rfl, hrd, hb⟩
  have B3 : Hid (Below w'.heap.size w' u3) := B2.out.trans (hb.mono B2.out.size)
  have R3 : Hid (Rd u3 u2.heap.size a2 (n - q) (cap - q) ((0 : Nat) : Int) d) := hrd
  have Y3 : Hid (ByteRow u3 (none : Option Addr) n (ints bs)) := Y2.out.below hb
  have Z3 : Hid (ByteRow u3 a2 (n - q) (ints (bs.drop q))) := by rw [HA2.out]; exact Y3.out.cut (by omega) (by omega)
  have N3 : Hid (∀ g off, a2 = some ⟨g, off, none⟩ → g ≠ u2.heap.size) := fun g off h => Nat.ne_of_lt (cut_lt HA2.out N2.out ⟨g, off, none⟩ h)
  have hsz1 : w'.heap.size ≤ u2.heap.size := B2.out.size
  clear hrd hb
  go_wp2_with fail
  refine (bool_false u2.heap.size a2 (n - q) (cap - q) 0 m d (bs.drop q) u3 (by omega) (by omega) HK.out.drop R3.out Z3.out N3.out (by rw [List.drop_drop]; exact unhide HT) (by rw [List.drop_drop]; exact unhide HG)).mono ?_
  rintro e u4 ⟨rfl, hrd, hmv⟩
  have B4 : Hid (Below w'.heap.size w' u4) := B3.out.trans (hmv.below B3.out.size hsz1)
  have R4 : Hid (Rd u4 u2.heap.size a2 (n - q) (cap - q) (((m : Nat) : Int) + 5) d) := hrd
  have Y4 : Hid (ByteRow u4 (none : Option Addr) n (ints bs)) := Y3.out.mv hmv (fun g off h => Nat.ne_of_lt (N2.out ⟨g, off, none⟩ h))
  clear hrd hmv
  go_wp2_with fail
  refine (pos_any u2.heap.size a2 (n - q) (cap - q) (((m : Nat) : Int) + 5) d u4 R4.out).mono ?_
  rintro e u ⟨rfl, hw⟩
  rw [hw]
  clear hw u
  have hsum : (((m : Int) + 5 + (q : Int)) != ((q : Int) + (m : Int) + 5)) = false := by simp; omega
  clear N1 N2 N3 R1 R2 R3 R4 Y1 Y2 Y3 Z3 B1 B2 B3 HR HB HNE HA2
  have hB : Hid (Below w'.heap.size w' u4) := B4.out
  clear B4
  go_wp2
  go_quiet (fail)
  go_wp2_with fail
  refine (sre_true (none : Option Addr) n cap q (q + m) (ints bs) _ _ (by omega) HK.out (by omega) (Y4.out.drewN _)).mono ?_
  rintro e v1 ⟨rfl, hw⟩
  rw [hw]
  clear hw v1
  go_wp2_with fail
  refine (has_any (none : Option Addr) n cap (q + m) bs ⟨#[102, 97, 108, 115, 101]⟩ _ true _ (by omega) hkn (by omega) (by decide) (Y4.out.drewN _) (unhide HG)).mono ?_
  rintro e v2 ⟨rfl, m2, hw⟩
  rw [hw, World.drewN_drewN]
  clear hw v2
  go_wp2
  go_ret
  exact ⟨rfl, below_drewN hB.out _⟩

set_option maxHeartbeats 1000000 in
theorem lawA_nil_E (F : Interp) (n cap : Nat) (hn0 : n ≤ 0) (q m : Nat) (d : Int) (bs : List UInt8) (w : World) (hF : F.answers w.tape) (hl : bs.length = n) (hn : n ≤ 1048576) (hcap : n ≤ cap) (hk : SkipTo (ints bs) n q (q + m)) (ht : tr.isPrefixOf (bs.drop (q + m)) = false) (hf : fa.isPrefixOf (bs.drop (q + m)) = false) :
    Calls Tryf.prog 3 #[.slice none n cap, .int .i64 (q : Int), .int .i64 d] w fun e w' => e = .returned (.bool true) ∧ Below w.heap.size w w' := by
  have HF : Hid (F.answers w.tape) := hF
  have HL : Hid (bs.length = n) := hl
  have HK : Hid (SkipTo (ints bs) n q (q + m)) := hk
  have hkn : q + m ≤ n := hk.hi
  have HT := hide ht
  clear hF hl hk ht
  have HG := hide hf
  clear hf
  have q22 : ∀ (w : World) (a : Option Addr) (n c n' c' : Nat), (binOp .neq 22 (.slice a n c) (.slice none n' c')).run Tryf.prog w = .ok (.bool (!a.isNone)) w := fun w a n c n' c' => run_neq_slice_nil_any w _ _ a n c n' c' Tryf.underlying22
  have db : decide ((1048576 : Int) < (n : Int)) = false := by simp; omega
  have hd0 : decide ((q : Int) < 0) = false := by simp
  have hd1 : decide ((n : Int) < (q : Int)) = false := by simp; omega
  have hd1n : decide (n < q) = false := by simp; omega
  go_enter Tryf.func3, Tryf.ntmps3
  go_wp2_with fail
  refine (bytes1 _ n cap q d w).mono ?_
  rintro e w' ⟨⟨r, rfl⟩, rfl⟩
  cases r with
  | false =>
    go_wp2
    go_ret
    exact ⟨rfl, Below.refl _ _⟩
  | true =>
  have HR : Hid (ByteRow w' none n (ints bs)) := ⟨by rw [ints_length, HL.out], .inl (by omega)⟩
  have HB : Hid (Below w'.heap.size w' w') := Below.refl _ _
  have HNE : Hid (∀ x, (none : Option Addr) = some x → x.block < w'.heap.size) := fun _ h => by cases h
  obtain ⟨a2, ha2⟩ : ∃ a2, a2 = (if cap = q then (none : Option Addr) else Option.map (fun x : Addr => x.add q) (none : Option Addr)) := ⟨_, rfl⟩
  have hsl : ∀ w, (Instr.slice 22 (.slice (none : Option Addr) n cap) (some (.int .i64 (q : Int))) none none).run Tryf.prog w = .ok (.slice a2 (n - q) (cap - q)) w := fun w => cut_run _ n cap q a2 w (by omega) ha2
  have HA2 : Hid (a2 = (if cap = q then (none : Option Addr) else Option.map (fun x : Addr => x.add q) (none : Option Addr))) := ha2
  clear ha2
  go_wp2_with fail
  refine (new_any (none : Option Addr) n cap (q : Int) d w').mono ?_
  rintro e u1 ⟨rfl, hrd, hb⟩
  have B1 : Hid (Below w'.heap.size w' u1) := HB.out.trans (hb.mono HB.out.size)
  have R1 : Hid (Rd u1 w'.heap.size (none : Option Addr) n cap q d) := hrd
  have Y1 : Hid (ByteRow u1 (none : Option Addr) n (ints bs)) := HR.out.below hb
  have N1 : Hid (∀ g off, (none : Option Addr) = some ⟨g, off, none⟩ → g ≠ w'.heap.size) := fun g off h => Nat.ne_of_lt (HNE.out ⟨g, off, none⟩ h)
  have hsz0 : w'.heap.size ≤ w'.heap.size := HB.out.size
  clear hrd hb
  go_wp2_with fail
  refine (bool_err F w'.heap.size (none : Option Addr) n cap q (q + m) d bs u1 (by rw [B1.out.tape]; exact HF.out) (by omega) (by omega) HK.out R1.out Y1.out N1.out (unhide HT) (unhide HG)).mono ?_
  rintro e u2 ⟨⟨ad2, rfl⟩, hrd, hmv⟩
  have B2 : Hid (Below w'.heap.size w' u2) := B1.out.trans (hmv.below B1.out.size hsz0)
  have R2 : Hid (Rd u2 w'.heap.size (none : Option Addr) n cap ((((q + m) : Nat) : Int)) d) := hrd
  have Y2 : Hid (ByteRow u2 (none : Option Addr) n (ints bs)) := Y1.out.mv hmv N1.out
  have N2 : Hid (∀ x, (none : Option Addr) = some x → x.block < u2.heap.size) := fun x h => by
    have h1 := HNE.out x h; have h2 := R2.out.lt; omega
  clear hrd hmv
  go_wp2_with fail
  refine (pos_any w'.heap.size (none : Option Addr) n cap (((q + m : Nat) : Int)) d u2 R2.out).mono ?_
  rintro e u ⟨rfl, hw⟩
  rw [hw]
  clear hw u
  go_wp2_with fail
  refine (new_any a2 (n - q) (cap - q) 0 d u2).mono ?_
  rintro e u3 ⟨rfl, hrd, hb⟩
  have B3 : Hid (Below w'.heap.size w' u3) := B2.out.trans (hb.mono B2.out.size)
  have R3 : Hid (Rd u3 u2.heap.size a2 (n - q) (cap - q) ((0 : Nat) : Int) d) := hrd
  have Y3 : Hid (ByteRow u3 (none : Option Addr) n (ints bs)) := Y2.out.below hb
  have Z3 : Hid (ByteRow u3 a2 (n - q) (ints (bs.drop q))) := by rw [HA2.out]; exact Y3.out.cut (by omega) (by omega)
  have N3 : Hid (∀ g off, a2 = some ⟨g, off, none⟩ → g ≠ u2.heap.size) := fun g off h => Nat.ne_of_lt (cut_lt HA2.out N2.out ⟨g, off, none⟩ h)
  have hsz1 : w'.heap.size ≤ u2.heap.size := B2.out.size
  clear hrd hb
  go_wp2_with fail
  refine (bool_err F u2.heap.size a2 (n - q) (cap - q) 0 m d (bs.drop q) u3 (by rw [B3.out.tape]; exact HF.out) (by omega) (by omega) HK.out.drop R3.out Z3.out N3.out (by rw [List.drop_drop]; exact unhide HT) (by rw [List.drop_drop]; exact unhide HG)).mono ?_
  rintro e u4 ⟨⟨ad4, rfl⟩, hrd, hmv⟩
  have B4 : Hid (Below w'.heap.size w' u4) := B3.out.trans (hmv.below B3.out.size hsz1)
  have R4 : Hid (Rd u4 u2.heap.size a2 (n - q) (cap - q) (((m : Nat) : Int)) d) := hrd
  have Y4 : Hid (ByteRow u4 (none : Option Addr) n (ints bs)) := Y3.out.mv hmv (fun g off h => Nat.ne_of_lt (N2.out ⟨g, off, none⟩ h))
  clear hrd hmv
  go_wp2_with fail
  refine (pos_any u2.heap.size a2 (n - q) (cap - q) (((m : Nat) : Int)) d u4 R4.out).mono ?_
  rintro e u ⟨rfl, hw⟩
  rw [hw]
  clear hw u
  have hsum : (((m : Int) + (q : Int)) != ((q : Int) + (m : Int))) = false := by simp; omega
  clear N1 N2 N3 R1 R2 R3 R4 Y1 Y2 Y3 Z3 B1 B2 B3 HR HB HNE HA2
  have hB : Hid (Below w'.heap.size w' u4) := B4.out
  clear B4
  go_wp2
  go_quiet (fail)
  go_wp2_with fail
  refine (sre_true (none : Option Addr) n cap q (q + m) (ints bs) _ _ (by omega) HK.out (by omega) (Y4.out.drewN _)).mono ?_
  rintro e v1 ⟨rfl, hw⟩
  rw [hw]
  clear hw v1
  go_wp2_with fail
  refine (has_any (none : Option Addr) n cap (q + m) bs ⟨#[116, 114, 117, 101]⟩ _ false _ (by omega) hkn (by omega) (by decide) (Y4.out.drewN _) (unhide HT)).mono ?_
  rintro e v1 ⟨rfl, m1, hw⟩
  rw [hw, World.drewN_drewN]
  clear hw v1
  go_wp2_with fail
  refine (has_any (none : Option Addr) n cap (q + m) bs ⟨#[102, 97, 108, 115, 101]⟩ _ false _ (by omega) hkn (by omega) (by decide) (Y4.out.drewN _) (unhide HG)).mono ?_
  rintro e v2 ⟨rfl, m2, hw⟩
  rw [hw, World.drewN_drewN]
  clear hw v2
  go_wp2
  go_ret
  exact ⟨rfl, below_drewN hB.out _⟩

/-- THE WALK, whatever the input. -/
theorem lawA_walk (F : Interp) (a : Option Addr) (n cap : Nat) (p d : Int) (bs : List UInt8) (w : World) (hF : F.answers w.tape) (hl : bs.length = n) (hcap : n ≤ cap) (hnil : a = none → n = 0)
    (hsrc : ∀ x, a = some x → ∀ j v, ((ints bs).map (Value.int .u8))[j]? = some v → w.cell? (x.add j) = some v) :
    Calls Tryf.prog 3 #[.slice a n cap, .int .i64 p, .int .i64 d] w fun e w' => e = .returned (.bool true) ∧ Below w.heap.size w w' := by
  by_cases hq : (1048576 : Int) < (n : Int) ∨ p < 0 ∨ (n : Int) < p
  · exact lawA_quick a n cap p d w hq
  obtain ⟨q, rfl⟩ := Int.eq_ofNat_of_zero_le (show 0 ≤ p by omega)
  obtain ⟨k0, hk0⟩ := skip_exists (ints bs) n q (by omega)
  obtain ⟨m, rfl⟩ : ∃ m, k0 = q + m := ⟨k0 - q, by have := hk0.lo; omega⟩
  have hn : n ≤ 1048576 := by omega
  cases a with
  | none =>
    have h0 : n ≤ 0 := Nat.le_of_eq (hnil rfl)
    cases ht : tr.isPrefixOf (bs.drop (q + m)) with
    | true => exact lawA_nil_T F n cap h0 q m d bs w hF hl hn hcap hk0 ht
    | false =>
      cases hf : fa.isPrefixOf (bs.drop (q + m)) with
      | true => exact lawA_nil_F F n cap h0 q m d bs w hF hl hn hcap hk0 ht hf
      | false => exact lawA_nil_E F n cap h0 q m d bs w hF hl hn hcap hk0 ht hf
  | some x =>
    cases ht : tr.isPrefixOf (bs.drop (q + m)) with
    | true => exact lawA_some_T F x n cap q m d bs w hF hl hn hcap hk0 (hsrc x rfl) ht
    | false =>
      cases hf : fa.isPrefixOf (bs.drop (q + m)) with
      | true => exact lawA_some_F F x n cap q m d bs w hF hl hn hcap hk0 (hsrc x rfl) ht hf
      | false => exact lawA_some_E F x n cap q m d bs w hF hl hn hcap hk0 (hsrc x rfl) ht hf
end Go.Proofs.Qxb6628830aFmt
