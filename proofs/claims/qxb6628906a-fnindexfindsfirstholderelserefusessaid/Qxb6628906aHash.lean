/-
  The hash: its walk; what it is of the bytes.
-/
import Derived.Test.Qxb6628906aRows
import Derived.Test.Qxb6628906aShelf
import Derived.WalkKit
import Derived.WalkSpells
import Derived.WalkLawsBesides
import Derived.Deep.QuietTactic
import Derived.BigQuiet
import Derived.Deep.RegionHeld3
import Derived.WideShapes
set_option linter.unusedVariables false
namespace Go.Proofs.Qxb6628906a
open Go.RowKit
open Go.WideShapes (add_plain)

theorem bounds_u32 {n : Int} (h : (Lit.int .u32 n).wf = true) : 0 ≤ n ∧ n ≤ 4294967295 := by
  simp [Lit.wf, IntKind.min, IntKind.max, IntKind.signed, IntKind.bits] at h
  omega
theorem bounds_u8 {n : Int} (h : (Lit.int .u8 n).wf = true) : 0 ≤ n ∧ n ≤ 255 := by
  simp [Lit.wf, IntKind.min, IntKind.max, IntKind.signed, IntKind.bits] at h
  omega
theorem below_drewN {B : Nat} {u w : World} (h : Below B u w) (n : Nat) : Below B u (w.drewN n) := h.trans ⟨rfl, rfl, rfl, Nat.le_refl _, fun _ _ => rfl⟩
theorem bits_lo (op : BinOp) (x y : Int) : 0 ≤ bits op .u64 x y := by unfold bits; rw [IntKind.wrap_u64]; omega
theorem bits_hi (op : BinOp) (x y : Int) : bits op .u64 x y < 18446744073709551616 := by unfold bits; rw [IntKind.wrap_u64]; omega
theorem wrap_lo (x : Int) : 0 ≤ IntKind.u64.wrap x := by rw [IntKind.wrap_u64]; omega
theorem wrap_hi (x : Int) : IntKind.u64.wrap x < 18446744073709551616 := by rw [IntKind.wrap_u64]; omega

/-- A slice of bytes: empty (at whatever address), or its cells lie in one row. -/
def ByteRow (w : World) (a : Option Addr) (n : Nat) (zs : List Int) : Prop :=
  zs.length = n ∧ (n = 0 ∨ ∃ b off, a = some ⟨b, off, none⟩ ∧ b < w.heap.size ∧ ∀ j, j < n → w.cell? ⟨b, off + j, none⟩ = some (.int .u8 (zs.getD j 0)))
theorem ByteRow.below {w w' : World} {a : Option Addr} {n : Nat} {zs : List Int} (h : ByteRow w a n zs) {B : Nat} (hb : Below B w w') (hB : ∀ g off, a = some ⟨g, off, none⟩ → g < B) : ByteRow w' a n zs := by
  refine ⟨h.1, ?_⟩
  rcases h.2 with h | ⟨g, off, rfl, hlt, hc⟩
  · exact .inl h
  · refine .inr ⟨g, off, rfl, Nat.lt_of_lt_of_le hlt hb.size, fun j hj => ?_⟩
    rw [hb.cell (p := ⟨g, off + j, none⟩) (hB g off rfl)]; exact hc j hj

/-- math.bits.RotateLeft64(x, 31). -/
def rot31 (x : Int) : Int := bits .or .u64 (IntKind.u64.wrap (x * 2147483648)) (x / 8589934592)
set_option maxHeartbeats 400000 in
theorem rot (x : Int) (h0 : 0 ≤ x) (h1 : x < 18446744073709551616) (w : World) :
    Calls Try.prog 18 #[.int .u64 x, .int .i64 31] w fun e w' => e = .returned (.int .u64 (rot31 x)) ∧ w' = w := by
  have e31 : bits .and .u64 31 63 = 31 := by decide +kernel
  go_enter Try.func18, Try.ntmps18
  go_wp2
  go_ret
  exact ⟨rfl, rfl⟩

def hstep (h x : Int) : Int := rot31 (IntKind.u64.wrap (bits .xor .u64 h x * 13787848793156543929))
def hfin (h l : Int) : Int := bits .xor .u64 (IntKind.u64.wrap (bits .xor .u64 h l * 10723151780598845931)) (IntKind.u64.wrap (bits .xor .u64 h l * 10723151780598845931) / 536870912)
def hlast (zs : List Int) : Int :=
  if 4 ≤ zs.length then bits .or .u64 (Lib.leZ (zs.take 4)) (Lib.leZ ((zs.drop (zs.length - 4)).take 4) * 4294967296)
  else if 0 < zs.length then bits .or .u64 (bits .or .u64 (zs.getD 0 0) (zs.getD (zs.length / 2) 0 * 256)) (zs.getD (zs.length - 1) 0 * 65536)
  else 0
/-- The hash of the bytes zs, from h on. -/
def hgo (h : Int) (zs : List Int) : Int :=
  if 8 < zs.length then hgo (hstep h (Lib.leZ (zs.take 8))) (zs.drop 8) else hfin h (hlast zs)
termination_by zs.length
decreasing_by simp; omega
def hashZ (zs : List Int) : Int := hgo (IntKind.u64.wrap ((zs.length : Int) * 11400714819323198485)) zs
theorem hgo_big {h : Int} {zs : List Int} (c : 8 < zs.length) : hgo h zs = hgo (hstep h (Lib.leZ (zs.take 8))) (zs.drop 8) := by rw [hgo, if_pos c]
theorem hgo_small {h : Int} {zs : List Int} (c : ¬ 8 < zs.length) : hgo h zs = hfin h (hlast zs) := by rw [hgo, if_neg c]
theorem hgo_range : ∀ (zs : List Int) (h : Int), 0 ≤ hgo h zs ∧ hgo h zs < 18446744073709551616 := by
  intro zs
  obtain ⟨m, hm⟩ : ∃ m, m = zs.length := ⟨_, rfl⟩
  induction m using Nat.strongRecOn generalizing zs with
  | _ m ih =>
    intro h
    by_cases c : 8 < zs.length
    · rw [hgo_big c]; exact ih (zs.drop 8).length (by simp; omega) _ rfl _
    · rw [hgo_small c]; exact ⟨bits_lo _ _ _, bits_hi _ _ _⟩
theorem hash_range (zs : List Int) : 0 ≤ hashZ zs ∧ hashZ zs < 18446744073709551616 := hgo_range _ _

theorem cut_run (a : Option Addr) (n cap q : Nat) (a2 : Option Addr) (w : World) (hq : q ≤ n) (h : a2 = (if cap = q then a else Option.map (fun x : Addr => x.add q) a)) :
    (Instr.slice 23 (.slice a n cap) (some (.int .i64 (q : Int))) none none).run Try.prog w = .ok (.slice a2 (n - q) (cap - q)) w := by
  rw [run_slice_l (P := Try.prog) (t := 23) (w := w) (ht := Try.underlying23) (h0 := by omega) (h1 := by omega)]
  have hs : (sizeOf (Try.prog.elem 23)).run Try.prog w = .ok 1 w := by kernel_rfl
  rw [hs, h]
  simp [Result.andThen, sliced]

theorem getD_drop (l : List Int) (k j : Nat) (d : Int) : (l.drop k).getD j d = l.getD (k + j) d := by
  simp [List.getD, List.getElem?_drop]
theorem row_cells {w : World} {g off m : Nat} {ys : List Int} (h : ByteRow w (some ⟨g, off, none⟩) m ys) (hm : m ≠ 0) :
    ∀ i, i < ys.length → w.cell? ((⟨g, off, none⟩ : Addr).add i) = some (.int .u8 (ys.getD i 0)) := fun i hi => by
  obtain ⟨hl, h⟩ := h
  obtain ⟨b, o, ha, hgl, hcz⟩ := h.resolve_left hm
  cases ha
  rw [add_plain]; exact hcz i (by omega)
theorem row_drop {w : World} {g off m : Nat} {ys : List Int} (h : ByteRow w (some ⟨g, off, none⟩) m ys) (k : Nat) (hk : k ≤ m) :
    ByteRow w (some ⟨g, off + k, none⟩) (m - k) (ys.drop k) := by
  refine ⟨by rw [List.length_drop, h.1], ?_⟩
  rcases h.2 with h0 | ⟨b, o, ha, hgl, hcz⟩
  · exact .inl (by omega)
  · cases ha
    refine .inr ⟨g, off + k, rfl, hgl, fun j hj => ?_⟩
    rw [getD_drop, Nat.add_assoc]; exact hcz (k + j) (by omega)

/-- What was there at wr is there still. -/
def Keeps (wr w' : World) : Prop := Below wr.heap.size wr w'
theorem Keeps.refl (w : World) : Keeps w w := Below.refl _ _
theorem Keeps.below {wr w' : World} (h : Keeps wr w') : Below wr.heap.size wr w' := h
theorem Keeps.drew {wr w' : World} (h : Keeps wr w') : Keeps wr w'.drew := Below.drew h
theorem Keeps.drewN {wr w' : World} (h : Keeps wr w') (n : Nat) : Keeps wr (w'.drewN n) := below_drewN h n
theorem Keeps.call {wr w' w'' : World} (h : Keeps wr w') (hb : Below w'.heap.size w' w'') : Keeps wr w'' := Below.trans h (hb.mono h.size)
theorem le32 {wr : World} {g off m : Nat} {ys : List Int} (hr : ByteRow wr (some ⟨g, off, none⟩) m ys) (hw : ∀ z ∈ ys, (Lit.int .u8 z).wf = true) (hgl : g < wr.heap.size) (k : Nat) (n c : Nat) (hk : k + 4 ≤ m) (hn : 4 ≤ n) (w : World) (h : Keeps wr w) :
    Calls Try.prog 20 #[.agg #[], .slice (some ⟨g, off + k, none⟩) n c] w fun e w' => e = .returned (.int .u32 (Lib.leZ ((ys.drop k).take 4))) ∧ Keeps wr w' := by
  have h1 := row_drop (hr.below h (fun g' o' e => by cases e; exact hgl)) k (by omega)
  refine (Try.binary_LE_Uint32_z ⟨g, off + k, none⟩ n c (ys.drop k) w hn (by rw [h1.1]; omega) (row_cells h1 (by omega)) (fun z hz => hw z (List.mem_of_mem_drop hz))).mono ?_
  rintro e w' ⟨rfl, hb⟩
  exact ⟨rfl, h.call hb⟩

set_option maxHeartbeats 1000000 in
set_option maxRecDepth 100000 in
theorem hash_any (a : Option Addr) (n cap : Nat) (zs : List Int) (w : World) (hn : n ≤ 1048576) (hcap : n ≤ cap) (hr : ByteRow w a n zs) (hw : ∀ z ∈ zs, (Lit.int .u8 z).wf = true) :
    Calls Try.prog 15 #[.slice a n cap] w fun e w' => e = .returned (.int .u64 (hashZ zs)) ∧ Below w.heap.size w w' := by
  have HR : Hid (ByteRow w a n zs) := hr
  have HW : Hid (∀ z ∈ zs, (Lit.int .u8 z).wf = true) := hw
  have HL : Hid (zs.length = n) := hr.1
  clear hr hw
  go_enter Try.func15, Try.ntmps15
  go_wp2
  go_loopw [0, 3] (fun v h wr => ∃ (m c : Nat) (a' : Option Addr) (ys : List Int) (x : Int), m ≤ n ∧ m ≤ c ∧ v = .slice a' m c ∧ h = .int .u64 x ∧ 0 ≤ x ∧ x < 18446744073709551616 ∧ Hid (ByteRow wr a' m ys) ∧ Hid (∀ z ∈ ys, (Lit.int .u8 z).wf = true) ∧ Hid (hgo x ys = hashZ zs) ∧ Hid (Below w.heap.size w wr) ∧ Hid (∀ g off, a' = some ⟨g, off, none⟩ → m = 0 ∨ g < w.heap.size)) (fun v _ _ => match v with | .slice _ m _ => m | _ => 0)
  case atStart => exact ⟨n, cap, a, zs, _, Nat.le_refl _, hcap, rfl, rfl, wrap_lo _, wrap_hi _, HR, HW, by show hgo _ zs = hashZ zs; rw [hashZ, HL.out], Below.refl _ _, fun g off h => by
    rcases HR.out.2 with h0 | ⟨b, o, rfl, hlt, _⟩
    · exact .inl h0
    · cases h; exact .inr hlt⟩
  case round =>
    obtain ⟨m, c, a', ys, x, hmn, hmc, rfl, rfl, hx0, hx1, HY, HWY, HX, HB, HA⟩ := hrel
    by_cases hbig : 8 < m
    · obtain ⟨g, off, ha, hgl, hcz⟩ := HY.out.2.resolve_left (by omega)
      subst ha
      have hgw : g < w.heap.size := (HA.out g off rfl).resolve_left (by omega)
      clear hcz HA
      have hsl : ∀ w, (Instr.slice 23 (.slice (some ⟨g, off, none⟩) m c) (some (.int .i64 (8 : Int))) none none).run Try.prog w = .ok (.slice (some ⟨g, off + 8, none⟩) (m - 8) (c - 8)) w := fun w => cut_run _ m c 8 _ w (by omega) (by rw [if_neg (by omega)]; rw [Option.map_some, add_plain])
      go_wp2_with fail
      refine (Try.binary_LE_Uint64_z ⟨g, off, none⟩ m c ys wr (by omega) (by rw [HY.out.1]; omega) (row_cells HY.out (by omega)) HWY.out).mono ?_
      rintro e w1 ⟨rfl, hb⟩
      have HB1 : Hid (Below w.heap.size w w1) := HB.out.trans (hb.mono HB.out.size)
      have HY1 : Hid (ByteRow w1 (some ⟨g, off, none⟩) m ys) := HY.out.below hb (fun g' o' e => by cases e; exact hgl)
      obtain ⟨l8, hl8⟩ : ∃ l8, l8 = Lib.leZ (ys.take 8) := ⟨_, rfl⟩
      have HL8 : Hid (l8 = Lib.leZ (ys.take 8)) := hl8
      rw [← hl8]
      clear hl8 hb
      go_wp2_with fail
      refine (rot _ (wrap_lo _) (wrap_hi _) w1).mono ?_
      rintro e w2 ⟨rfl, hw2⟩
      rw [hw2]
      clear hw2 w2
      go_wp2
      go_roundw
      case rel =>
        refine ⟨m - 8, c - 8, some ⟨g, off + 8, none⟩, ys.drop 8, _, by omega, by omega, rfl, rfl, bits_lo _ _ _, bits_hi _ _ _, row_drop HY1.out 8 (by omega), fun z hz => HWY.out z (List.mem_of_mem_drop hz), ?_, HB1, fun g' o' e => by cases e; exact .inr hgw⟩
        show hgo (hstep x l8) (ys.drop 8) = hashZ zs
        rw [HL8.out, ← hgo_big (by rw [HY.out.1]; omega)]; exact HX.out
      case measure => show m - 8 < m; omega
    · have hsm : ¬ 8 < ys.length := by rw [HY.out.1]; exact hbig
      have HX2 : Hid (hfin x (hlast ys) = hashZ zs) := by show _ = _; rw [← hgo_small hsm]; exact HX.out
      clear hsm
      by_cases h4 : 4 ≤ m
      · obtain ⟨k, hk⟩ : ∃ k, m = k + 4 := ⟨m - 4, by omega⟩
        subst hk
        obtain ⟨g, off, ha, hgl, hcz⟩ := HY.out.2.resolve_left (by omega)
        subst ha
        have hsl : ∀ w, (Instr.slice 23 (.slice (some ⟨g, off, none⟩) (k + 4) c) (some (.int .i64 (k : Int))) none none).run Try.prog w = .ok (.slice (some ⟨g, off + k, none⟩) 4 (c - k)) w := fun w => by
          have h := cut_run (some ⟨g, off, none⟩) (k + 4) c k _ w (by omega) rfl
          rw [if_neg (by omega), Option.map_some, add_plain, show k + 4 - k = 4 by omega] at h
          exact h
        clear hcz
        have hk4 : k ≤ 4 := by omega
        have hse : ∀ w, (sizeOf (Try.prog.elem 23)).run Try.prog w = .ok 1 w := fun w => by kernel_rfl
        have hwk : IntKind.i64.wrap (k : Int) = (k : Int) := by rw [IntKind.wrap_i64]; omega
        have hse5 : ∀ w, (sizeOf 5).run Try.prog w = .ok 1 w := fun w => by kernel_rfl
        have hel : Try.prog.elem 23 = 5 := by kernel_rfl
        have hki : (0 : Int) ≤ (k : Int) := by omega
        have hkj : (k : Int) ≤ ((k + 4 : Nat) : Int) := by omega
        have hck : ¬ (c = k) := by omega
        have hk44 : (k : Int) + 4 - 4 = (k : Int) := by omega
        obtain ⟨pk, hpk⟩ : ∃ pk : Option Addr → Int, pk = fun a => if a = some ⟨g, off, none⟩ then Lib.leZ (ys.take 4) else Lib.leZ ((ys.drop k).take 4) := ⟨_, rfl⟩
        have b1 := bounds_u32 (Lib.leZ4_wf ys (by rw [HY.out.1]; omega) HWY.out)
        have b2 := bounds_u32 (Lib.leZ4_wf (ys.drop k) (by rw [List.length_drop, HY.out.1]; omega) (fun z hz => HWY.out z (List.mem_of_mem_drop hz)))
        have P1 : Hid (pk (some ⟨g, off, none⟩) = Lib.leZ (ys.take 4)) := by show pk _ = _; rw [hpk]; simp
        have P2 : Hid (pk (some ⟨g, off + k, none⟩) = Lib.leZ ((ys.drop k).take 4)) := by
          show pk _ = _; rw [hpk]
          by_cases h0 : k = 0
          · subst h0; simp
          · show (if some (⟨g, off + k, none⟩ : Addr) = some ⟨g, off, none⟩ then _ else _) = _
            have hne : ¬ (some (⟨g, off + k, none⟩ : Addr) = some ⟨g, off, none⟩) := by simp <;> exact h0
            rw [if_neg hne]
        have LL : Hid (∀ (a : Option Addr) (n c : Nat) (w : World), 4 ≤ n → Keeps wr w → (a = some ⟨g, off, none⟩ ∨ a = some ⟨g, off + k, none⟩) → Calls Try.prog 20 #[.agg #[], .slice a n c] w fun e w' => e = .returned (.int .u32 (pk a)) ∧ Keeps wr w') := fun a n c w hn h ha => by
          rcases ha with rfl | rfl
          · rw [P1.out]; exact le32 HY.out HWY.out hgl 0 n c (by omega) hn w h
          · rw [P2.out]; exact le32 HY.out HWY.out hgl k n c (by omega) hn w h
        have HLAST : Hid (hlast ys = bits .or .u64 (pk (some ⟨g, off, none⟩)) (pk (some ⟨g, off + k, none⟩) * 4294967296)) := by
          show _ = _
          rw [P1.out, P2.out, hlast, if_pos (by rw [HY.out.1]; omega), show ys.length - 4 = k by rw [HY.out.1]; omega]
        rw [← P1.out] at b1
        rw [← P2.out] at b2
        clear hpk
        go_wp2
        go_region_held3 (fun w' => Keeps wr w')
          (first | assumption | exact Keeps.refl _ | exact Keeps.drew (Keeps.refl _) | (refine Keeps.drew ?_; assumption))
          (first | (go_at_call 20; refine (LL.out _ _ _ _ ?_ ?_ ?_).mono ?_; omega; (first | assumption | exact Keeps.refl _ | exact Keeps.drew (Keeps.refl _)); (first | exact .inl rfl | exact .inr rfl); rintro e w1 ⟨rfl, hk1⟩))
        all_goals
          go_wp2
          go_ret
          refine ⟨?_, HB.out.trans ((Keeps.below (by assumption)).mono HB.out.size)⟩
          rw [← HX2.out, HLAST.out]; rfl
      · by_cases h1 : 0 < m
        · obtain ⟨g, off, ha, hgl, hcz⟩ := HY.out.2.resolve_left (by omega)
          subst ha
          obtain ⟨z0, hz0⟩ : ∃ z, z = ys.getD 0 0 := ⟨_, rfl⟩
          obtain ⟨z1, hz1⟩ : ∃ z, z = ys.getD (m / 2) 0 := ⟨_, rfl⟩
          obtain ⟨z2, hz2⟩ : ∃ z, z = ys.getD (m - 1) 0 := ⟨_, rfl⟩
          have c0 : wr.cell? ⟨g, off, none⟩ = some (.int .u8 z0) := by rw [hz0]; exact hcz 0 (by omega)
          have c1 : wr.cell? ⟨g, off + m / 2, none⟩ = some (.int .u8 z1) := by rw [hz1]; exact hcz (m / 2) (by omega)
          have c2 : wr.cell? ⟨g, off + (m - 1), none⟩ = some (.int .u8 z2) := by rw [hz2]; exact hcz (m - 1) (by omega)
          have wfj : ∀ j, j < m → 0 ≤ ys.getD j 0 ∧ ys.getD j 0 ≤ 255 := fun j hj => bounds_u8 (HWY.out _ (by
            have hj' : j < ys.length := by rw [HY.out.1]; exact hj
            simp only [List.getD, List.getElem?_eq_getElem hj', Option.getD_some]; exact List.getElem_mem hj'))
          have w0 := wfj 0 (by omega)
          have w1 := wfj (m / 2) (by omega)
          have w2 := wfj (m - 1) (by omega)
          rw [← hz0] at w0
          rw [← hz1] at w1
          rw [← hz2] at w2
          have HLAST : Hid (hlast ys = bits .or .u64 (bits .or .u64 z0 (z1 * 256)) (z2 * 65536)) := by
            show _ = _
            rw [hlast, if_neg (by rw [HY.out.1]; omega), if_pos (by rw [HY.out.1]; omega), HY.out.1, hz0, hz1, hz2]
          clear hcz wfj hz0 hz1 hz2
          go_wp2
          go_quiet (fail)
          go_wp2
          go_ret
          refine ⟨?_, HB.out.trans (below_drewN (Below.refl _ _) _)⟩
          rw [← HX2.out, HLAST.out]; rfl
        · have h0 : m = 0 := by omega
          subst h0
          go_wp2
          go_ret
          refine ⟨?_, HB.out⟩
          have : hlast ys = 0 := by rw [hlast, if_neg (by rw [HY.out.1]; omega), if_neg (by rw [HY.out.1]; omega)]
          rw [← HX2.out, this]; rfl
end Go.Proofs.Qxb6628906a
