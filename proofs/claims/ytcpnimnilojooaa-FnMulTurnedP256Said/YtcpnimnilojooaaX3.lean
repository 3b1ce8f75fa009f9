/- The walks of plus and lessen. -/
import Derived.Test.YtcpnimnilojooaaX2
import Derived.StillTailTactics
import Derived.Laws.MakeOwn
import Derived.KernelRfl
namespace Go.Fiat
open Go Go.Proofs Go.RowKit

theorem ret_val {a b : Value} (h : a = b) : Ending.returned a = .returned b := by rw [h]

theorem infoW : (Try.prog.info? 22).map (fun i => (i.zero, i.size, i.bytes)) = some (some (.int .u64 0), 1, 8) := by kernel_rfl
theorem undS : Try.prog.underlying 25 = some (.slice 22) := by kernel_rfl

theorem make_words (n : Nat) (hn : n < 65536) (w : World) : (Instr.makeSlice 25 (.int .i64 (n : Nat)) (.int .i64 (n : Nat))).run Try.prog w = .ok (.slice (some ⟨w.heap.size, 0, none⟩) n n) (w.alloc (.cells (rowOf false (List.replicate n 0)) 22 (0, 0))) := by
  cases hi : Try.prog.info? 22 with
  | none => have := infoW; rw [hi] at this; cases this
  | some i =>
    have h := infoW
    rw [hi] at h
    simp only [Option.map_some, Option.some.injEq, Prod.mk.injEq] at h
    obtain ⟨h1, h2, h3⟩ := h
    have hr := run_make (P := Try.prog) w 25 22 i (.int .u64 0) undS hi h1 .i64 .i64 (n : Nat) (n : Nat) (by omega) (by omega) (by rw [h3]; omega) (by omega)
    rw [h2] at hr
    rw [hr]
    congr 3
    simp only [madeCells, rowOf, Value.cells]
    apply Array.ext'
    simp
    apply List.ext_getElem?
    intro j
    rcases Nat.lt_or_ge j n with hj | hj
    · simp [hj, Nat.mod_one]
    · rw [List.getElem?_eq_none (by simpa using hj), List.getElem?_eq_none (by simpa using hj)]

theorem cell_keep {w wr : World} (K : Keeps w wr) {b : Nat} (hb : b < w.heap.size) (k : Nat) : wr.cell? ⟨b, k, none⟩ = w.cell? ⟨b, k, none⟩ := by
  simp [World.cell?, K.block b hb]

theorem row_set (l : List Nat) (q z : Nat) : (rowOf false l).setIfInBounds q (.int .u64 (z : Nat)) = rowOf false (l.set q z) := by
  apply Array.ext'
  simp [rowOf, List.map_set]

/-- A word of a block of the call's own is set. -/
theorem own_set {w wr : World} {b ty q z : Nat} {l : List Nat} (K : Keeps w wr) (hb : w.heap.size ≤ b) (h : wr.heap[b]? = some (.cells (rowOf false l) ty (0, 0))) :
    Keeps w (wr.setCell ⟨b, q, none⟩ (.int .u64 (z : Nat))) ∧ (wr.setCell ⟨b, q, none⟩ (.int .u64 (z : Nat))).heap[b]? = some (.cells (rowOf false (l.set q z)) ty (0, 0)) := by
  have T := turned_setCell (off := q) (v := .int .u64 (z : Nat)) h
  refine ⟨⟨T.os.trans K.os, T.tape.trans K.tape, T.output.trans K.output, by rw [T.size]; exact K.size, fun j hj => ?_, fun a => (T.frozen a).trans (K.frozen a)⟩, by rw [← row_set]; exact T.at_⟩
  rw [T.other j (by omega)]; exact K.block j hj

/-- A new row and a truth value come back. -/
def GP (w : World) (n : Nat) (R : List Nat → Bool → Prop) (e : Ending) (w' : World) : Prop :=
  ∃ os r, e = .returned (.tuple #[sl w.heap.size n, .bool r]) ∧ Keeps w w' ∧ w'.heap[w.heap.size]? = some (.cells (rowOf false os) 22 (0, 0)) ∧ os.length = n ∧ (∀ x ∈ os, x < 18446744073709551616) ∧ R os r

theorem plus_any (xs ys : List Nat) (bx by_ tx ty len : Nat) (w : World) (hlx : xs.length = len) (hly : ys.length = len) (hn : len < 65536) (wx : ∀ x ∈ xs, x < 18446744073709551616) (wy : ∀ x ∈ ys, x < 18446744073709551616)
    (hx : w.heap[bx]? = some (.cells (rowOf false xs) tx (0, 0))) (hy : w.heap[by_]? = some (.cells (rowOf false ys) ty (0, 0))) :
    Calls Try.prog 29 #[sl bx len, sl by_ len] w (GP w len fun os r => wval os + 18446744073709551616 ^ len * (if r = true then 1 else 0) = wval xs + wval ys) := by
  have HX' : ∀ k, k < len → w.cell? ⟨bx, k, none⟩ = some (.int .u64 ((gx xs k : Nat) : Int)) := fun k hk => cell_word hx (by omega)
  have HY' : ∀ k, k < len → w.cell? ⟨by_, k, none⟩ = some (.int .u64 ((gx ys k : Nat) : Int)) := fun k hk => cell_word hy (by omega)
  have HX := Lib.hid HX'
  have HY := Lib.hid HY'
  have HLX := Lib.hid hlx
  have HLY := Lib.hid hly
  have HWX := Lib.hid wx
  have HWY := Lib.hid wy
  have HBX := Lib.hid (show bx < w.heap.size from (Array.getElem?_eq_some_iff.1 hx).1)
  have HBY := Lib.hid (show by_ < w.heap.size from (Array.getElem?_eq_some_iff.1 hy).1)
  clear hx hy HX' HY' hlx hly wx wy
  have hmk := make_words len hn w
  unfold sl
  go_enter Try.func29, Try.ntmps29
  go_wp2
  go_loopw [7, 8] (fun v i wr => ∃ k c : Nat, ∃ os : List Nat, k ≤ len ∧ i = .int .i64 k ∧ v = .int .u64 c ∧ Hid (Keeps w wr ∧ wr.heap[w.heap.size]? = some (.cells (rowOf false os) 22 (0, 0)) ∧ PlusK xs ys os len k c)) (fun _ i _ => len - (intOf i).toNat)
  case atStart => exact ⟨0, 0, _, Nat.zero_le _, rfl, rfl, Lib.hid ⟨Keeps.alloc _ _ _, heap_new _ _, PlusK.zero xs ys len⟩⟩
  case round =>
    obtain ⟨k, c, os, hk, rfl, rfl, ht⟩ := hrel
    by_cases hlt : k < len
    · obtain ⟨a, ha⟩ : ∃ a, a = gx xs k := ⟨_, rfl⟩
      obtain ⟨b, hb⟩ : ∃ b, b = gx ys k := ⟨_, rfl⟩
      obtain ⟨x, hxx⟩ : ∃ x, x = (a + c) % 18446744073709551616 := ⟨_, rfl⟩
      obtain ⟨z, hz⟩ : ∃ z, z = (x + b) % 18446744073709551616 := ⟨_, rfl⟩
      have hxk : wr.cell? ⟨bx, k, none⟩ = some (.int .u64 (a : Int)) := by rw [ha]; exact (cell_keep ht.out.1 HBX.out k).trans (HX.out k hlt)
      have hyk : wr.cell? ⟨by_, k, none⟩ = some (.int .u64 (b : Int)) := by rw [hb]; exact (cell_keep ht.out.1 HBY.out k).trans (HY.out k hlt)
      have hok : wr.cell? ⟨w.heap.size, k, none⟩ = some (.int .u64 ((gx os k : Nat) : Int)) := cell_word ht.out.2.1 (by rw [ht.out.2.2.size]; exact hlt)
      have hfz : wr.frozen? ⟨w.heap.size, k, none⟩ = false := by simp [World.frozen?, ht.out.2.1]
      have c1 : IntKind.u64.wrap ((a : Int) + (c : Int)) = (x : Int) := by rw [IntKind.wrap_u64]; omega
      have c2 : IntKind.u64.wrap ((x : Int) + (b : Int)) = (z : Int) := by rw [IntKind.wrap_u64]; omega
      have HA := Lib.hid ha
      have HB := Lib.hid hb
      have HX1 := Lib.hid hxx
      have HZ := Lib.hid hz
      clear ha hb hxx hz
      have HS : Hid (∀ c', c' = (if x < c ∨ z < x then 1 else 0) → Hid (Keeps w (wr.setCell ⟨w.heap.size, k, none⟩ (.int .u64 (z : Nat))) ∧ (wr.setCell ⟨w.heap.size, k, none⟩ (.int .u64 (z : Nat))).heap[w.heap.size]? = some (.cells (rowOf false (os.set k z)) 22 (0, 0)) ∧ PlusK xs ys (os.set k z) len (k + 1) c')) :=
        Lib.hid fun c' hc' => by
          have h1 := own_set (q := k) (z := z) ht.out.1 (Nat.le_refl _) ht.out.2.1
          exact Lib.hid ⟨h1.1, h1.2, ht.out.2.2.step hlt HLX.out HLY.out HWX.out HWY.out HA.out HB.out HX1.out HZ.out hc'⟩
      go_wp2
      all_goals
        go_roundw
        case rel =>
          first
            | exact ⟨k + 1, 0, _, by omega, by go_num, rfl, HS.out 0 (by rw [if_neg (by omega)])⟩
            | exact ⟨k + 1, 1, _, by omega, by go_num, rfl, HS.out 1 (by rw [if_pos (by omega)])⟩
        case measure => simp [intOf]; omega
    · go_wp2
      go_ret2
      have h0 := ht.out
      have hkl : k = len := by omega
      subst hkl
      refine ⟨os, ((c : Int) == 1), rfl, h0.1, h0.2.1, h0.2.2.size, h0.2.2.words, ?_⟩
      have h1 := h0.2.2.done HLX.out HLY.out
      have h2 := h0.2.2.one
      have h3 : (if ((c : Int) == 1) = true then 1 else 0) = c := by
        rcases (show c = 0 ∨ c = 1 by omega) with rfl | rfl <;> rfl
      dsimp only
      rw [h3]; exact h1

theorem lessen_any (xs ys : List Nat) (bx by_ tx ty len : Nat) (w : World) (hlx : xs.length = len) (hly : ys.length = len) (hn : len < 65536) (wx : ∀ x ∈ xs, x < 18446744073709551616) (wy : ∀ x ∈ ys, x < 18446744073709551616)
    (hx : w.heap[bx]? = some (.cells (rowOf false xs) tx (0, 0))) (hy : w.heap[by_]? = some (.cells (rowOf false ys) ty (0, 0))) :
    Calls Try.prog 30 #[sl bx len, sl by_ len] w (GP w len fun os r => wval os + wval ys = wval xs + 18446744073709551616 ^ len * (if r = true then 1 else 0)) := by
  have HX' : ∀ k, k < len → w.cell? ⟨bx, k, none⟩ = some (.int .u64 ((gx xs k : Nat) : Int)) := fun k hk => cell_word hx (by omega)
  have HY' : ∀ k, k < len → w.cell? ⟨by_, k, none⟩ = some (.int .u64 ((gx ys k : Nat) : Int)) := fun k hk => cell_word hy (by omega)
  have HX := Lib.hid HX'
  have HY := Lib.hid HY'
  have HLX := Lib.hid hlx
  have HLY := Lib.hid hly
  have HWX := Lib.hid wx
  have HWY := Lib.hid wy
  have HBX := Lib.hid (show bx < w.heap.size from (Array.getElem?_eq_some_iff.1 hx).1)
  have HBY := Lib.hid (show by_ < w.heap.size from (Array.getElem?_eq_some_iff.1 hy).1)
  clear hx hy HX' HY' hlx hly wx wy
  have hmk := make_words len hn w
  unfold sl
  go_enter Try.func30, Try.ntmps30
  go_wp2
  go_loopw [7, 8] (fun v i wr => ∃ k c : Nat, ∃ os : List Nat, k ≤ len ∧ i = .int .i64 k ∧ v = .int .u64 c ∧ Hid (Keeps w wr ∧ wr.heap[w.heap.size]? = some (.cells (rowOf false os) 22 (0, 0)) ∧ LessK xs ys os len k c)) (fun _ i _ => len - (intOf i).toNat)
  case atStart => exact ⟨0, 0, _, Nat.zero_le _, rfl, rfl, Lib.hid ⟨Keeps.alloc _ _ _, heap_new _ _, LessK.zero xs ys len⟩⟩
  case round =>
    obtain ⟨k, c, os, hk, rfl, rfl, ht⟩ := hrel
    by_cases hlt : k < len
    · obtain ⟨a, ha⟩ : ∃ a, a = gx xs k := ⟨_, rfl⟩
      obtain ⟨b, hb⟩ : ∃ b, b = gx ys k := ⟨_, rfl⟩
      obtain ⟨x, hxx⟩ : ∃ x, x = (a + 18446744073709551616 - c) % 18446744073709551616 := ⟨_, rfl⟩
      obtain ⟨z, hz⟩ : ∃ z, z = (x + 18446744073709551616 - b) % 18446744073709551616 := ⟨_, rfl⟩
      have hxk : wr.cell? ⟨bx, k, none⟩ = some (.int .u64 (a : Int)) := by rw [ha]; exact (cell_keep ht.out.1 HBX.out k).trans (HX.out k hlt)
      have hyk : wr.cell? ⟨by_, k, none⟩ = some (.int .u64 (b : Int)) := by rw [hb]; exact (cell_keep ht.out.1 HBY.out k).trans (HY.out k hlt)
      have hok : wr.cell? ⟨w.heap.size, k, none⟩ = some (.int .u64 ((gx os k : Nat) : Int)) := cell_word ht.out.2.1 (by rw [ht.out.2.2.size]; exact hlt)
      have hfz : wr.frozen? ⟨w.heap.size, k, none⟩ = false := by simp [World.frozen?, ht.out.2.1]
      have hbb : b < 18446744073709551616 := by rw [hb]; exact gx_lt HWY.out (by have := HLY.out; omega)
      have hcc := ht.out.2.2.one
      have c1 : IntKind.u64.wrap ((a : Int) - (c : Int)) = (x : Int) := by rw [IntKind.wrap_u64]; omega
      have c2 : IntKind.u64.wrap ((x : Int) - (b : Int)) = (z : Int) := by rw [IntKind.wrap_u64]; omega
      have hyk2 : (wr.setCell ⟨w.heap.size, k, none⟩ (.int .u64 (z : Nat))).cell? ⟨by_, k, none⟩ = some (.int .u64 (b : Int)) := by
        rw [← hyk]
        have hne := HBY.out
        simp only [World.cell?, World.setCell, Array.getElem?_modify]
        rw [if_neg (by omega)]
      have HA := Lib.hid ha
      have HB := Lib.hid hb
      have HX1 := Lib.hid hxx
      have HZ := Lib.hid hz
      clear ha hb hxx hz hbb hcc
      have HS : Hid (∀ c', c' = (if a < c ∨ x < b then 1 else 0) → Hid (Keeps w (wr.setCell ⟨w.heap.size, k, none⟩ (.int .u64 (z : Nat))) ∧ (wr.setCell ⟨w.heap.size, k, none⟩ (.int .u64 (z : Nat))).heap[w.heap.size]? = some (.cells (rowOf false (os.set k z)) 22 (0, 0)) ∧ LessK xs ys (os.set k z) len (k + 1) c')) :=
        Lib.hid fun c' hc' => by
          have h1 := own_set (q := k) (z := z) ht.out.1 (Nat.le_refl _) ht.out.2.1
          exact Lib.hid ⟨h1.1, h1.2, ht.out.2.2.step hlt HLX.out HLY.out HWX.out HWY.out HA.out HB.out HX1.out HZ.out hc'⟩
      go_wp2
      all_goals
        go_roundw
        case rel =>
          first
            | exact ⟨k + 1, 0, _, by omega, by go_num, rfl, HS.out 0 (by rw [if_neg (by omega)])⟩
            | exact ⟨k + 1, 1, _, by omega, by go_num, rfl, HS.out 1 (by rw [if_pos (by omega)])⟩
        case measure => simp [intOf]; omega
    · go_wp2
      go_ret2
      have h0 := ht.out
      have hkl : k = len := by omega
      subst hkl
      refine ⟨os, ((c : Int) == 1), rfl, h0.1, h0.2.1, h0.2.2.size, h0.2.2.words, ?_⟩
      have h1 := h0.2.2.done HLX.out HLY.out
      have h2 := h0.2.2.one
      have h3 : (if ((c : Int) == 1) = true then 1 else 0) = c := by
        rcases (show c = 0 ∨ c = 1 by omega) with rfl | rfl <;> rfl
      dsimp only
      rw [h3]; exact h1

end Go.Fiat
