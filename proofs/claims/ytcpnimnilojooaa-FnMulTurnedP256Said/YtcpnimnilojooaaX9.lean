/- What the law's table asks of the functions that are not entered. -/
import Derived.Test.YtcpnimnilojooaaX8
import Derived.Test.YtcpnimnilojooaaX5
namespace Go.Fiat
open Go Go.Proofs Go.RowKit

theorem gives_alloc {w : World} {ty : Nat} {xs : List Nat} {c : Array Value} {v : Value} (hc : c = rowOf false xs) (hv : v = sl w.heap.size xs.length) : Gives w ty xs (.returned v) (w.alloc (.cells c ty (0, 0))) := by
  subst hc; subst hv
  exact ⟨w.heap.size, rfl, Nat.le_refl _, by show (w.heap.push _)[w.heap.size]? = _; simp, Keeps.alloc _ _ _⟩

theorem less_orc : OrcOk Try.prog 9 .less := fun xs ys bx by_ w h1 h2 h3 h4 ⟨tx, h5⟩ ⟨ty, h6⟩ => (less_any xs ys bx by_ tx ty _ w rfl h1.symm h2 h3 h4 h5 h6).mono fun _ _ ⟨he, _, hn⟩ => ⟨he, quiet_keeps hn⟩
theorem same_orc : OrcOk Try.prog 12 .same := fun xs ys bx by_ w h1 h2 _ _ ⟨tx, h5⟩ ⟨ty, h6⟩ => (same_any xs ys bx by_ tx ty _ w rfl h1.symm h2 h5 h6).mono fun _ _ ⟨he, _, hn⟩ => ⟨he, quiet_keeps hn⟩

theorem modw_any (w : World) : Calls Try.prog 10 #[] w (Gives w 22 mm) := by
  go_enter Try.func10, Try.ntmps10
  go_wp2
  go_ret
  exact gives_alloc rfl rfl

theorem gr_gives {w w' : World} {n v : Nat} {e : Ending} (h : GR w n v e w') : Gives w 22 (toW n v) e w' := by
  obtain ⟨b, os, he, hh⟩ := h
  obtain ⟨h1, h2, h3, h4⟩ := hh.out
  have e1 := toW_of h2.size h2.words h3
  exact ⟨b, by rw [he, toW_length], h4, by rw [← e1]; exact h2.held, h1⟩

theorem R1_is : R1 = 18446744073709551616 ^ 4 % pp := by kernel_rfl
theorem shifted_orc : OrcOk Try.prog 13 (.slis (.lin pp R1) pp 1 4 22) := by
  intro vs ms bm w h1 h2 h3 h4 h5 ⟨tm, h6⟩
  match vs, h1 with
  | [(xs, b)], _ =>
    obtain ⟨a1, a2, a3, tx, a4⟩ := h2 (xs, b) List.mem_cons_self
    refine (shifted_any (tx := tx) (tm := tm) ⟨a1, a2, a4⟩ ⟨h3, h4, h6⟩ (by decide) (by decide) (by rw [h5]; exact a3)).mono fun e w' hg => ?_
    have hv : Kind.val (.lin pp R1) ([(xs, b)].map fun v => wval v.1) = wval xs * 18446744073709551616 ^ 4 % wval ms := by
      show wval xs * R1 % pp = _
      rw [h5, R1_is, Nat.mul_mod, Nat.mod_mod, ← Nat.mul_mod]
    rw [hv]
    exact gr_gives hg

theorem mulw_orc : OrcOk Try.prog 14 (.slis (.mulm pp 1) pp 2 4 22) := by
  intro vs ms bm w h1 h2 h3 h4 h5 ⟨tm, h6⟩
  match vs, h1 with
  | [(xs, b), (ys, b2)], _ =>
    obtain ⟨a1, a2, a3, tx, a4⟩ := h2 (xs, b) List.mem_cons_self
    obtain ⟨c1, c2, c3, ty, c4⟩ := h2 (ys, b2) (List.mem_cons_of_mem _ List.mem_cons_self)
    refine (mul_any (tx := tx) (ty := ty) (tm := tm) ⟨a1, a2, a4⟩ ⟨c1, c2, c4⟩ ⟨h3, h4, h6⟩ (by decide) (by rw [h5]; exact a3)).mono fun e w' hg => ?_
    have hv : Kind.val (.mulm pp 1) ([(xs, b), (ys, b2)].map fun v => wval v.1) = wval xs * wval ys % wval ms := by
      show wval xs * wval ys * 1 % pp = _
      rw [h5, Nat.mul_one]
    rw [hv]
    exact gr_gives hg

theorem one_orc : OrcOk Try.prog 17 (.one 22) := by
  intro n w h0 hn
  have hmk := make_words n hn w
  have hcell : (w.alloc (.cells (rowOf false (List.replicate n 0)) 22 (0, 0))).cell? ⟨w.heap.size, 0, none⟩ = some (.int .u64 ((gx (List.replicate n 0) 0 : Nat) : Int)) := cell_word (heap_new _ _) (by simpa using h0)
  have hfz : (w.alloc (.cells (rowOf false (List.replicate n 0)) 22 (0, 0))).frozen? ⟨w.heap.size, 0, none⟩ = false := by
    simp only [World.frozen?, heap_new]; rfl
  generalize hw1 : w.alloc (.cells (rowOf false (List.replicate n 0)) 22 (0, 0)) = w1 at *
  have HW := Lib.hid hw1
  clear hw1
  go_enter Try.func17, Try.ntmps17
  go_wp2
  go_ret
  have h := own_set (q := 0) (z := 1) (Keeps.alloc w (rowOf false (List.replicate n 0)) 22) (Nat.le_refl _) (heap_new w (.cells (rowOf false (List.replicate n 0)) 22 (0, 0)))
  rw [HW.out] at h
  have e : (List.replicate n 0).set 0 1 = 1 :: List.replicate (n - 1) 0 := by
    cases n with
    | zero => omega
    | succ n => simp [List.replicate_succ]
  rw [e] at h
  have hlen : (1 :: List.replicate (n - 1) 0).length = n := by simp; omega
  exact ⟨w.heap.size, ret_val (by rw [hlen]; rfl), Nat.le_refl _, h.2, h.1⟩

noncomputable def T1 : Tab := { arr := [(23, 4, true), (36, 4, true), (43, 4, true)], word := [22, 50], byte := [5], mul := 0, addF := 0, subF := 0, cmov := 0, funs := [(16, Try.f16), (24, Try.f24), (32, Try.f32)], orcs := [(11, .aggs (.sqr pp II) pp 4 false 1 4), (15, .aggs (.mulm pp II) pp 4 false 2 4), (18, .aggs (.addm pp) pp 4 false 2 4), (19, .aggs (.lin pp R1) pp 4 false 1 4), (20, .aggs (.lin pp II) pp 4 false 1 4), (9, .less), (12, .same), (10, .consts mm 22), (13, .slis (.lin pp R1) pp 1 4 22), (14, .slis (.mulm pp 1) pp 2 4 22), (17, .one 22)] }
theorem tab1 : TabOk Try.prog T1 :=
  ⟨arrs, wordsT, bytesT, fun f h => absurd h (Nat.succ_ne_zero f), fun f h => absurd h (Nat.succ_ne_zero f), fun f h => absurd h (Nat.succ_ne_zero f), fun f h => absurd h (Nat.succ_ne_zero f), funs1⟩
theorem orcs1 : OrcsOk Try.prog T1 := by
  intro f orc h
  rcases List.mem_cons.1 h with h | h
  · cases h; exact ⟨⟨Try.f11, _, Try.func11, by kernel_rfl, rfl⟩, .inl rfl, orc_sqr⟩
  rcases List.mem_cons.1 h with h | h
  · cases h; exact ⟨⟨Try.f15, _, Try.func15, by kernel_rfl, rfl⟩, .inl rfl, orc_mul⟩
  rcases List.mem_cons.1 h with h | h
  · cases h; exact ⟨⟨Try.f18, _, Try.func18, by kernel_rfl, rfl⟩, .inl rfl, orc_add⟩
  rcases List.mem_cons.1 h with h | h
  · cases h; exact ⟨⟨Try.f19, _, Try.func19, by kernel_rfl, rfl⟩, .inl rfl, orc_to⟩
  rcases List.mem_cons.1 h with h | h
  · cases h; exact ⟨⟨Try.f20, _, Try.func20, by kernel_rfl, rfl⟩, .inl rfl, orc_from⟩
  rcases List.mem_cons.1 h with h | h
  · cases h; exact ⟨⟨Try.f9, _, Try.func9, by kernel_rfl, rfl⟩, trivial, less_orc⟩
  rcases List.mem_cons.1 h with h | h
  · cases h; exact ⟨⟨Try.f12, _, Try.func12, by kernel_rfl, rfl⟩, trivial, same_orc⟩
  rcases List.mem_cons.1 h with h | h
  · cases h; exact ⟨⟨Try.f10, _, Try.func10, by kernel_rfl, rfl⟩, trivial, by decide, modw_any⟩
  rcases List.mem_cons.1 h with h | h
  · cases h; exact ⟨⟨Try.f13, _, Try.func13, by kernel_rfl, rfl⟩, trivial, shifted_orc⟩
  rcases List.mem_cons.1 h with h | h
  · cases h; exact ⟨⟨Try.f14, _, Try.func14, by kernel_rfl, rfl⟩, trivial, mulw_orc⟩
  rcases List.mem_cons.1 h with h | h
  · cases h; exact ⟨⟨Try.f17, _, Try.func17, by kernel_rfl, rfl⟩, trivial, one_orc⟩
  cases h

end Go.Fiat
