/-
  THE WALKS of Len and AddComment: one comment mark more, at the count of instructions.
-/
import Derived.Test.Qxb6608559aGreatCopy
namespace Go.Proofs.Qxb6608559aGreat
open Go.RowKit

set_option maxHeartbeats 400000 in
theorem len_any (F : Nat) (i : Int) (w : World) (h : w.cell? ⟨F, 16, none⟩ = some (.int .i64 i)) :
    Calls Tryz.prog 12 #[.pointer (some ⟨F, 0, none⟩)] w fun e w' => e = .returned (.int .i64 i) ∧ w' = w := by
  go_enter Tryz.func12, Tryz.ntmps12
  go_wp2
  go_ret
  exact ⟨rfl, rfl⟩

theorem MarksOf.longer {ms : List (Int × Value)} {xs : List Int} {bs : List Bool} {k : Nat} (h : MarksOf ms xs bs k) (hx : xs.length = k) (hb : bs.length = k) (x : Int) (b : Bool) : MarksOf ms (xs ++ [x]) (bs ++ [b]) k := by
  refine ⟨h.1, fun j hj => ?_⟩
  obtain ⟨p, hp⟩ := h.2 j hj
  refine ⟨p, ?_⟩
  rw [hp]
  have e1 : (xs ++ [x]).getD j 0 = xs.getD j 0 := by
    rw [List.getD_eq_getElem?_getD, List.getElem?_append_left (by omega), ← List.getD_eq_getElem?_getD]
  have e2 : (bs ++ [b]).getD j false = bs.getD j false := by
    rw [List.getD_eq_getElem?_getD, List.getElem?_append_left (by omega), ← List.getD_eq_getElem?_getD]
  rw [e1, e2]

theorem getD_last {α : Type} (xs : List α) (x d : α) {k : Nat} (h : xs.length = k) : (xs ++ [x]).getD k d = x := by
  subst h; simp

set_option maxRecDepth 100000 in
set_option maxHeartbeats 2000000 in
theorem comment_any (w0 : World) (F : Nat) (i : Int) (a : Option Addr) (n c : Nat) (xs : List Int) (bs : List Bool) (k : Nat) (w : World) (I : FnAt w0 w F i xs bs k) (hx : xs.length = k) (hb : bs.length = k) (hk : k ≤ 100000) :
    Calls Tryz.prog 9 #[.pointer (some ⟨F, 0, none⟩), .slice a n c] w fun e w' => e = .returned (.tuple #[]) ∧ FnAt w0 w' F i (xs ++ [i]) (bs ++ [false]) (k + 1) := by
  obtain ⟨i0, hi0, hz0, hz1, hz2⟩ := info_parts info72
  obtain ⟨v, ms, hv, hown, hm⟩ := I.marks
  have hlen := I.len
  have hfree := I.free
  have hsz := I.size
  have hFW : F < w.heap.size := by omega
  have hFW1 : F < w.heap.size + 1 := by omega
  have hne : some F ≠ v.ownBlock := by
    intro h
    have := (hown.lt F h.symm).1
    omega
  have HM := hide (hm.longer hx hb i false)
  have HO := hide hown
  have NE := hide hne
  have HB := hide I.below
  have LO := hide I.lo
  have EX := hide (getD_last xs i 0 hx)
  have EB := hide (getD_last bs false false hb)
  have DB := hide (I.below.alloc (by have := I.lo; omega) (.cells #[.slice a n c] 65))
  have DS := hide (show F + 1 ≤ (w.alloc (.cells #[.slice a n c] 65)).heap.size by simp; omega)
  have DL := hide ((World.cell?_alloc_past (.cells #[.slice a n c] 65) _ _ hFW).trans hlen)
  have DF := hide ((World.frozen?_alloc_past (.cells #[.slice a n c] 65) _ _ hFW).trans hfree)
  have DV := hide ((World.cell?_alloc_past (.cells #[.slice a n c] 65) _ _ hFW).trans hv)
  have DO := hide (hown.alloc (.cells #[.slice a n c] 65))
  clear I hm hown hne hx hb HB
  go_enter Tryz.func9, Tryz.ntmps9
  go_region_law (first | (refine step_append_lies _ (by rfl) _ _ _ (by rfl) (F + 1) 72 i0 _ 2 24 Tryz.underlying54 hi0 hz0 hz1 hz2 rfl (by omega) v k (mcells ms) (by rfl) ((((unhide HO).alloc _).alloc _).drew) ⟨w.heap.size + 1, 0, none⟩ 1 1 [.int .i64 i, Value.iface 63 (.pointer (some ⟨w.heap.size, 0, none⟩))] (by rfl) (by rfl) (World.news_of_block (cs := #[.int .i64 i, Value.iface 63 (.pointer (some ⟨w.heap.size, 0, none⟩))]) (t := 72) (fr := (0, 0)) (heap_alloc2_new w _ _)) (by simp [Value.oneCell']) (by omega) (by unfold maxLen; omega) (by omega) (by simp; omega) (w.heap.size + 1 + 1) (by simp) ?_; intro gg cap w2 hown2 hgrow hat hlt2; have hc2 := (hgrow.cell_far ⟨F, 27, none⟩ (by simp; omega) (unhide NE)).trans ((World.cell?_alloc_past _ _ _ (by simp; omega)).trans ((World.cell?_alloc_past _ _ _ hFW).trans hv)); have hf2 := (hgrow.frozen_far ⟨F, 27, none⟩ (by simp; omega) (unhide NE)).trans ((World.frozen?_alloc_past _ _ _ (by simp; omega)).trans ((World.frozen?_alloc_past _ _ _ hFW).trans hfree))) | (go_simp; go_at_call 12; refine (len_any F i _ ?_).mono ?_; (first | exact hlen | exact (World.cell?_alloc_past _ _ _ hFW).trans hlen); rintro e w' ⟨rfl, rfl⟩))
  all_goals
    have R := fn_step (p := ⟨w.heap.size, 0, none⟩) (b := false) (unhide DB) (unhide LO) (unhide DS) (unhide DL) (unhide DF) (unhide DV) (unhide DO) (unhide HM) (unhide EX) (unhide EB) _ hgrow hown2
    have HR := hide R
    clear R hown2 hgrow
    go_end0
    exact ⟨rfl, unhide HR⟩
end Go.Proofs.Qxb6608559aGreat
