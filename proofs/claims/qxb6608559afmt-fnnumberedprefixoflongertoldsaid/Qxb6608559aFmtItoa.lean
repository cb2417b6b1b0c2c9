/-
  THE WALK of zzItoa: at a number that is not negative it writes just the decimal digits.
-/
import Derived.Test.Qxb6608559aFmtRows
import Derived.WalkKit
import Derived.WalkSpells
import Derived.WalkLawsBesides
import Derived.Laws.BytesString
import Derived.Lib.ItoaNum
namespace Go.Proofs.Qxb6608559aFmt
open Go.RowKit

theorem hide {p : Prop} (h : p) : Hid p := h
theorem unhide {p : Prop} (h : Hid p) : p := h

/-- The digits of a number, none at 0. -/
def decN (q : Nat) : List UInt8 := if q = 0 then [] else Lib.decDigits q

theorem decN_step {q : Nat} (h : 0 < q) : decN q = decN (q / 10) ++ [UInt8.ofNat (48 + q % 10)] := by
  unfold decN
  rw [if_neg (by omega), Lib.decDigits]
  by_cases h1 : q < 10
  · rw [dif_pos h1, if_pos (by omega)]
    have : q % 10 = q := by omega
    rw [this]; rfl
  · rw [dif_neg h1, if_neg (by omega)]

/-- A block of 24 bytes. -/
def Buf (w : World) (g : Nat) (L : List Int) : Prop := w.heap[g]? = some (.cells (L.map (Value.int .u8)).toArray 26 (0, 0))
def bytesOf (L : List Int) : List UInt8 := L.map fun n => UInt8.ofNat n.toNat

theorem Buf.cell {w : World} {g : Nat} {L : List Int} (h : Buf w g L) {i : Nat} (hi : i < L.length) : w.cell? ⟨g, i, none⟩ = some (.int .u8 (L.getD i 0)) := by
  rw [cell_of_row w g i _ 26 (0, 0) h]; simp [hi]
theorem Buf.free {w : World} {g : Nat} {L : List Int} (h : Buf w g L) (i : Nat) : w.frozen? ⟨g, i, none⟩ = false := by
  simp [World.frozen?, show w.heap[g]? = _ from h]
theorem Buf.store {w : World} {g : Nat} {L : List Int} (h : Buf w g L) (j : Nat) (v : Int) : Buf (w.setCell ⟨g, j, none⟩ (.int .u8 v)) g (L.set j v) := by
  have hh : w.heap[g]? = _ := h
  show (w.setCell _ _).heap[g]? = _
  simp only [World.setCell, Array.getElem?_modify, hh]
  simp

theorem drop_set (L : List Int) (k : Nat) (v : Int) (h : k < L.length) : (L.set k v).drop k = v :: L.drop (k + 1) := by
  rw [List.drop_set, if_neg (by omega), Nat.sub_self, List.drop_eq_getElem_cons h]
  rfl

/-- What the loop keeps: what is left to write, then what has been written, are the digits of v. -/
structure Wrote (w wr : World) (v q k : Nat) (L : List Int) : Prop where
  buf : Buf wr w.heap.size L
  len : L.length = 24
  le : k ≤ 24
  small : q < 10 ^ k
  text : decN q ++ bytesOf (L.drop k) = Lib.decDigits v
  bel : Below w.heap.size w wr

theorem Wrote.step {w wr : World} {v q k : Nat} {L : List Int} (h : Wrote w wr v q (k + 1) L) (hq : 0 < q) :
    Wrote w (wr.setCell ⟨w.heap.size, k, none⟩ (.int .u8 (48 + (q % 10 : Nat)))) v (q / 10) k (L.set k (48 + (q % 10 : Nat))) where
  buf := h.buf.store k _
  len := by simp [h.len]
  le := by have := h.le; omega
  small := by
    have := h.small
    rw [Nat.pow_succ] at this
    exact Nat.div_lt_of_lt_mul (by omega)
  text := by
    have hl := h.len
    have hk := h.le
    rw [drop_set _ _ _ (by omega), ← h.text, decN_step hq]
    simp only [bytesOf, List.map_cons, List.append_assoc, List.singleton_append]
    have : ((48 : Int) + ((q % 10 : Nat) : Int)).toNat = 48 + q % 10 := by omega
    rw [this]
  bel := h.bel.setCell (Nat.le_refl _) _

theorem foldl_push (L : List Int) : ∀ s : ByteArray, L.foldl (fun r n => r.push (UInt8.ofNat n.toNat)) s = ⟨(s.data.toList ++ bytesOf L).toArray⟩ := by
  induction L with
  | nil => intro s; simp [bytesOf]
  | cons n L ih =>
    intro s
    rw [List.foldl_cons, ih]
    simp [bytesOf, ByteArray.push]

theorem to_string (w : World) (g k n : Nat) (L : List Int) (h : Buf w g L) (hn : k + n = L.length) :
    (convert 27 9 (.slice (some ⟨g, k, none⟩) n n)).run Tryf.prog w = .ok (.string ⟨(bytesOf (L.drop k)).toArray⟩) w := by
  rw [run_convert_bytes_string (P := Tryf.prog) w 27 9 5 _ _ _ Tryf.underlying27 Tryf.underlying5 Tryf.underlying9]
  have hl : (loadCells ⟨g, k, none⟩ ((L.drop k).map (Value.int .u8)).length).run Tryf.prog w = .ok ((L.drop k).map (Value.int .u8)).toArray w :=
    run_loadCells_list (P := Tryf.prog) w ⟨g, k, none⟩ ((L.drop k).map (Value.int .u8)) (fun j v hv => by
      have hadd : (⟨g, k, none⟩ : Addr).add j = ⟨g, k + j, none⟩ := by unfold Addr.add; split <;> simp_all
      rw [hadd, cell_of_row w g _ _ 26 (0, 0) h]
      simpa using hv)
  have e : ((L.drop k).map (Value.int .u8)).length = n := by simp; omega
  rw [e] at hl
  rw [run_bytesToString (P := Tryf.prog) w ⟨g, k, none⟩ n n (L.drop k) hl, foldl_push]
  rfl

theorem slice_buf (g k : Nat) (w : World) (hk : k < 24) :
    (Instr.sliceAt 26 (.pointer (some ⟨g, 0, none⟩)) (some (.int .i64 k)) none none).run Tryf.prog w = .ok (.slice (some ⟨g, k, none⟩) (24 - k) (24 - k)) w := by
  have hal : Tryf.prog.arrayLen 26 = 24 := by kernel_rfl
  have hsz : (sizeOf (Tryf.prog.elem 26)).run Tryf.prog w = .ok 1 w := by kernel_rfl
  have h := run_sliceAt_array_l (P := Tryf.prog) (w := w) (t := 26) (a := ⟨g, 0, none⟩) (by kernel_rfl) .i64 (k : Int) (by omega) (by rw [hal]; omega)
  rw [h, hal, hsz]
  simp only [Result.andThen_ok, slicedAt, Int.toNat_natCast]
  rw [if_neg (by omega)]
  have hadd : (⟨g, 0, none⟩ : Addr).add (k * 1) = ⟨g, k, none⟩ := by unfold Addr.add; split <;> simp_all
  rw [hadd]

theorem dec_ne (v : Nat) : Lib.decDigits v ≠ [] := by
  rw [Lib.decDigits]; split <;> simp

set_option maxHeartbeats 1000000 in
theorem itoa_pos (v : Nat) (w : World) (hv : v ≤ 65536) (hv0 : 0 < v) :
    Calls Tryf.prog 6 #[.int .i64 v] w fun e w' => e = .returned (.string ⟨(Lib.decDigits v).toArray⟩) ∧ Below w.heap.size w w' := by
  have hq : ((v : Int) == 0) = false := by rw [beq_eq_false_iff_ne]; omega
  have I0 : Wrote w (w.alloc (.cells ((List.replicate 24 (0 : Int)).map (Value.int .u8)).toArray 26)) v v 24 (List.replicate 24 0) := by
    refine ⟨heap_alloc_new w _, by simp, Nat.le_refl _, Nat.lt_of_le_of_lt hv (by decide +kernel), ?_, (Below.refl _ _).alloc (Nat.le_refl _) _⟩
    have : decN v = Lib.decDigits v := by unfold decN; rw [if_neg (by omega)]
    rw [this]; simp [bytesOf]
  have HI := hide I0
  clear I0
  go_enter Tryf.func6, Tryf.ntmps6
  go_wp2_with fail
  go_loopw [0, 4] (fun s t wr => ∃ (q k : Nat) (L : List Int), s = .int .i64 q ∧ t = .int .i64 k ∧ q ≤ v ∧ Wrote w wr v q k L) (fun s _ _ => (intOf s).toNat)
  case atStart => exact ⟨v, 24, _, rfl, rfl, Nat.le_refl _, unhide HI⟩
  case round =>
    obtain ⟨q, k, L, rfl, rfl, hqv, I⟩ := hrel
    clear HI
    by_cases h0 : 0 < q
    · cases k with
      | zero => have := I.small; simp at this; omega
      | succ k =>
        have e0 : ((k + 1 : Nat) : Int) = (k : Int) + 1 := by omega
        have hk := I.le
        have hc := I.buf.cell (i := k) (by rw [I.len]; omega)
        have hf := I.buf.free k
        have J := hide (I.step h0)
        have i1 : (0 : Int) < (q : Int) := by omega
        have i2 : (k : Int) < 24 := by omega
        clear I
        rw [e0]
        go_wp2
        go_roundw
        case rel =>
          refine ⟨q / 10, k, L.set k (48 + ((q % 10 : Nat) : Int)), by go_num, rfl, by omega, ?_⟩
          have e : ((48 : Int) + (q : Int) % 10) = 48 + ((q % 10 : Nat) : Int) := by omega
          rw [e]
          exact unhide J
        case measure => simp [intOf]; omega
    · have hq0 : q = 0 := by omega
      subst hq0
      have htx := I.text
      have hlen := I.len
      have hk24 : k < 24 := by
        have h1 := I.le
        by_cases e : k = 24
        · subst e
          rw [List.drop_of_length_le (by omega)] at htx
          exact absurd (by rw [← htx]; simp [decN, bytesOf]) (dec_ne v)
        · omega
      have hsl := slice_buf w.heap.size k wr hk24
      have hcv := to_string wr w.heap.size k (24 - k) L I.buf (by omega)
      have et : bytesOf (L.drop k) = Lib.decDigits v := by rw [← htx]; simp [decN]
      rw [et] at hcv
      have hb := hide I.bel
      clear I htx hlen et
      go_wp2
      go_ret
      exact ⟨rfl, unhide hb⟩

set_option maxHeartbeats 400000 in
theorem itoa_any (v : Nat) (w : World) (hv : v ≤ 65536) :
    Calls Tryf.prog 6 #[.int .i64 v] w fun e w' => e = .returned (.string ⟨(Lib.decDigits v).toArray⟩) ∧ Below w.heap.size w w' := by
  by_cases h : 0 < v
  · exact itoa_pos v w hv h
  · obtain rfl : v = 0 := by omega
    have e : Lib.decDigits 0 = [48] := by rw [Lib.decDigits]; rfl
    rw [e]
    go_enter Tryf.func6, Tryf.ntmps6
    go_wp2
    go_ret
    exact ⟨rfl, Below.refl _ _⟩

end Go.Proofs.Qxb6608559aFmt
