/-
  fmt.Sprint OF A STRING AND AN int, ITS TEXT TOLD: the string, then the number's decimal numeral, nothing between.
-/
import Derived.Test.Qxb6608559aFmtItoa
import Derived.Stop.CallBack
import Derived.Stop.IfaceNil
import Derived.Stop.JoinedTold
import Derived.Stop.FmtTextKit
import Derived.Stop.FmtTextVerbs
import Derived.Stop.Texts
import Derived.Deep.OwnRows
namespace Go.Proofs.Qxb6608559aFmt
open Go.RowKit Go.Kit Go.Extern.Stop Go.Stop Go.Extern

def shape3 : List UInt8 := [5, 3, 0, 0, 0, 0, 0, 0, 0, 105, 110, 116]
def shape9 : List UInt8 := [12, 6, 0, 0, 0, 0, 0, 0, 0, 115, 116, 114, 105, 110, 103]

theorem call8 (args : Array Value) (w : World) : (callFunc 8 args).run Tryf.prog w = ((FmtStop.sprint "fmt.Sprint" #[45] #[9] args).run Tryf.prog w).andThen fun v w' => .ok (.value v) w' :=
  run_callFunc_extern Tryf.func8 (by kernel_rfl) (by kernel_rfl) (by kernel_rfl) (by kernel_rfl) args w
theorem guard_ok (w : World) : (FmtStop.guard "fmt.Sprint").run Tryf.prog w = .ok () w := by kernel_rfl
theorem op3 (x : Int) (w : World) : (FmtStop.operand "fmt.Sprint" false 118 false (.iface 3 (.int .i64 x))).run Tryf.prog w = .ok (shape3, digits 8 (x % 2 ^ 64).toNat) w := by kernel_rfl
theorem op9 (x : ByteArray) (w : World) : (FmtStop.operand "fmt.Sprint" false 118 false (.iface 9 (.string x))).run Tryf.prog w = .ok (shape9, FmtStop.pack x.data.toList) w := by kernel_rfl

def reading (s : List UInt8) (n : Int) : List (List UInt8) := [shape9, FmtStop.pack s, shape3, digits 8 (n % 18446744073709551616).toNat]

theorem sprint_text (s : List UInt8) (n : Int) (hs : s.length < 2 ^ 64) (hw : (Lit.int .i64 n).wf = true) : FmtText.text "fmt.Sprint" (reading s n) = some (s ++ Lib.itoa n) := by
  have hi := FmtText.operand_int_at (sh := shape3) (k := .i64) rfl rfl n hw
  have hn := FmtText.operand_str_at (sh := shape9) rfl rfl s hs
  rw [reading, FmtText.text_sprint (FmtText.operands_cons hn (FmtText.operands_cons hi FmtText.operands_nil))]
  simp [FmtText.doPrint, FmtText.printArg_v_str, FmtText.printArg_v _ _ hw, FmtText.isString]

theorem sprint_run (F : Interp) (s : ByteArray) (n : Int) (b : Nat) (w : World) (hF : F.answers w.tape)
    (h0 : w.cell? ⟨b, 0, none⟩ = some (.iface 9 (.string s))) (h1 : w.cell? ⟨b, 1, none⟩ = some (.iface 3 (.int .i64 n))) :
    (callFunc 8 #[.slice (some ⟨b, 0, none⟩) 2 2]).run Tryf.prog w = .ok (.value (.string (FmtStop.textOf (F "fmt.Sprint" (reading s.data.toList n) 0)))) w.drew := by
  have hF' := answers_open hF
  rw [call8]
  have e1 : FmtStop.sprint "fmt.Sprint" #[45] #[9] #[.slice (some ⟨b, 0, none⟩) 2 2] = (do
    FmtStop.guard "fmt.Sprint"
    FmtStop.text "fmt.Sprint" [] (← (← FmtStop.cells (.slice (some ⟨b, 0, none⟩) 2 2)).mapM (FmtStop.operand "fmt.Sprint" false 118 false))) := rfl
  have hl : (loadCells ⟨b, 0, none⟩ 2).run Tryf.prog w = .ok #[.iface 9 (.string s), .iface 3 (.int .i64 n)] w :=
    run_loadCells_list (P := Tryf.prog) w ⟨b, 0, none⟩ [.iface 9 (.string s), .iface 3 (.int .i64 n)] (fun j v hv => by
      have hadd : (⟨b, 0, none⟩ : Addr).add j = ⟨b, j, none⟩ := by unfold Addr.add; split <;> simp_all
      rw [hadd]
      match j, hv with
      | 0, hv => simp at hv; subst hv; exact h0
      | 1, hv => simp at hv; subst hv; exact h1)
  rw [e1]
  simp only [Sem.run_bind, guard_ok, Result.andThen_ok, FmtStop.cells, hl, Sem.run_pure]
  simp [op3, op9, FmtStop.text, go_sem, hF', reading]

/-- The text s, then k's numeral. -/
def nm (s : ByteArray) (k : Nat) : ByteArray := ⟨(s.data.toList ++ Lib.decDigits k).toArray⟩

theorem itoa_nat (k : Nat) : Lib.itoa (k : Int) = Lib.decDigits k := by
  unfold Lib.itoa; rw [if_neg (by omega)]; simp

theorem sprint_told (F : Interp) (s : ByteArray) (k : Nat) (b : Nat) (w : World) (hF : F.told.answers w.tape) (hs : s.size ≤ 4096) (hk : k ≤ 65536)
    (h0 : w.cell? ⟨b, 0, none⟩ = some (.iface 9 (.string s))) (h1 : w.cell? ⟨b, 1, none⟩ = some (.iface 3 (.int .i64 k))) :
    (callFunc 8 #[.slice (some ⟨b, 0, none⟩) 2 2]).run Tryf.prog w = .ok (.value (.string (nm s k))) w.drew := by
  rw [sprint_run F.told s k b w hF h0 h1]
  have hw : (Lit.int .i64 (k : Int)).wf = true := by
    have hmin : IntKind.i64.min = -9223372036854775808 := rfl
    have hmax : IntKind.i64.max = 9223372036854775807 := rfl
    simp only [Lit.wf, Bool.and_eq_true, decide_eq_true_eq]; omega
  have hl : s.data.toList.length ≤ 4096 := by simpa using hs
  have h21 := FmtText.itoa_length_le hw
  have ht := told_string F (sprint_text s.data.toList k (by omega) hw) (by simp only [List.length_append]; omega)
  have e : (FmtStop.textOf (F.told "fmt.Sprint" (reading s.data.toList (k : Int)) 0)) = nm s k := by
    have h2 := textOf_list F.told "fmt.Sprint" (reading s.data.toList (k : Int))
    rw [ht, itoa_nat] at h2
    unfold nm
    rw [← h2]
  rw [e]

/-- Block g is a row of just these strings. -/
def RowS (w : World) (g : Nat) (L : List ByteArray) : Prop := w.heap[g]? = some (.cells (L.map Value.string).toArray 9 (0, 0))
theorem RowS.lt {w : World} {g : Nat} {L : List ByteArray} (h : RowS w g L) : g < w.heap.size := lt_of_block h
theorem RowS.cell {w : World} {g : Nat} {L : List ByteArray} (h : RowS w g L) {i : Nat} (hi : i < L.length) : w.cell? ⟨g, i, none⟩ = some (.string (L.getD i ByteArray.empty)) := by
  rw [cell_of_row w g i _ 9 (0, 0) h]; simp [hi]
theorem RowS.free {w : World} {g : Nat} {L : List ByteArray} (h : RowS w g L) (i : Nat) : w.frozen? ⟨g, i, none⟩ = false := by
  simp [World.frozen?, show w.heap[g]? = _ from h]
theorem RowS.store {w : World} {g : Nat} {L : List ByteArray} (h : RowS w g L) (j : Nat) (v : ByteArray) : RowS (w.setCell ⟨g, j, none⟩ (.string v)) g (L.set j v) := by
  have hh : w.heap[g]? = _ := h
  show (w.setCell _ _).heap[g]? = _
  simp only [World.setCell, Array.getElem?_modify, hh]
  simp
theorem RowS.kept {w w' : World} {g : Nat} {L : List ByteArray} (h : RowS w g L) (hb : Below w.heap.size w w') : RowS w' g L := (hb.block g h.lt).trans h
theorem made_strings (w : World) (n : Nat) : RowS (w.alloc (.cells (madeCells #[.string ⟨#[]⟩] n) 9)) w.heap.size (List.replicate n ByteArray.empty) := by
  show (w.alloc _).heap[w.heap.size]? = _
  rw [heap_alloc_new]
  have : madeCells #[Value.string ⟨#[]⟩] n = ((List.replicate n ByteArray.empty).map Value.string).toArray := by
    apply Array.toList_inj.1
    rw [toList_madeCells_one]; simp; exact .inr rfl
  rw [this]

/-- The row of names, while it is filled. -/
structure Named (w wr : World) (s : ByteArray) (n k : Nat) (A : List ByteArray) : Prop where
  row : RowS wr w.heap.size A
  len : A.length = n
  done : ∀ j, j < k → A.getD j ByteArray.empty = nm s j
  bel : Below w.heap.size w wr

theorem Named.step {w wr : World} {s : ByteArray} {n k : Nat} {A : List ByteArray} (h : Named w wr s n k A) (hk : k < n) (o : Obj) :
    Named w (((wr.setCell ⟨w.heap.size, k, none⟩ (.string (nm s k))).alloc o).drew) s n (k + 1) (A.set k (nm s k)) where
  row := ((h.row.store k _).kept (((Below.refl _ _).alloc (Nat.le_refl _) o).drew))
  len := by simp [h.len]
  done := fun j hj => by
    by_cases e : j = k
    · subst e; have := h.len; simp [this, hk]
    · have := h.done j (by omega)
      simp [List.getElem?_set_ne (Ne.symm e)] at this ⊢
      exact this
  bel := ((h.bel.setCell (Nat.le_refl _) _).alloc (by have := h.bel.size; simp; omega) _).drew

theorem Named.whole {w wr : World} {s : ByteArray} {n : Nat} {A : List ByteArray} (h : Named w wr s n n A) : A = (List.range n).map (nm s) := by
  apply List.ext_getElem?
  intro j
  by_cases hj : j < n
  · have h1 := h.done j hj
    have h2 : j < A.length := by rw [h.len]; exact hj
    rw [List.getD_eq_getElem?_getD, List.getElem?_eq_getElem h2] at h1
    rw [List.getElem?_eq_getElem h2]
    simp at h1
    simp [hj, h1]
  · rw [List.getElem?_eq_none (by rw [h.len]; omega), List.getElem?_eq_none (by simp; omega)]

set_option maxHeartbeats 1000000 in
theorem numbered_any (F : Interp) (s : ByteArray) (n : Nat) (w : World) (hF : F.told.answers w.tape) (hs : s.size ≤ 4096) (hn : n ≤ 65536) :
    Calls Tryf.prog 7 #[.string s, .int .i64 n] w fun e w' => e = .returned (.slice (some ⟨w.heap.size, 0, none⟩) n n) ∧ RowS w' w.heap.size ((List.range n).map (nm s)) ∧ Below w.heap.size w w' := by
  have hmk := fun w => run_make_row' (P := Tryf.prog) 23 9 (.string ⟨#[]⟩) 16 Tryf.underlying23 (by kernel_rfl) rfl .i64 .i64 n (by omega) (by omega) w
  have HF := hide hF
  clear hF
  have I0 : Named w (w.alloc (.cells (madeCells #[.string ⟨#[]⟩] n) 9)) s n 0 (List.replicate n ByteArray.empty) :=
    ⟨made_strings w n, by simp, fun j hj => by omega, (Below.refl _ _).alloc (Nat.le_refl _) _⟩
  have HI := hide I0
  clear I0
  go_enter Tryf.func7, Tryf.ntmps7
  go_wp2_with fail
  clear hmk
  generalize w.alloc (.cells (madeCells #[.string ⟨#[]⟩] n) 9) = w1 at *
  go_loopw [11, 6] (fun t _ wr => ∃ (k : Nat) (A : List ByteArray), k ≤ n ∧ t = .int .i64 k ∧ Named w wr s n k A) (fun t _ _ => n - (intOf t).toNat)
  case atStart => exact ⟨0, _, Nat.zero_le _, rfl, unhide HI⟩
  case round =>
    obtain ⟨k, A, hk, rfl, I⟩ := hrel
    clear HI
    by_cases hlt : k < n
    · have i1 : (0 : Int) ≤ (k : Int) := by omega
      have i2 : (k : Int) < (n : Int) := by omega
      have hNr : w.heap.size < wr.heap.size := I.row.lt
      have hc := I.row.cell (i := k) (by rw [I.len]; exact hlt)
      have hf := I.row.free k
      have hsp := sprint_told F s k wr.heap.size (wr.alloc (.cells #[.iface 9 (.string s), .iface 3 (.int .i64 k)] 20)) (by rw [World.tape_alloc, I.bel.tape]; exact unhide HF) hs (by omega)
        (by rw [World.cell?_alloc_at _ _ _ _ rfl]; rfl) (by rw [World.cell?_alloc_at _ _ _ _ rfl]; rfl)
      have J := hide (I.step hlt (.cells #[.iface 9 (.string s), .iface 3 (.int .i64 k)] 20))
      clear I
      generalize nm s k = T at *
      go_wp2
      go_roundw
      case rel => exact ⟨k + 1, _, by omega, by go_num, unhide J⟩
      case measure => simp [intOf]; omega
    · have hkn : k = n := by omega
      subst hkn
      have hr := I.row
      rw [I.whole] at hr
      have HR := hide hr
      have HB := hide I.bel
      clear I hr
      go_wp2
      go_ret
      exact ⟨rfl, unhide HR, unhide HB⟩

set_option maxHeartbeats 400000 in
theorem zzNumbered_any (F : Interp) (s : ByteArray) (n : Nat) (w : World) (hF : F.told.answers w.tape) (hs : s.size ≤ 4096) (hn : n ≤ 65536) :
    Calls Tryf.prog 5 #[.string s, .int .i64 n] w fun e w' => e = .returned (.slice (some ⟨w.heap.size, 0, none⟩) n n) ∧ RowS w' w.heap.size ((List.range n).map (nm s)) ∧ Below w.heap.size w w' := by
  go_enter Tryf.func5, Tryf.ntmps5
  go_wp2_with (go_at_call 7; refine (numbered_any F s n _ hF hs hn).mono ?_; rintro e w' ⟨rfl, hr, hb⟩)
  go_ret
  exact ⟨rfl, hr, hb⟩

end Go.Proofs.Qxb6608559aFmt
