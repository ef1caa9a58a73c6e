/- Reading a board's text: its parts, what they tell, and the contract of fenBoard's first half. -/
import Derived.Test.YtnlicbhelnocpaaDoorClear
import Derived.Test.YtnlicbhelnocpaaDoorDrawW
namespace Go.Proofs.YtnlicbhelnocpaaDoor
open Go.ChangeShapes Go.WideShapes Go.ChangeAt Go.RowKit Go.Maps Go.PlainAid
set_option maxHeartbeats 1000000
set_option linter.unusedVariables false
set_option linter.unusedSimpArgs false

/-- Where the open part begins behind k bytes, and the parts that are closed. -/
def opn (s : ByteArray) : Nat → Nat
  | 0 => 0
  | k + 1 => if bt s k = 47 then k + 1 else opn s k
def cuts (s : ByteArray) : Nat → List ByteArray
  | 0 => []
  | k + 1 => if bt s k = 47 then cuts s k ++ [s.extract (opn s k) k] else cuts s k
theorem opn_le (s : ByteArray) : ∀ k, opn s k ≤ k
  | 0 => Nat.le_refl _
  | k + 1 => by unfold opn; split; exact Nat.le_refl _; have := opn_le s k; omega
theorem cuts_len (s : ByteArray) (k : Nat) : (cuts s (k + 1)).length = (cuts s k).length + if bt s k = 47 then 1 else 0 := by
  conv => lhs; unfold cuts
  split <;> simp
theorem cuts_le (s : ByteArray) : ∀ k, (cuts s k).length ≤ k
  | 0 => Nat.le_refl _
  | k + 1 => by rw [cuts_len]; have := cuts_le s k; split <;> omega
theorem cuts_mono (s : ByteArray) {k : Nat} : ∀ m, k ≤ m → (cuts s k).length ≤ (cuts s m).length
  | 0, hm => by
    obtain rfl : k = 0 := by omega
    exact Nat.le_refl _
  | m + 1, hm => by
    by_cases e : k = m + 1
    · subst e; exact Nat.le_refl _
    · have := cuts_mono s (k := k) m (by omega)
      rw [cuts_len]; omega
def partsB (s : ByteArray) : List ByteArray := cuts s s.size ++ [s.extract (opn s s.size) s.size]
def partAt (s : ByteArray) (i : Nat) : ByteArray := (partsB s).getD i ByteArray.empty
def readOk (s : ByteArray) : Bool := (partsB s).length == 8 && (List.range 8).all fun i => rOk (partAt s i)
def readBd (s : ByteArray) (q : Nat) : Int := rRow (partAt s (7 - q / 8)) (q % 8)
theorem bt_extract (s : ByteArray) (a b j : Nat) (hb : b ≤ s.size) (h : j < b - a) : bt (s.extract a b) j = bt s (a + j) := by
  unfold bt
  rw [dif_pos (by rw [ByteArray.size_extract]; omega), dif_pos (by omega)]
  congr 2
  rw [ByteArray.getElem_extract]
theorem readOk_false_len {s : ByteArray} (h : (partsB s).length ≠ 8) : readOk s = false := by
  unfold readOk
  rw [show ((partsB s).length == 8) = false by simpa using h]; rfl
theorem readOk_false_at {s : ByteArray} {i : Nat} (hi : i < 8) (h : rOk (partAt s i) = false) : readOk s = false := by
  unfold readOk
  cases h2 : (List.range 8).all fun i => rOk (partAt s i)
  · simp
  · have := List.all_eq_true.1 h2 i (List.mem_range.2 hi)
    rw [h] at this; cases this

theorem cuts_sub (s : ByteArray) : ∀ k, ∀ T ∈ cuts s k, ∃ a b, T = s.extract a b ∧ b ≤ k
  | 0, T, h => by cases h
  | k + 1, T, h => by
    unfold cuts at h
    split at h
    · rcases List.mem_append.1 h with h | h
      · obtain ⟨a, b, e, hb⟩ := cuts_sub s k T h
        exact ⟨a, b, e, by omega⟩
      · exact ⟨_, k, by simpa using h, by omega⟩
    · obtain ⟨a, b, e, hb⟩ := cuts_sub s k T h
      exact ⟨a, b, e, by omega⟩
theorem part_facts (s : ByteArray) (h128 : ∀ i, i < s.size → bt s i < 128) (i : Nat) : (partAt s i).size ≤ s.size ∧ ∀ j, j < (partAt s i).size → bt (partAt s i) j < 128 := by
  unfold partAt
  by_cases h : i < (partsB s).length
  · rw [List.getD_eq_getElem?_getD, List.getElem?_eq_getElem h, Option.getD_some]
    have hm := List.getElem_mem h
    have key : ∃ a b, (partsB s)[i] = s.extract a b ∧ b ≤ s.size := by
      rcases List.mem_append.1 hm with hm | hm
      · exact cuts_sub s s.size _ hm
      · exact ⟨_, s.size, by simpa using hm, Nat.le_refl _⟩
    obtain ⟨a, b, e, hb⟩ := key
    rw [e]
    have hz : (s.extract a b).size = b - a := by rw [ByteArray.size_extract]; omega
    exact ⟨by omega, fun j hj => by rw [bt_extract s a b j hb (by omega)]; exact h128 _ (by omega)⟩
  · rw [List.getD_eq_getElem?_getD, List.getElem?_eq_none (by omega)]
    exact ⟨Nat.zero_le _, fun j hj => absurd hj (by simp)⟩

/-- What stands in memory while a board's text is read: the map of squares, the map of files, the texts of ranks. -/
structure FenS (w wr : World) (bufs : Nat → ByteArray) (D Df : DataW Unit) (n nf : Nat) : Prop where
  own : wr.ownsMap Tryd.prog tSq (plainElem Tryd.prog tPc) w.heap.size n D
  ownf : wr.ownsMap Tryd.prog tFile (plainElem Tryd.prog tPc) (w.heap.size + 1) nf Df
  buf : wr.rowIs (w.heap.size + 2) 135 8 (fun j => .string (bufs j))
  below : Below w.heap.size w wr
theorem FenS.turn {w wr w' : World} {bufs : Nat → ByteArray} {D Df : DataW Unit} {n nf : Nat} (h : FenS w wr bufs D Df n nf) {b : Nat} (hg : wr.grownBy w' (some b)) (hb : w.heap.size ≤ b) :
    Below w.heap.size w w' := h.below.grown hg h.below.size (by intro r hr; cases hr; exact hb)
theorem rowIs_grown {w w' : World} {b : Nat} {t : TypeId} {n : Nat} {f : Nat → Value} {row : Option Nat} (h : w.rowIs b t n f) (hg : w.grownBy w' row) (hne : some b ≠ row) : w'.rowIs b t n f := h.of_block (hg.block b h.lt hne)
theorem FenS.onF {w wr w' : World} {bufs : Nat → ByteArray} {D Df Df' : DataW Unit} {n nf nf' : Nat} (h : FenS w wr bufs D Df n nf) (hg : wr.grownBy w' (some (w.heap.size + 1))) (ho : w'.ownsMap Tryd.prog tFile (plainElem Tryd.prog tPc) (w.heap.size + 1) nf' Df') : FenS w w' bufs D Df' n nf' :=
  ⟨h.own.kept hg (by intro e; have := Option.some.inj e; omega), ho, rowIs_grown h.buf hg (by intro e; have := Option.some.inj e; omega), h.turn hg (by omega)⟩
theorem FenS.onM {w wr w' : World} {bufs : Nat → ByteArray} {D Df D' : DataW Unit} {n nf n' : Nat} (h : FenS w wr bufs D Df n nf) (hg : wr.grownBy w' (some w.heap.size)) (ho : w'.ownsMap Tryd.prog tSq (plainElem Tryd.prog tPc) w.heap.size n' D') : FenS w w' bufs D' Df n' nf :=
  ⟨ho, h.ownf.kept hg (by intro e; have := Option.some.inj e; omega), rowIs_grown h.buf hg (by intro e; have := Option.some.inj e; omega), h.turn hg (by omega)⟩
theorem FenS.onB {w wr : World} {bufs : Nat → ByteArray} {D Df : DataW Unit} {n nf : Nat} (h : FenS w wr bufs D Df n nf) (i : Nat) (x : ByteArray) :
    FenS w (wr.setCell ⟨w.heap.size + 2, i, none⟩ (.string x)) (fun j => if j = i then x else bufs j) D Df n nf := by
  have hg : wr.grownBy (wr.setCell ⟨w.heap.size + 2, i, none⟩ (.string x)) (some (w.heap.size + 2)) := grown_setCell (World.grownBy.refl _ _) _ _
  refine ⟨h.own.kept hg (by intro e; have := Option.some.inj e; omega), h.ownf.kept hg (by intro e; have := Option.some.inj e; omega), (h.buf.set i (.string x)).congr fun j _ => ?_, h.turn hg (by omega)⟩
  split <;> rfl
theorem FenS.congr {w wr : World} {bufs bufs' : Nat → ByteArray} {D Df : DataW Unit} {n nf : Nat} (h : FenS w wr bufs D Df n nf) (e : ∀ j, j < 8 → bufs j = bufs' j) : FenS w wr bufs' D Df n nf :=
  ⟨h.own, h.ownf, h.buf.congr fun j hj => by rw [e j hj], h.below⟩

def FenErr (w : World) (e : Ending) (w' : World) : Prop := (∃ g, e = .returned (.tuple #[.pointer none, .iface 111 (.pointer (some ⟨g, 0, none⟩))])) ∧ Below w.heap.size w w'
def FenPost (s : ByteArray) (w : World) (e : Ending) (w' : World) : Prop :=
  (readOk s = true ∧ (∃ g, e = .returned (.tuple #[.pointer (some ⟨g, 0, none⟩), .nilIface]) ∧ w.heap.size ≤ g ∧ w'.rowIs g tBoard 17 (calcRow (bbsOf (readBd s)) 64)) ∧ Below w.heap.size w w') ∨ (readOk s = false ∧ FenErr w e w')
end Go.Proofs.YtnlicbhelnocpaaDoor
