/- Deeds to a book, one behind the other: what they make of it; the thin package's function. -/
import Derived.Test.YtpoomblloahahaaGreatDoorPdC
import Derived.Deep.RegionHeld3
import Derived.Deep.Cut
import Derived.Deep.CutRange
namespace Go.Proofs.YtpoomblloahahaaGreatDoor
open Go.Proofs Go.Shelf Go.Sort Go.Lib Go.ChangeShapes Go.WideShapes Go.ChangeAt Go.RowKit Go.PlainAid
set_option maxHeartbeats 2000000
set_option linter.unusedVariables false
set_option linter.unusedSimpArgs false

/-- A deed: kind, key, from, to, what a pawn becomes, weight. -/
abbrev Dd := Int × Int × Int × Int × Int × Int
abbrev d0 : Dd := (0, 0, 0, 0, 0, 0)
def ddF (d : Dd) : Nat → Value
  | 0 => .int .i64 d.1
  | 1 => .int .u64 d.2.1
  | 2 => .int .i64 d.2.2.1
  | 3 => .int .i64 d.2.2.2.1
  | 4 => .int .i64 d.2.2.2.2.1
  | _ => .int .u16 d.2.2.2.2.2
def DdOk (d : Dd) : Prop := (d.1 = 1 ∨ d.1 = 2 ∨ d.1 = 3) ∧ (0 ≤ d.2.2.1 ∧ d.2.2.1 < 64) ∧ (0 ≤ d.2.2.2.1 ∧ d.2.2.2.1 < 64) ∧ (d.2.2.2.2.1 = 0 ∨ 2 ≤ d.2.2.2.2.1 ∧ d.2.2.2.2.1 ≤ 5)
def codeD (d : Dd) : Int := d.2.2.2.1 + 64 * d.2.2.1 + 4096 * polP d.2.2.2.2.1
def doD (l : List En) (d : Dd) : List En := if d.1 = 1 then l ++ [(d.2.1, codeD d, d.2.2.2.2.2, 0)] else if d.1 = 2 then l.map (updE d.2.1 (codeD d) d.2.2.2.2.2) else offL d.2.1 l
def doneD (l : List En) (d : Dd) : Bool := if d.1 = 2 then l.any (hitE d.2.1 (codeD d)) else true
/-- The book behind the first k deeds. -/
def bkD (A : List En) (ds : List Dd) (k : Nat) : List En := (ds.take k).foldl doD A
def dnD (A : List En) (ds : List Dd) (k : Nat) : List Bool := (List.range k).map fun i => doneD (bkD A ds i) (ds.getD i d0)
theorem bkD_zero (A : List En) (ds : List Dd) : bkD A ds 0 = A := rfl
theorem bkD_succ (A : List En) (ds : List Dd) (k : Nat) (h : k < ds.length) : bkD A ds (k + 1) = doD (bkD A ds k) (ds.getD k d0) := by
  unfold bkD
  rw [List.take_add_one, List.getElem?_eq_getElem h, List.foldl_append, List.getD_eq_getElem?_getD, List.getElem?_eq_getElem h]
  rfl
theorem dnD_succ (A : List En) (ds : List Dd) (k : Nat) : dnD A ds (k + 1) = dnD A ds k ++ [doneD (bkD A ds k) (ds.getD k d0)] := by simp [dnD, List.range_succ]
theorem dnD_len (A : List En) (ds : List Dd) (k : Nat) : (dnD A ds k).length = k := by simp [dnD]
theorem doD_perm {l m : List En} (h : l.Perm m) (d : Dd) : (doD l d).Perm (doD m d) := by
  unfold doD
  split
  · exact h.append_right _
  · split
    · exact h.map _
    · exact h.filter _
theorem any_perm {l m : List En} (h : l.Perm m) (p : En → Bool) : l.any p = m.any p := by
  rw [Bool.eq_iff_iff, List.any_eq_true, List.any_eq_true]
  exact ⟨fun ⟨x, hx, hp⟩ => ⟨x, h.mem_iff.1 hx, hp⟩, fun ⟨x, hx, hp⟩ => ⟨x, h.mem_iff.2 hx, hp⟩⟩
theorem doneD_perm {l m : List En} (h : l.Perm m) (d : Dd) : doneD l d = doneD m d := by
  unfold doneD
  split
  · exact any_perm h _
  · rfl
theorem doD_len (l : List En) (d : Dd) : (doD l d).length ≤ l.length + 1 := by
  unfold doD
  split
  · simp
  · split
    · simp
    · have := offL_le l d.2.1; omega
theorem bkD_len (A : List En) (ds : List Dd) : ∀ k, k ≤ ds.length → (bkD A ds k).length ≤ A.length + k
  | 0, _ => by simp [bkD]
  | k + 1, h => by
      rw [bkD_succ _ _ _ (by omega)]
      have h1 := doD_len (bkD A ds k) (ds.getD k d0)
      have h2 := bkD_len A ds k (by omega)
      omega
/-- A slice of deeds for reading. -/
def DeedsAt (W : World) (v : Value) (ds : List Dd) : Prop :=
  ∃ a c, v = .slice a ds.length c ∧ (0 < ds.length → ∃ g o, a = some ⟨g, o, none⟩ ∧ g < W.heap.size ∧ ∀ i, i < ds.length → ∀ j, j < 6 → W.cell? ⟨g, o + i * 6 + j, none⟩ = some (ddF (ds.getD i d0) j))
theorem DeedsAt.below {W W' : World} {v : Value} {ds : List Dd} (h : DeedsAt W v ds) (hb : RowKit.Below W.heap.size W W') : DeedsAt W' v ds := by
  obtain ⟨a, c, rfl, h⟩ := h
  refine ⟨a, c, rfl, fun h0 => ?_⟩
  obtain ⟨g, o, rfl, hg, hc⟩ := h h0
  exact ⟨g, o, rfl, Nat.lt_of_lt_of_le hg hb.size, fun i hi j hj => by rw [hb.cell (show (⟨g, o + i * 6 + j, none⟩ : Addr).block < W.heap.size from hg)]; exact hc i hi j hj⟩
/-- Truth values in order. -/
def boolsV (l : List Bool) : List Value := l.map .bool
def BoolsS (W : World) (v : Value) (l : List Bool) : Prop :=
  ∃ a c, v = .slice a l.length c ∧ (0 < l.length → ∃ g, a = some ⟨g, 0, none⟩ ∧ g < W.heap.size ∧ ∀ i, i < l.length → W.cell? ⟨g, i, none⟩ = some (.bool (l.getD i false)))
theorem bools_own {w : World} {B : Nat} {t : TypeId} {v : Value} {l : List Bool} (h : w.ownsRow B t 1 v l.length (boolsV l)) : BoolsS w v l := by
  obtain ⟨_, h | ⟨g, cap, cur, hv, hB, hg, hc1, hc2, hc3, hc4⟩⟩ := h
  · obtain ⟨rfl, h0⟩ := h
    exact ⟨none, 0, by rw [show l.length = 0 by first | exact h0 | exact h0.1 | omega], fun h => by omega⟩
  · refine ⟨_, _, hv, fun _ => ⟨g, rfl, lt_of_block hg, fun i hi => ?_⟩⟩
    unfold World.cell?
    rw [hg]
    have h1 : (cur.toList.take (l.length * 1))[i]? = (boolsV l)[i]? := by rw [hc4]
    rw [List.getElem?_take_of_lt (by omega)] at h1
    have h2 : cur[i]? = (boolsV l)[i]? := by simpa using h1
    simp only [h2]
    rw [List.getD_eq_getElem?_getD]
    simp [boolsV, hi]
theorem infoBool : (Tryz.prog.info? 4).map (fun i => (i.zero, i.size, i.bytes)) = some (some (.bool false), 1, 1) := by kernel_rfl
/-- Blocks of another type stay. -/
def KeptX (e : TypeId) (w w' : World) : Prop := ∀ (k : Nat) (cc : Array Value) (T : TypeId), w.heap[k]? = some (.cells cc T (0, 0)) → T ≠ e → w'.heap[k]? = some (.cells cc T (0, 0))
theorem KeptX.own {e : TypeId} {w w' : World} (h : KeptX e w w') {B n k : Nat} {T : TypeId} {v : Value} {xs : List Value} (ho : w.ownsRow B T k v n xs) (h1 : T ≠ e) : w'.ownsRow B T k v n xs := by
  obtain ⟨h0, h' | ⟨g, cap, cur, hv, hB, hg, hr⟩⟩ := ho
  · exact ⟨h0, .inl h'⟩
  · exact ⟨h0, .inr ⟨g, cap, cur, hv, hB, h g cur T hg h1, hr⟩⟩
theorem KeptX.row {e : TypeId} {w w' : World} (h : KeptX e w w') {g n : Nat} {T : TypeId} {F : Nat → Value} (hr : w.rowIs g T n F) (h1 : T ≠ e) : w'.rowIs g T n F := rowIs_of_block (h g _ T (rowIs_block hr) h1)
theorem Bk.keptX {e : TypeId} {pb B0 : Nat} {l : List En} {w w' : World} (h : Bk pb B0 l w) (hk : KeptX e w w') (h1 : 71 ≠ e) (h2 : 69 ≠ e) : Bk pb B0 l w' := by
  obtain ⟨v, hr, ho⟩ := h
  exact ⟨v, hk.row hr h1, hk.own ho h2⟩
theorem keptX_set {e : TypeId} {w : World} {p : Nat} {n : Nat} {F : Nat → Value} (hr : w.rowIs p e n F) (j : Nat) (v : Value) : KeptX e w (w.setCell ⟨p, j, none⟩ v) := fun k cc T h0 h1 => by
  rw [Below.heap_setCell _ _ _ _ (by show k ≠ p; intro e2; rw [e2, rowIs_block hr] at h0; injection h0 with h0; injection h0 with _ h0; exact h1 h0.symm)]; exact h0
end Go.Proofs.YtpoomblloahahaaGreatDoor
