/- A book is loaded: the entries of the bytes, sorted by their keys. -/
import Derived.Test.YtpoomblloahahaaGreatDoorPbG
import Derived.Test.YtpoomblloahahaaGreatDoorLayB
import Derived.Test.YtpoomblloahahaaGreatDoorPoE
import Derived.Shelf.Bin.BEUint64
import Derived.Shelf.Bin.BEUint16
import Derived.Shelf.Bin.BEUint32
import Derived.OwnWalk
namespace Go.Proofs.YtpoomblloahahaaGreatDoor
open Go.Proofs Go.Shelf Go.Sort Go.ChangeShapes Go.WideShapes Go.ChangeAt Go.RowKit Go.PlainAid
set_option maxHeartbeats 2000000
set_option linter.unusedVariables false
set_option linter.unusedSimpArgs false

theorem take_get (L : List UInt8) (q n : Nat) (h : q + n ≤ L.length) : (L.drop q).take n = (List.range n).map (fun j => L.getD (q + j) 0) := by
  apply List.ext_getElem?
  intro i
  by_cases hi : i < n
  · rw [List.getElem?_take_of_lt hi, List.getElem?_drop, List.getElem?_map, List.getElem?_range hi, List.getElem?_eq_getElem (by omega), Option.map_some, List.getD_eq_getElem?_getD, List.getElem?_eq_getElem (by omega)]; rfl
  · rw [List.getElem?_eq_none (by simp; omega), List.getElem?_eq_none (by simp; omega)]
theorem beI_8 (L : List UInt8) (q : Nat) (h : q + 8 ≤ L.length) : beI L q 8 = ((Lib.beNat [L.getD (q + 0) 0, L.getD (q + 1) 0, L.getD (q + 2) 0, L.getD (q + 3) 0, L.getD (q + 4) 0, L.getD (q + 5) 0, L.getD (q + 6) 0, L.getD (q + 7) 0] : Nat) : Int) := by
  unfold beI beN; rw [take_get L q 8 h]; rfl
theorem beI_2 (L : List UInt8) (q : Nat) (h : q + 2 ≤ L.length) : beI L q 2 = ((Lib.beNat [L.getD (q + 0) 0, L.getD (q + 1) 0] : Nat) : Int) := by
  unfold beI beN; rw [take_get L q 2 h]; rfl
theorem beI_4 (L : List UInt8) (q : Nat) (h : q + 4 ≤ L.length) : beI L q 4 = ((Lib.beNat [L.getD (q + 0) 0, L.getD (q + 1) 0, L.getD (q + 2) 0, L.getD (q + 3) 0] : Nat) : Int) := by
  unfold beI beN; rw [take_get L q 4 h]; rfl
/-- The buffer's cells. -/
def BufAt (g q : Nat) (L : List UInt8) (w : World) : Prop := ∀ j, j < 16 → w.cell? ⟨g, j, none⟩ = some (.int .u8 (byI L (q + j)))
theorem u64_any (g c q : Nat) (L : List UInt8) (w : World) (hq : q + 16 ≤ L.length) (h : BufAt g q L w) :
    Calls Tryz.prog 24 #[.agg #[], .slice (some ⟨g, 0, none⟩) 8 c] w fun e w' => e = .returned (.int .u64 (beI L q 8)) ∧ Below w.heap.size w w' := by
  rw [beI_8 L q (by omega)]
  exact Any.binary_BE_Uint64 lays_LaysBin_n42 g 0 8 c _ _ _ _ _ _ _ _ w (Nat.le_refl _) (h 0 (by omega)) (h 1 (by omega)) (h 2 (by omega)) (h 3 (by omega)) (h 4 (by omega)) (h 5 (by omega)) (h 6 (by omega)) (h 7 (by omega))
theorem u16_any (g c q o : Nat) (L : List UInt8) (w : World) (hq : q + 16 ≤ L.length) (h : BufAt g q L w) (ho : o + 2 ≤ 16) :
    Calls Tryz.prog 25 #[.agg #[], .slice (some ⟨g, o, none⟩) 2 c] w fun e w' => e = .returned (.int .u16 (beI L (q + o) 2)) ∧ Below w.heap.size w w' := by
  rw [beI_2 L (q + o) (by omega)]
  exact Any.binary_BE_Uint16 lays_LaysBin_n36 g o 2 c _ _ w (Nat.le_refl _) (by rw [h o (by omega)]; rfl) (by rw [h (o + 1) (by omega), Nat.add_assoc]; rfl)
theorem u32_any (g c q : Nat) (L : List UInt8) (w : World) (hq : q + 16 ≤ L.length) (h : BufAt g q L w) :
    Calls Tryz.prog 26 #[.agg #[], .slice (some ⟨g, 12, none⟩) 4 c] w fun e w' => e = .returned (.int .u32 (beI L (q + 12) 4)) ∧ Below w.heap.size w w' := by
  rw [beI_4 L (q + 12) (by omega)]
  exact Any.binary_BE_Uint32 lays_LaysBin_n39 g 12 4 c _ _ _ _ w (Nat.le_refl _) (by rw [h 12 (by omega)]; rfl) (by rw [h 13 (by omega)]; rfl) (by rw [h 14 (by omega)]; rfl) (by rw [h 15 (by omega)]; rfl)
theorem own_kept {p : Nat → Prop} {B t k n : Nat} {v : Value} {xs : List Value} {w w' : World} (h : w.ownsRow B t k v n xs) (hk : KeptBut p w w') (hp : ∀ g, p g → ∀ c : Array Value, w.heap[g]? ≠ some (.cells c t (0, 0))) : w'.ownsRow B t k v n xs := by
  obtain ⟨h0, h | ⟨g, cap, cur, hv, hB, hg, hr⟩⟩ := h
  · exact ⟨h0, .inl h⟩
  · have hlt : g < w.heap.size := by
      rcases Nat.lt_or_ge g w.heap.size with h | h
      · exact h
      · rw [Array.getElem?_eq_none h] at hg; cases hg
    exact ⟨h0, .inr ⟨g, cap, cur, hv, hB, (hk.2.2.2.2 g hlt (fun hpg => hp g hpg cur hg)).trans hg, hr⟩⟩
theorem own_open {B : Nat} {v : Value} {l : List En} {w : World} (h : w.ownsRow B 69 4 v l.length (ents l)) (hl : 0 < l.length) :
    ∃ g cap cur, v = .slice (some ⟨g, 0, none⟩) l.length cap ∧ B ≤ g ∧ g < w.heap.size ∧ w.heap[g]? = some (.cells cur 69 (0, 0)) ∧ HoldsK encE 4 w g 0 l.toArray := by
  obtain ⟨_, h | ⟨g, cap, cur, hv, hB, hg, hc1, hc2, hc3, hc4⟩⟩ := h
  · obtain ⟨_, h0⟩ := h
    have : l.length = 0 := by first | exact h0 | exact h0.1 | omega
    omega
  · refine ⟨g, cap, cur, hv, hB, ?_, hg, fun j hj => ?_⟩
    · rcases Nat.lt_or_ge g w.heap.size with h | h
      · exact h
      · rw [Array.getElem?_eq_none h] at hg; cases hg
    · rw [size_flatK] at hj
      have hjl : j < l.length * 4 := by simpa using hj
      rw [get_flatK _ _ _ _ hj, Nat.zero_add]
      constructor
      · unfold World.cell?
        rw [hg]
        have h1 : (cur.toList.take (l.length * 4))[j]? = (ents l)[j]? := by rw [hc4]
        have hg2 := ents_get l (j / 4) (by omega) (j % 4) (by omega)
        rw [show j / 4 * 4 + j % 4 = j by omega] at hg2
        rw [List.getElem?_take_of_lt (by omega), hg2] at h1
        rw [enc_get _ _ (by omega)]
        have e : l.toArray[j / 4]! = l.getD (j / 4) e0 := by
          rw [List.getD_eq_getElem?_getD, List.getElem?_eq_getElem (by omega), getElem!_pos _ _ (by simp; omega)]; simp
        rw [e]
        simpa using h1
      · simp [World.frozen?, hg]
theorem own_ne {w : World} {B k : Nat} {e T : TypeId} {v : Value} {n : Nat} {xs : List Value} {b : Nat} {cs : Array Value} {fr : Nat × Nat} (hown : w.ownsRow B e k v n xs) (hb : w.heap[b]? = some (.cells cs T fr)) (hTe : T ≠ e) : v.ownBlock ≠ some b := by
  rcases hown.2 with ⟨rfl, _⟩ | ⟨g, cap, cur, rfl, _, hg, _⟩
  · simp [Value.ownBlock]
  · intro h
    simp only [Value.ownBlock, Option.some.injEq] at h
    subst h
    rw [hg] at hb
    simp only [Option.some.injEq, Obj.cells.injEq] at hb
    exact hTe hb.2.1.symm
/-- 'append' of one element, and that blocks of another type stay. -/
theorem wpList_app2 {P : Program} {ops : Array Oper} {rest : List Oper} {o : Oper} {a : Act} {Q : Exit → Act → World → Prop} (hgd : o.guard = none) (s x : Operand) (t : TypeId)
    (ho : o.op = .call { callee := .builtin .append, args := #[s, x], argTypes := #[t, t] })
    (base : Nat) (e : TypeId) (z : Value) (size bytes : Nat) (ht : P.underlying t = some (.slice e)) (hinfo : (P.info? e).map (fun i => (i.zero, i.size, i.bytes)) = some (some z, size, bytes)) (hzs : z.cells.size = size) (hsz : 0 < size)
    (v : Value) (n : Nat) (xs : List Value) (hs : a.eval s = v) {w : World} (hown : w.ownsRow base e size v n xs) (hbase : base ≤ w.heap.size)
    (us : List Value) (hu : ∀ u ∈ us, u.oneCell' = true) (hl : us.length = size) (g : Nat) (hg : g = w.heap.size) (hx : a.eval x = .slice (some ⟨g, 0, none⟩) 1 1) (hn : n < 1000000000) (hby : bytes ≤ 10000)
    (h : ∀ va vn vc w', w'.ownsRow base e size (.slice va vn vc) (n + 1) (xs ++ us) → RowKit.Below base w w' → (∀ (k : Nat) (cc : Array Value) (T : TypeId), w.heap[k]? = some (.cells cc T (0, 0)) → T ≠ e → w'.heap[k]? = some (.cells cc T (0, 0))) → wpList P ops Q rest (a.put o.dst (.slice va vn vc)) w') : wpList P ops Q (o :: rest) a (w.alloc (.cells us.toArray e)) := by
  obtain ⟨i0, hi, hz0, hz1, hz2⟩ := info_parts hinfo
  have hmul : (n + 1) * bytes ≤ 140737488355328 := by
    have : (n + 1) * bytes ≤ 1000000000 * 10000 := Nat.mul_le_mul (by omega) hby
    omega
  refine wpList_append_own _ hgd s x t ho base e i0 z size bytes ht hi hz0 hz1 hz2 hzs hsz v n xs hs (hown.alloc _) ⟨g, 0, none⟩ 1 1 us hx (by omega) (fun j u hj => cells_new hg j u (by simpa using hj)) hu (by unfold maxLen; omega) hmul (by simp; omega) ?_
  intro v' w' hown' hgrow hnil
  obtain ⟨va, vn, vc, rfl⟩ : ∃ a n c, v' = .slice a n c := by
    rcases hown'.2 with ⟨hv, _⟩ | ⟨_, _, _, hv, _⟩ <;> exact ⟨_, _, _, hv⟩
  refine h va vn vc w' hown' (((RowKit.Below.refl base w).alloc hbase _).grown hgrow (by simp; omega) (fun r hr => (hown.lt r hr).1)) (fun k cc T hk hT => ?_)
  have hlt : k < w.heap.size := by
    rcases Nat.lt_or_ge k w.heap.size with h | h
    · exact h
    · rw [Array.getElem?_eq_none h] at hk; cases hk
  have hk2 : (w.alloc (.cells us.toArray e)).heap[k]? = some (.cells cc T (0, 0)) := by rw [heap_alloc_old w _ hlt]; exact hk
  rw [hgrow.block k (by simp; omega) (fun e2 => own_ne (hown.alloc (.cells us.toArray e)) hk2 hT e2.symm)]
  exact hk2
end Go.Proofs.YtpoomblloahahaaGreatDoor
