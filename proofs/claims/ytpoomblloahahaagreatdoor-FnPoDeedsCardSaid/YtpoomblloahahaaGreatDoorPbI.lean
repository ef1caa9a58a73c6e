/- A slice of entries of one's own, sorted, whatever its length. -/
import Derived.Test.YtpoomblloahahaaGreatDoorPbF
import Derived.Deep.AppendLies
namespace Go.Proofs.YtpoomblloahahaaGreatDoor
open Go.Proofs Go.Shelf Go.Sort Go.ChangeShapes Go.WideShapes Go.ChangeAt Go.RowKit Go.PlainAid
set_option maxHeartbeats 2000000
set_option linter.unusedVariables false
set_option linter.unusedSimpArgs false

theorem kept_below {w w' : World} {p : Nat → Prop} (h : KeptBut p w w') (hp : ∀ k, ¬ p k) : RowKit.Below w.heap.size w w' := ⟨h.1, h.2.1, h.2.2.1, h.2.2.2.1, fun k hk => h.2.2.2.2 k hk (hp k)⟩
theorem ents_of_cells (l : List En) (cur : Array Value) (hsz : l.length * 4 ≤ cur.size) (h : ∀ i, i < l.length → ∀ j, j < 4 → cur[i * 4 + j]? = some (enF (l.getD i e0) j)) : cur.toList.take (l.length * 4) = ents l := by
  apply List.ext_getElem?
  intro i
  by_cases hi : i < l.length * 4
  · rw [List.getElem?_take_of_lt hi]
    have h1 := ents_get l (i / 4) (by omega) (i % 4) (by omega)
    have h2 := h (i / 4) (by omega) (i % 4) (by omega)
    rw [show i / 4 * 4 + i % 4 = i by omega] at h1 h2
    rw [h1, ← h2]
    simp
  · rw [List.getElem?_eq_none (by simp; omega), List.getElem?_eq_none (by rw [ents_len]; omega)]
/-- One's own slice of entries behind changes of its cells. -/
theorem own_cells {B g n cap : Nat} {T : TypeId} {l l' : List En} {cur cur' : Array Value} {w w' : World} (h : w.ownsRow B T 4 (.slice (some ⟨g, 0, none⟩) n cap) n (ents l)) (hg : w.heap[g]? = some (.cells cur T (0, 0))) (hg' : w'.heap[g]? = some (.cells cur' T (0, 0))) (hsz : cur'.size = cur.size) (hl : l'.length = n)
    (hc : ∀ i, i < n → ∀ j, j < 4 → w'.cell? ⟨g, i * 4 + j, none⟩ = some (enF (l'.getD i e0) j)) : w'.ownsRow B T 4 (.slice (some ⟨g, 0, none⟩) n cap) n (ents l') := by
  obtain ⟨h0, h | ⟨g1, cap1, cur1, hv, hB, hg1, hc1, hc2, hc3, hc4⟩⟩ := h
  · cases h.1
  · injection hv with e1 e2 e3
    injection e1 with e1
    injection e1 with e1
    subst e1
    subst e3
    rw [hg] at hg1
    injection hg1 with hg1
    injection hg1 with hg1
    subst hg1
    refine ⟨by rw [ents_len, hl], .inr ⟨g, cap, cur', rfl, hB, hg', hc1, hc2, by rw [hsz]; exact hc3, ?_⟩⟩
    rw [← hl]
    refine ents_of_cells l' cur' (by rw [hsz, hc3, hl]; omega) (fun i hi j hj => ?_)
    have h1 := hc i (by omega) j hj
    unfold World.cell? at h1
    rw [hg'] at h1
    simpa using h1
theorem sortOwn_K (B0 E : Nat) (v : Value) (l : List En) (W0 w : World) (hown : w.ownsRow B0 69 4 v l.length (ents l)) (hE : w.rowIs E 62 1 (fun _ => v)) (hl : l.length ≤ 1000) (hb : RowKit.Below B0 W0 w) (hBw : B0 ≤ w.heap.size) :
    Calls Tryz.prog 19 #[.iface 62 v, .func (.func 27) #[] #[.pointer (some ⟨E, 0, none⟩)]] w fun e w' =>
      e = .returned (.tuple #[]) ∧ ∃ l' : List En, l'.Perm l ∧ (∀ i j : Nat, i < j → j < l'.length → ltK (l'.getD j e0) (l'.getD i e0) = false) ∧ EnS w' v l' ∧ w'.rowIs E 62 1 (fun _ => v) ∧ RowKit.Below B0 W0 w' ∧ w'.ownsRow B0 69 4 v l'.length (ents l') := by
  by_cases h2 : 2 ≤ l.length
  · obtain ⟨g, cap, cur, rfl, hB, hg, hblk, hH⟩ := own_open hown (by omega)
    have hne : E ≠ g := fun e => by
      have h1 := rowIs_block hE
      rw [e, hblk] at h1
      simp at h1
    refine (sortK_any g cap E l h2 hl w hH hg (hE.cell (i := 0) (by omega)) hE.lt hne).mono ?_
    rintro e w' ⟨rfl, l', hp, hs, hc, hk, hbk⟩
    have hlen := hp.length_eq
    refine ⟨rfl, l', hp, fun i j hij hj => hs i j hij (by omega), ⟨some ⟨g, 0, none⟩, cap, by rw [hlen], fun _ => ⟨g, rfl, Nat.lt_of_lt_of_le hg hk.2.2.2.1, fun i hi j hj => hc i (by omega) j hj⟩⟩, hE.of_block (hk.2.2.2.2 E hE.lt hne), hk.below hb hBw (fun k hk => by subst hk; exact hB), ?_⟩
    rw [hlen]
    obtain ⟨cur', hg', hsz'⟩ := hbk _ _ _ hblk
    exact own_cells hown hblk hg' hsz' hlen (fun i hi j hj => hc i hi j hj)
  · obtain ⟨va, vn, vc, rfl⟩ : ∃ a n c, v = .slice a n c := by
      rcases hown.2 with ⟨hv, _⟩ | ⟨_, _, _, hv, _⟩ <;> exact ⟨_, _, _, hv⟩
    have hEn := ens_own hown
    have hvn : vn = l.length := by
      obtain ⟨a', c', hv, _⟩ := hEn
      injection hv
    refine (sort_tiny (.slice va vn vc) va vn vc _ _ _ (by omega) w).mono ?_
    rintro e w' ⟨rfl, hk⟩
    have hbl := kept_below hk (fun _ h => h)
    refine ⟨rfl, l, List.Perm.refl _, fun i j hij hj => by omega, hEn.below hbl, rowIs_below hE hbl hE.lt, hb.trans (hbl.mono hBw), own_below hown hbl⟩
/-- As 'wpList_app2', at a step of a region that draws. -/
theorem step_app2 {P : Program} {ops : Array Oper} {o : Oper} {a : Act} {K : Act → World → Prop} {Q : Exit → Act → World → Prop} {E : Prop} (hgd : o.guard = none) (s x : Operand) (t : TypeId)
    (ho : o.op = .call { callee := .builtin .append, args := #[s, x], argTypes := #[t, t] })
    (base : Nat) (e : TypeId) (z : Value) (size bytes : Nat) (ht : P.underlying t = some (.slice e)) (hinfo : (P.info? e).map (fun i => (i.zero, i.size, i.bytes)) = some (some z, size, bytes)) (hzs : z.cells.size = size) (hsz : 0 < size)
    (v : Value) (n : Nat) (xs : List Value) (hs : a.eval s = v) {w : World} (hown : w.ownsRow base e size v n xs) (hbase : base ≤ w.heap.size)
    (us : List Value) (hu : ∀ u ∈ us, u.oneCell' = true) (hl : us.length = size) (g : Nat) (hg : g = w.heap.size) (hx : a.eval x = .slice (some ⟨g, 0, none⟩) 1 1) (hn : n < 1000000000) (hby : bytes ≤ 10000)
    (h : ∀ va vn vc w', w'.ownsRow base e size (.slice va vn vc) (n + 1) (xs ++ us) → RowKit.Below base w w' → (∀ (k : Nat) (cc : Array Value) (T : TypeId), w.heap[k]? = some (.cells cc T (0, 0)) → T ≠ e → w'.heap[k]? = some (.cells cc T (0, 0))) → K (a.put o.dst (.slice va vn vc)) w') :
    if Region.wanted o (yielded ops a.tmps) = true then Oper.wp P o a (w.alloc (.cells us.toArray e)).drew K Q else E := by
  have hw : Region.wanted o (yielded ops a.tmps) = true := by simp [Region.wanted, hgd]
  rw [if_pos hw]
  obtain ⟨i0, hi, hz0, hz1, hz2⟩ := info_parts hinfo
  have hmul : (n + 1) * bytes ≤ 140737488355328 := by
    have : (n + 1) * bytes ≤ 1000000000 * 10000 := Nat.mul_le_mul (by omega) hby
    omega
  have hod : (w.alloc (.cells us.toArray e)).drew.ownsRow base e size v n xs := own_below (hown.alloc _) ⟨rfl, rfl, rfl, Nat.le_refl _, fun _ _ => rfl⟩
  refine wp_append_own _ s x t ho base e i0 z size bytes ht hi hz0 hz1 hz2 hzs hsz v n xs hs hod ⟨g, 0, none⟩ 1 1 us hx (by omega) (fun j u hj => cells_new hg j u (by simpa using hj)) hu (by unfold maxLen; omega) hmul (by simp; omega) ?_
  intro v' w' hown' hgrow hnil
  obtain ⟨va, vn, vc, rfl⟩ : ∃ a n c, v' = .slice a n c := by
    rcases hown'.2 with ⟨hv, _⟩ | ⟨_, _, _, hv, _⟩ <;> exact ⟨_, _, _, hv⟩
  refine h va vn vc w' hown' (((RowKit.Below.refl base w).alloc hbase _).drew.grown hgrow (by simp; omega) (fun r hr => (hown.lt r hr).1)) (fun k cc T hk hT => ?_)
  have hlt : k < w.heap.size := by
    rcases Nat.lt_or_ge k w.heap.size with h | h
    · exact h
    · rw [Array.getElem?_eq_none h] at hk; cases hk
  have hk2 : (w.alloc (.cells us.toArray e)).drew.heap[k]? = some (.cells cc T (0, 0)) := by (show (w.alloc (.cells us.toArray e)).heap[k]? = _); rw [heap_alloc_old w _ hlt]; exact hk
  rw [hgrow.block k (by simp; omega) (fun e2 => own_ne hod hk2 hT e2.symm)]
  exact hk2
end Go.Proofs.YtpoomblloahahaaGreatDoor
