/- A key's entries are found, the greatest weights first. -/
import Derived.Test.YtpoomblloahahaaDoorPbK
import Derived.Deep.AppendLies
namespace Go.Proofs.YtpoomblloahahaaDoor
open Go.Proofs Go.Shelf Go.Sort Go.ChangeShapes Go.WideShapes Go.ChangeAt Go.RowKit Go.PlainAid
set_option maxHeartbeats 2000000
set_option linter.unusedVariables false
set_option linter.unusedSimpArgs false

/-- As 'wpList_app2', at a step of a region that draws. -/
theorem step_app2 {P : Program} {ops : Array Oper} {o : Oper} {a : Act} {K : Act → World → Prop} {Q : Exit → Act → World → Prop} {E : Prop} (hgd : o.guard = none) (s x : Operand) (t : TypeId)
    (ho : o.op = .call { callee := .builtin .append, args := #[s, x], argTypes := #[t, t] })
    (base : Nat) (e : TypeId) (z : Value) (size bytes : Nat) (ht : P.underlying t = some (.slice e)) (hinfo : (P.info? e).map (fun i => (i.zero, i.size, i.bytes)) = some (some z, size, bytes)) (hzs : z.cells.size = size) (hsz : 0 < size)
    (v : Value) (n : Nat) (xs : List Value) (hs : a.eval s = v) {w : World} (hown : w.ownsRow base e size v n xs) (hbase : base ≤ w.heap.size)
    (us : List Value) (hu : ∀ u ∈ us, u.oneCell' = true) (hl : us.length = size) (g : Nat) (hg : g = w.heap.size) (hx : a.eval x = .slice (some ⟨g, 0, none⟩) 1 1) (hn : n < 1000000000) (hby : bytes ≤ 10000)
    (h : ∀ va vn vc w', w'.ownsRow base e size (.slice va vn vc) (n + 1) (xs ++ us) → RowKit.Below base w w' → (∀ (k : Nat) (cc : Array Value) (T : TypeId), w.heap[k]? = some (.cells cc T (0, 0)) → T ≠ e → w'.heap[k]? = some (.cells cc T (0, 0))) → K (a.put o.dst (.slice va vn vc)) w') :
    if Region.wanted o (yielded ops a.tmps) = true then Oper.wp P o a (w.alloc (.cells us.toArray e)).drew K Q else E := by
  have hw : Region.wanted o (yielded ops a.tmps) = true := by simp [Region.wanted, hgd]
  rw [if_pos hw]
  obtain ⟨i0, hi, hz0, hz1, hz2⟩ := info_parts hinfo
  have hmul : (n + 1) * bytes ≤ 140737488355328 := by
    have : (n + 1) * bytes ≤ 1000000000 * 10000 := Nat.mul_le_mul (by omega) hby
    omega
  have hod : (w.alloc (.cells us.toArray e)).drew.ownsRow base e size v n xs := own_below (hown.alloc _) ⟨rfl, rfl, rfl, Nat.le_refl _, fun _ _ => rfl⟩
  refine wp_append_own _ s x t ho base e i0 z size bytes ht hi hz0 hz1 hz2 hzs hsz v n xs hs hod ⟨g, 0, none⟩ 1 1 us hx (by omega) (fun j u hj => cells_new hg j u (by simpa using hj)) hu (by unfold maxLen; omega) hmul (by simp; omega) ?_
  intro v' w' hown' hgrow hnil
  obtain ⟨va, vn, vc, rfl⟩ : ∃ a n c, v' = .slice a n c := by
    rcases hown'.2 with ⟨hv, _⟩ | ⟨_, _, _, hv, _⟩ <;> exact ⟨_, _, _, hv⟩
  refine h va vn vc w' hown' (((RowKit.Below.refl base w).alloc hbase _).drew.grown hgrow (by simp; omega) (fun r hr => (hown.lt r hr).1)) (fun k cc T hk hT => ?_)
  have hlt : k < w.heap.size := by
    rcases Nat.lt_or_ge k w.heap.size with h | h
    · exact h
    · rw [Array.getElem?_eq_none h] at hk; cases hk
  have hk2 : (w.alloc (.cells us.toArray e)).drew.heap[k]? = some (.cells cc T (0, 0)) := by (show (w.alloc (.cells us.toArray e)).heap[k]? = _); rw [heap_alloc_old w _ hlt]; exact hk
  rw [hgrow.block k (by simp; omega) (fun e2 => own_ne hod hk2 hT e2.symm)]
  exact hk2
/-- Sorted by the keys. -/
def SortK (l : List En) : Prop := ∀ i j : Nat, i < j → j < l.length → ltK (l.getD j e0) (l.getD i e0) = false
def SortW (l : List En) : Prop := ∀ i j : Nat, i < j → j < l.length → ltW (l.getD j e0) (l.getD i e0) = false
theorem SortK.le {l : List En} (h : SortK l) {i j : Nat} (hij : i ≤ j) (hj : j < l.length) : (l.getD i e0).1 ≤ (l.getD j e0).1 := by
  rcases Nat.lt_or_ge i j with h1 | h1
  · have := h i j h1 hj
    simp [ltK] at this
    exact this
  · obtain rfl : i = j := by omega
    exact Int.le_refl _
theorem getD_idx (l : List En) (i : Nat) (h : i < l.length) : l.getD i e0 = l[i] := by
  rw [List.getD_eq_getElem?_getD, List.getElem?_eq_getElem h]; rfl
/-- The part of a key: from the first index on as long as the key is that one. -/
theorem ofKey_part (l : List En) (key : Int) (m k : Nat) (hs : SortK l) (hm : Found l key m) (hmk : m ≤ k) (hk : k ≤ l.length) (hin : ∀ j, m ≤ j → j < k → (l.getD j e0).1 = key) (hout : k < l.length → (l.getD k e0).1 ≠ key) : ofKey l key = (l.drop m).take (k - m) := by
  have e : l = l.take m ++ ((l.drop m).take (k - m) ++ l.drop k) := by
    conv => lhs; rw [← List.take_append_drop m l]
    congr 1
    conv => lhs; rw [← List.take_append_drop (k - m) (l.drop m)]
    rw [List.drop_drop, show m + (k - m) = k by omega]
  unfold ofKey
  conv => lhs; rw [e]
  rw [List.filter_append, List.filter_append]
  have h1 : (l.take m).filter (fun x => x.1 == key) = [] := by
    rw [List.filter_eq_nil_iff]
    intro x hx
    obtain ⟨i, hi, rfl⟩ := List.getElem_of_mem hx
    have hi2 : i < m := by have := List.length_take_le m l; omega
    rw [List.getElem_take]
    have h2 := hm.2.1 (by omega)
    have h3 := hs.le (i := i) (j := m - 1) (by omega) (by have := hm.1; omega)
    rw [getD_idx l i (by have := hm.1; omega)] at h3
    simp only [beq_iff_eq]; omega
  have h2 : ((l.drop m).take (k - m)).filter (fun x => x.1 == key) = (l.drop m).take (k - m) := by
    rw [List.filter_eq_self]
    intro x hx
    obtain ⟨i, hi, rfl⟩ := List.getElem_of_mem hx
    have hi2 : i < k - m := by have := List.length_take_le (k - m) (l.drop m); omega
    rw [List.getElem_take, List.getElem_drop]
    have := hin (m + i) (by omega) (by omega)
    rw [getD_idx l (m + i) (by omega)] at this
    simpa using this
  have h3 : (l.drop k).filter (fun x => x.1 == key) = [] := by
    rw [List.filter_eq_nil_iff]
    intro x hx
    obtain ⟨i, hi, rfl⟩ := List.getElem_of_mem hx
    have hi2 : k + i < l.length := by rw [List.length_drop] at hi; omega
    rw [List.getElem_drop]
    have h4 := hout (by omega)
    have h5 := hs.le (i := k) (j := k + i) (by omega) hi2
    have h6 : key ≤ (l.getD m e0).1 := hm.2.2 (by omega)
    have h7 := hs.le (i := m) (j := k) hmk (by omega)
    rw [getD_idx l (k + i) hi2] at h5
    simp only [beq_iff_eq]; omega
  rw [h1, h2, h3]; simp
theorem part_succ (l : List En) (m k : Nat) (hmk : m ≤ k) (hk : k < l.length) : (l.drop m).take (k + 1 - m) = (l.drop m).take (k - m) ++ [l.getD k e0] := by
  rw [show k + 1 - m = (k - m) + 1 by omega, List.take_add_one, List.getElem?_drop, show m + (k - m) = k by omega, List.getElem?_eq_getElem hk, getD_idx l k hk]; rfl
theorem part_len (l : List En) (m k : Nat) (hmk : m ≤ k) (hk : k ≤ l.length) : ((l.drop m).take (k - m)).length = k - m := by simp; omega
set_option maxRecDepth 100000 in
theorem find_any (pb : Nat) (v : Value) (l : List En) (key : Int) (hl : l.length ≤ 1000) (W : World) (hpb : pb < W.heap.size) (hcb : W.cell? ⟨pb, 0, none⟩ = some v) (hE : EnS W v l) (hso : SortK l) :
    Calls Tryd.prog 13 #[.pointer (some ⟨pb, 0, none⟩), .int .u64 key] W fun e w' => ∃ u, e = .returned u ∧ ∃ l', EnS w' u l' ∧ l'.Perm (ofKey l key) ∧ SortW l' ∧ RowKit.Below W.heap.size W w' := by
  have k1 := row_lit W #[.pointer (some ⟨pb, 0, none⟩)] 38
  have k2 := row_lit (W.alloc (.cells #[.pointer (some ⟨pb, 0, none⟩)] 38)) #[.int .u64 key] 25
  have k1' := k1.alloc (.cells #[.int .u64 key] 25)
  have kB := ((RowKit.Below.refl W.heap.size W).alloc (Nat.le_refl _) (.cells #[.pointer (some ⟨pb, 0, none⟩)] 38)).alloc (by simp) (.cells #[.int .u64 key] 25)
  have z1 := k1'.cell (i := 0) (by simp)
  have z2 := k2.cell (i := 0) (by simp)
  rw [World.size_alloc] at z2
  have hF : FS pb W.heap.size (W.heap.size + 1) v l key ((W.alloc (.cells #[.pointer (some ⟨pb, 0, none⟩)] 38)).alloc (.cells #[.int .u64 key] 25)) := ⟨by simp; omega, by simp, by simp; omega, z1, z2, by rw [kB.cell (show (⟨pb, 0, none⟩ : Addr).block < W.heap.size from hpb)]; exact hcb, hE.below kB⟩
  have hsz2 : ((W.alloc (.cells #[.pointer (some ⟨pb, 0, none⟩)] 38)).alloc (.cells #[.int .u64 key] 25)).heap.size = W.heap.size + 2 := by simp
  clear k1 k2 k1' z1 z2 hE hcb
  obtain ⟨a, c, hv, _⟩ := hF.2.2.2.2.2.2
  subst hv
  obtain ⟨f1, f2, f3, y1, y2, y3, _⟩ := id hF
  go_enter Tryd.func13, Tryd.ntmps13
  go_upto_region 1 with (fail)
  generalize hw2 : (W.alloc (.cells #[.pointer (some ⟨pb, 0, none⟩)] 38)).alloc (.cells #[.int .u64 key] 25) = w2 at *
  clear hw2
  have hse := Lib.hid (search_any pb W.heap.size (W.heap.size + 1) _ l key hl w2 hF)
  replace hF := Lib.hid hF
  generalize hBs : W.heap.size + 1 = Ks at *
  generalize hB0 : W.heap.size = Bs at *
  go_wp2_with (go_at_call 19; go_loud (refine hse.out.mono ?_; rintro e w3 ⟨⟨m, rfl, hm⟩, hb3⟩); clear hse y1 y2 y3; have hF3 := hF.out.below hb3; (obtain ⟨g1, g2, g3, x1, x2, x3, hE3⟩ := id hF3); clear hF)
  have kB3 := kB.trans (hb3.mono (show Bs ≤ w2.heap.size by omega))
  have hB3 : Bs ≤ w3.heap.size := by omega
  clear hb3 kB f1 f2 f3
  have hno : (m = l.length ∨ (m < l.length ∧ (l.getD m e0).1 ≠ key)) → ofKey l key = [] := fun h => by
    have := ofKey_part l key m m hso hm (Nat.le_refl _) hm.1 (fun j h1 h2 => by omega) (fun hlt => by rcases h with h | h; omega; exact h.2)
    rw [this]; simp
  by_cases hmn : m < l.length
  · obtain ⟨_, _, he3, hE4⟩ := id hE3
    injection he3 with he3a he3b he3c
    subst he3a
    subst he3c
    obtain ⟨g, rfl, hg, hc⟩ := hE4 (by omega)
    clear hE4
    have hd : decide ((l.length : Int) ≤ (m : Int)) = false := decide_eq_false (by omega)
    have c0 := hc m hmn 0 (by omega)
    rw [Nat.add_zero] at c0
    cases hq : ((l.getD m e0).1 != key)
    · have hkey : (l.getD m e0).1 = key := by simpa using hq
      generalize hx : l.getD m e0 = x at *
      simp only [enF] at c0
      replace hx := Lib.hid hx
      replace hc := Lib.hid hc
      replace hm := Lib.hid hm
      clear hno
      go_quiet (fail)
      generalize hw4 : w3.drewN _ = w4 at *
      have kB4 : RowKit.Below w3.heap.size w3 w4 := by rw [← hw4]; exact ⟨rfl, rfl, rfl, Nat.le_refl _, fun _ _ => rfl⟩
      have hs4 : w4.heap.size = w3.heap.size := by rw [← hw4]; rfl
      clear hw4
      have k5 := row_lit w4 #[.slice none 0 0] 44
      have kB5 := kB4.alloc (by omega) (.cells #[.slice none 0 0] 44)
      rw [hs4] at k5
      go_upto_region 5 with (fail)
      generalize hw5 : w4.alloc (.cells #[.slice none 0 0] 44) = w5 at *
      clear hw5 hs4 kB4 w4
      have k6 : w5.rowIs w3.heap.size 44 1 (fun _ => .slice none 0 0) := k5.congr (fun j hj => by (have hj : j < 1 := hj); (obtain rfl : j = 0 := by omega); rfl)
      clear k5 c0 hq hd
      go_wp2_with (fail)
      go_loopw [7] (fun i wr => ∃ (k : Nat) (vv : Value), i = .int .i64 (k : Int) ∧ m ≤ k ∧ k ≤ l.length ∧ (∀ j, m ≤ j → j < k → (l.getD j e0).1 = key) ∧ wr.rowIs w3.heap.size 44 1 (fun _ => vv) ∧ wr.ownsRow w3.heap.size 51 4 vv ((l.drop m).take (k - m)).length (ents ((l.drop m).take (k - m))) ∧ RowKit.Below w3.heap.size w3 wr) (fun i _ => l.length - (intOf i).toNat)
      case atStart => exact ⟨m, _, rfl, Nat.le_refl _, hm.out.1, fun j h1 h2 => by omega, k6, by rw [Nat.sub_self]; exact World.ownsRow_nil _ _ _ _, kB5⟩
      case round =>
        clear k6 kB5
        obtain ⟨k, vv, rfl, hmk, hkl, hin, hR, hO, kBr⟩ := hrel
        obtain ⟨q1, q2, q3, y1, y2, y3, _⟩ := hF3.below kBr
        go_upto_region 6 with (fail)
        by_cases hgo : k < l.length ∧ (l.getD k e0).1 = key
        · obtain ⟨hlt, hkk⟩ := hgo
          have hd : decide ((k : Int) < (l.length : Int)) = true := decide_eq_true (by omega)
          have c0 := (kBr.cell (show (⟨g, k * 4 + 0, none⟩ : Addr).block < w3.heap.size from hg)).trans (hc.out k hlt 0 (by omega))
          have c1 := (kBr.cell (show (⟨g, k * 4 + 1, none⟩ : Addr).block < w3.heap.size from hg)).trans (hc.out k hlt 1 (by omega))
          have c2 := (kBr.cell (show (⟨g, k * 4 + 2, none⟩ : Addr).block < w3.heap.size from hg)).trans (hc.out k hlt 2 (by omega))
          have c3 := (kBr.cell (show (⟨g, k * 4 + 3, none⟩ : Addr).block < w3.heap.size from hg)).trans (hc.out k hlt 3 (by omega))
          have hps := part_succ l m k hmk hlt
          have hin2 : ∀ j, m ≤ j → j < k + 1 → (l.getD j e0).1 = key := fun j h1 h2 => by
            rcases Nat.lt_or_ge j k with h | h
            · exact hin j h1 h
            · obtain rfl : j = k := by omega
              exact hkk
          replace hin2 := Lib.hid hin2
          have hpl := part_len l m k hmk hkl
          generalize l.getD k e0 = y at *
          simp only [enF, Nat.add_zero] at c0 c1 c2 c3
          clear hin hx
          have hq : (y.1 == key) = true := by simpa using hkk
          go_quiet (fail)
          go_upto_region 8 with (fail)
          generalize hwq : wr.drewN _ = wq at *
          have hRq : wq.rowIs w3.heap.size 44 1 (fun _ => vv) := by rw [← hwq]; exact hR.of_block rfl
          have kBq : RowKit.Below w3.heap.size w3 wq := by rw [← hwq]; exact kBr.trans ⟨rfl, rfl, rfl, Nat.le_refl _, fun _ _ => rfl⟩
          have kbq : RowKit.Below wr.heap.size wr wq := by rw [← hwq]; exact ⟨rfl, rfl, rfl, Nat.le_refl _, fun _ _ => rfl⟩
          have hOq := own_below hO kbq
          rw [hpl] at hOq
          replace c0 := (kbq.cell (show (⟨g, k * 4, none⟩ : Addr).block < wr.heap.size from Nat.lt_of_lt_of_le hg kBr.size)).trans c0
          replace c1 := (kbq.cell (show (⟨g, k * 4 + 1, none⟩ : Addr).block < wr.heap.size from Nat.lt_of_lt_of_le hg kBr.size)).trans c1
          replace c2 := (kbq.cell (show (⟨g, k * 4 + 2, none⟩ : Addr).block < wr.heap.size from Nat.lt_of_lt_of_le hg kBr.size)).trans c2
          replace c3 := (kbq.cell (show (⟨g, k * 4 + 3, none⟩ : Addr).block < wr.heap.size from Nat.lt_of_lt_of_le hg kBr.size)).trans c3
          replace y1 := (kbq.cell (show (⟨Bs, 0, none⟩ : Addr).block < wr.heap.size from q1)).trans y1
          replace y3 := (kbq.cell (show (⟨pb, 0, none⟩ : Addr).block < wr.heap.size from q3)).trans y3
          clear hwq hR hO kBr q1 q2 q3 y2 kbq hd hq
          have yv := hRq.cell (i := 0) (by omega)
          have yf := hRq.frozen 0
          obtain ⟨vs, vl, vc, hvv⟩ : ∃ a n c, vv = .slice a n c := by
            rcases hOq.2 with ⟨hv, _⟩ | ⟨_, _, _, hv, _⟩ <;> exact ⟨_, _, _, hv⟩
          subst hvv
          replace hps := Lib.hid hps
          generalize (l.drop m).take (k - m) = F at *
          clear hF3 hE3
          have hone := one_enc y
          unfold encE at hone
          rw [hkk] at hone
          have hk2 : k - m < 1000000000 := by omega
          have hx : ∀ (v : Value) (wz : World), wz.ownsRow w3.heap.size 51 4 v (k - m + 1) (ents F ++ [.int .u64 y.1, .int .u16 y.2.1, .int .u16 y.2.2.1, .int .u32 y.2.2.2]) → wz.ownsRow w3.heap.size 51 4 v ((l.drop m).take (k + 1 - m)).length (ents ((l.drop m).take (k + 1 - m))) := fun v wz h => by
            rw [hps.out, ents_app, List.length_append, hpl]; exact h
          rw [hkk] at hx
          replace hx := Lib.hid hx
          have bR := rowIs_block hRq
          have hsz : w3.heap.size ≤ wq.heap.size := kBq.size
          have lR := hRq.lt
          go_region_law ((refine step_app2 rfl (.tmp 56) (.tmp 64) 44 rfl w3.heap.size 51 (.agg #[.int .u64 0, .int .u16 0, .int .u16 0, .int .u32 0]) 4 16 Tryd.underlying44 infoPe rfl (by decide) (.slice vs vl vc) (k - m) (ents F) (by simp [Act.eval, Act.put]) (w := wq) hOq hsz [.int .u64 key, .int .u16 y.2.1, .int .u16 y.2.2.1, .int .u32 y.2.2.2] hone rfl wq.heap.size rfl (by simp [Act.eval, Act.put]) hk2 (by decide) ?_; intro va vn vcc w7 hown7 hb7 hkp; have hown8 := Lib.hid (hx.out _ _ hown7); have tE := rowIs_of_block (hkp w3.heap.size _ _ bR (by decide)); have tB := kBq.trans hb7; clear hown7 hb7 hkp hx hone bR; have yv7 := tE.cell (i := 0) (by omega); have yf7 := tE.frozen 0; have nE := Lib.hid ((tE.set 0 (.slice va vn vcc)).congr (g := fun _ => .slice va vn vcc) (fun j hj => by (obtain rfl : j = 0 := by omega); simp)); have nB := Lib.hid (tB.setCell (p := ⟨w3.heap.size, 0, none⟩) (Nat.le_refl _) (.slice va vn vcc)); have nO := Lib.hid (own_kept (p := fun q => q = w3.heap.size) hown8.out (⟨rfl, rfl, rfl, by simp, fun q hq hne => Below.heap_setCell _ _ _ _ (by simpa using hne)⟩ : KeptBut (fun q => q = w3.heap.size) w7 (w7.setCell ⟨w3.heap.size, 0, none⟩ (.slice va vn vcc))) (fun q hq cc hcc => by (have := rowIs_block tE); (rw [hq] at hcc); (rw [this] at hcc); cases hcc)); clear tE tB))
          all_goals
            go_wp2_with (fail)
            exact ⟨⟨k + 1, _, by go_num, by omega, by omega, hin2.out, nE.out, nO.out, nB.out⟩, by simp [intOf]; omega⟩
        · have hout : k < l.length → (l.getD k e0).1 ≠ key := fun h e => hgo ⟨h, e⟩
          have hof := Lib.hid (ofKey_part l key m k hso hm.out hmk hkl hin hout)
          have hlen : ((l.drop m).take (k - m)).length ≤ 1000 := by rw [part_len l m k hmk hkl]; omega
          generalize (l.drop m).take (k - m) = F at *
          by_cases hlt : k < l.length
          · have hd : decide ((k : Int) < (l.length : Int)) = true := decide_eq_true (by omega)
            have c0 := (kBr.cell (show (⟨g, k * 4 + 0, none⟩ : Addr).block < w3.heap.size from hg)).trans (hc.out k hlt 0 (by omega))
            have hq : ((l.getD k e0).1 == key) = false := by simpa using hout hlt
            rw [Nat.add_zero] at c0
            clear hout hgo hin hx hkey
            generalize l.getD k e0 = y at *
            simp only [enF] at c0
            go_quiet (fail)
            generalize hwq : wr.drewN _ = wq at *
            have hRq : wq.rowIs w3.heap.size 44 1 (fun _ => vv) := by rw [← hwq]; exact hR.of_block rfl
            have kBq : RowKit.Below w3.heap.size w3 wq := by rw [← hwq]; exact kBr.trans ⟨rfl, rfl, rfl, Nat.le_refl _, fun _ _ => rfl⟩
            have hOq : wq.ownsRow w3.heap.size 51 4 vv F.length (ents F) := by rw [← hwq]; exact own_below hO ⟨rfl, rfl, rfl, Nat.le_refl _, fun _ _ => rfl⟩
            clear hwq hR hO kBr q1 q2 q3 y1 y2 y3
            have yv := hRq.cell (i := 0) (by omega)
            have hsort := Lib.hid (sortOwn_W w3.heap.size w3.heap.size vv F w3 wq hOq hRq hlen kBq (by have := hRq.lt; omega))
            obtain ⟨vs, vl, vc, hvv⟩ : ∃ a n c, vv = .slice a n c := by
              rcases hOq.2 with ⟨hv, _⟩ | ⟨_, _, _, hv, _⟩ <;> exact ⟨_, _, _, hv⟩
            subst hvv
            clear hRq hOq kBq hlen
            go_wp2_with (go_at_call 21; go_loud (refine hsort.out.mono ?_; rintro e w6 ⟨rfl, l', hp, hso', hEn, hR6, hB6⟩); clear hsort yv; have yv6 := hR6.cell (i := 0) (by omega); have hfin := Lib.hid (And.intro hp (And.intro hso' (And.intro hEn hB6))); clear hp hso' hEn hR6 hB6)
            go_ret
            refine ⟨_, rfl, l', hfin.out.2.2.1, by rw [hof.out]; exact hfin.out.1, hfin.out.2.1, ?_⟩
            first | exact kB3.trans (hfin.out.2.2.2.mono hB3) | (rw [hB0]; exact kB3.trans (hfin.out.2.2.2.mono hB3))
          · have hd : decide ((k : Int) < (l.length : Int)) = false := decide_eq_false (by omega)
            clear hout hgo hin hx hkey
            go_quiet (fail)
            generalize hwq : wr.drewN _ = wq at *
            have hRq : wq.rowIs w3.heap.size 44 1 (fun _ => vv) := by rw [← hwq]; exact hR.of_block rfl
            have kBq : RowKit.Below w3.heap.size w3 wq := by rw [← hwq]; exact kBr.trans ⟨rfl, rfl, rfl, Nat.le_refl _, fun _ _ => rfl⟩
            have hOq : wq.ownsRow w3.heap.size 51 4 vv F.length (ents F) := by rw [← hwq]; exact own_below hO ⟨rfl, rfl, rfl, Nat.le_refl _, fun _ _ => rfl⟩
            clear hwq hR hO kBr q1 q2 q3 y1 y2 y3
            have yv := hRq.cell (i := 0) (by omega)
            have hsort := Lib.hid (sortOwn_W w3.heap.size w3.heap.size vv F w3 wq hOq hRq hlen kBq (by have := hRq.lt; omega))
            obtain ⟨vs, vl, vc, hvv⟩ : ∃ a n c, vv = .slice a n c := by
              rcases hOq.2 with ⟨hv, _⟩ | ⟨_, _, _, hv, _⟩ <;> exact ⟨_, _, _, hv⟩
            subst hvv
            clear hRq hOq kBq hlen
            go_wp2_with (go_at_call 21; go_loud (refine hsort.out.mono ?_; rintro e w6 ⟨rfl, l', hp, hso', hEn, hR6, hB6⟩); clear hsort yv; have yv6 := hR6.cell (i := 0) (by omega); have hfin := Lib.hid (And.intro hp (And.intro hso' (And.intro hEn hB6))); clear hp hso' hEn hR6 hB6)
            go_ret
            refine ⟨_, rfl, l', hfin.out.2.2.1, by rw [hof.out]; exact hfin.out.1, hfin.out.2.1, ?_⟩
            first | exact kB3.trans (hfin.out.2.2.2.mono hB3) | (rw [hB0]; exact kB3.trans (hfin.out.2.2.2.mono hB3))
    · have hkey : (l.getD m e0).1 ≠ key := by simpa using hq
      have hof := Lib.hid (hno (.inr ⟨hmn, hkey⟩))
      generalize l.getD m e0 = x at *
      simp only [enF] at c0
      clear hno hE3 hF3 hm hc
      go_quiet (fail)
      go_wp2_with (fail)
      go_ret
      exact ⟨_, rfl, [], ⟨none, 0, rfl, fun h => absurd h (by simp)⟩, by rw [hof.out], fun i j _ hj => absurd hj (by simp), by first | exact kB3.trans ⟨rfl, rfl, rfl, Nat.le_refl _, fun _ _ => rfl⟩ | (rw [hB0]; exact kB3.trans ⟨rfl, rfl, rfl, Nat.le_refl _, fun _ _ => rfl⟩)⟩
  · have hmn2 : m = l.length := by have := hm.1; omega
    have hd : decide ((l.length : Int) ≤ (m : Int)) = true := decide_eq_true (by omega)
    have hof := Lib.hid (hno (.inl hmn2))
    clear hno hE3 hF3 hm
    go_quiet (fail)
    go_wp2_with (fail)
    go_ret
    exact ⟨_, rfl, [], ⟨none, 0, rfl, fun h => absurd h (by simp)⟩, by rw [hof.out], fun i j _ hj => absurd hj (by simp), by first | exact kB3.trans ⟨rfl, rfl, rfl, Nat.le_refl _, fun _ _ => rfl⟩ | (rw [hB0]; exact kB3.trans ⟨rfl, rfl, rfl, Nat.le_refl _, fun _ _ => rfl⟩)⟩
end Go.Proofs.YtpoomblloahahaaDoor
