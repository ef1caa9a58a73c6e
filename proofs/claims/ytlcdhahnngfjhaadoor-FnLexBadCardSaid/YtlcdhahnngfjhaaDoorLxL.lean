/- The lexer: impl.Lex. -/
import Derived.Test.YtlcdhahnngfjhaaDoorLxK
namespace Go.Proofs.YtlcdhahnngfjhaaDoor
open Go.Proofs Go.Shelf Go.Lib Go.ChangeShapes Go.WideShapes Go.ChangeAt Go.RowKit Go.PlainAid
set_option maxHeartbeats 2000000
set_option linter.unusedVariables false
set_option linter.unusedSimpArgs false
attribute [local go_sem] tx_list tx_size bt_tx

theorem own_ne3 {B t k n b : Nat} {v : Value} {xs : List Value} {w : World} {cc : Array Value} {T : TypeId} (h : w.ownsRow B t k v n xs) (hb : w.heap[b]? = some (.cells cc T (0, 0))) (hT : T ≠ t) : v.ownBlock ≠ some b := by
  rcases h.2 with ⟨rfl, _⟩ | ⟨g, cap, cur, rfl, _, hg, _⟩
  · intro e; cases e
  · intro e
    have e2 : g = b := by simpa [Value.ownBlock] using e
    subst e2
    rw [hg] at hb
    apply hT
    injection hb with hb
    injection hb with _ hb
    exact hb.symm
/-- As 'wpList_app', at a step of a region that draws. -/
theorem step_app3 {P : Program} {ops : Array Oper} {o : Oper} {a : Act} {K : Act → World → Prop} {Q : Exit → Act → World → Prop} {E : Prop} (hgd : o.guard = none) (s x : Operand) (t : TypeId)
    (ho : o.op = .call { callee := .builtin .append, args := #[s, x], argTypes := #[t, t] })
    (base : Nat) (e : TypeId) (z : Value) (size bytes : Nat) (ht : P.underlying t = some (.slice e)) (hinfo : (P.info? e).map (fun i => (i.zero, i.size, i.bytes)) = some (some z, size, bytes)) (hzs : z.cells.size = size) (hsz : 0 < size)
    (v : Value) (n : Nat) (xs : List Value) (hs : a.eval s = v) {w : World} (hown : w.ownsRow base e size v n xs) (hbase : base ≤ w.heap.size)
    (us : List Value) (hu : ∀ u ∈ us, u.oneCell' = true) (hl : us.length = size) (g : Nat) (hg : g = w.heap.size) (hx : a.eval x = .slice (some ⟨g, 0, none⟩) 1 1) (hn : n < 1000000000) (hby : bytes ≤ 10000)
    (h : ∀ va vn vc w', w'.ownsRow base e size (.slice va vn vc) (n + 1) (xs ++ us) → RowKit.Below base w w' → (∀ (k : Nat) (cc : Array Value) (T : TypeId), w.heap[k]? = some (.cells cc T (0, 0)) → T ≠ e → w'.heap[k]? = some (.cells cc T (0, 0))) → K (a.put o.dst (.slice va vn vc)) w') :
    if Region.wanted o (yielded ops a.tmps) = true then Oper.wp P o a (w.alloc (.cells us.toArray e)) K Q else E := by
  have hw : Region.wanted o (yielded ops a.tmps) = true := by simp [Region.wanted, hgd]
  rw [if_pos hw]
  obtain ⟨i0, hi, hz0, hz1, hz2⟩ := info_parts hinfo
  have hmul : (n + 1) * bytes ≤ 140737488355328 := by
    have : (n + 1) * bytes ≤ 1000000000 * 10000 := Nat.mul_le_mul (by omega) hby
    omega
  have hod : (w.alloc (.cells us.toArray e)).ownsRow base e size v n xs := hown.alloc _
  refine wp_append_own _ s x t ho base e i0 z size bytes ht hi hz0 hz1 hz2 hzs hsz v n xs hs hod ⟨g, 0, none⟩ 1 1 us hx (by omega) (fun j u hj => cells_new hg j u (by simpa using hj)) hu (by unfold maxLen; omega) hmul (by simp; omega) ?_
  intro v' w' hown' hgrow hnil
  obtain ⟨va, vn, vc, rfl⟩ : ∃ a n c, v' = .slice a n c := by
    rcases hown'.2 with ⟨hv, _⟩ | ⟨_, _, _, hv, _⟩ <;> exact ⟨_, _, _, hv⟩
  refine h va vn vc w' hown' (((RowKit.Below.refl base w).alloc hbase _).grown hgrow (by simp; omega) (fun r hr => (hown.lt r hr).1)) (fun k cc T hk hT => ?_)
  have hlt : k < w.heap.size := by
    rcases Nat.lt_or_ge k w.heap.size with h | h
    · exact h
    · rw [Array.getElem?_eq_none h] at hk; cases hk
  have hk2 : (w.alloc (.cells us.toArray e)).heap[k]? = some (.cells cc T (0, 0)) := by rw [heap_alloc_old w _ hlt]; exact hk
  rw [hgrow.block k (by simp; omega) (fun e2 => own_ne3 hod hk2 hT e2.symm)]
  exact hk2
/-- A token as the thin package tells it. -/
def tokX (k : Tk) : X3 := (.int .i64 k.t, .string (tx k.v), .bool k.bad)
theorem infoOut : (Tryd.prog.info? 26).map (fun i => (i.zero, i.size, i.bytes)) = some (some (.agg #[.int .i64 0, .string ⟨#[]⟩, .bool false]), 3, 32) := by kernel_rfl
theorem own3_cells {w : World} {B : Nat} {T : TypeId} {v : Value} {l : List X3} (ho : w.ownsRow B T 3 v l.length (cells3 l)) :
    ∃ a c, v = .slice a l.length c ∧ (0 < l.length → ∃ gq, a = some ⟨gq, 0, none⟩ ∧ B ≤ gq ∧ gq < w.heap.size ∧ ∀ i (h : i < l.length) j, j < 3 → w.cell? ⟨gq, i * 3 + j, none⟩ = some (x3F l[i] j)) := by
  rcases ho.2 with ⟨rfl, hn⟩ | ⟨g, cap, cur, rfl, hB, hg, hr⟩
  · exact ⟨none, 0, by rw [hn], fun h => absurd h (by omega)⟩
  · refine ⟨_, cap, rfl, fun _ => ⟨g, rfl, hB, ?_, fun i h j hj => ?_⟩⟩
    · rcases Nat.lt_or_ge g w.heap.size with h1 | h1
      · exact h1
      · rw [Array.getElem?_eq_none h1] at hg; cases hg
    · rw [ho.cellAt (i * 3 + j) (by omega), cells3_get l i h j hj]
def laidX (w : World) : World := (w.alloc (.cells #[.slice none 0 0] 22)).alloc (.cells #[.bool false] 4)
theorem laidX_facts (w : World) : (laidX w).heap.size = w.heap.size + 2 ∧ (laidX w).rowIs w.heap.size 22 1 (fun _ => .slice none 0 0) ∧ (laidX w).rowIs (w.heap.size + 1) 4 1 (fun _ => .bool false) ∧ Below w.heap.size w (laidX w) := by
  have h1 : (w.alloc (.cells #[.slice none 0 0] 22)).rowIs w.heap.size 22 1 (fun _ => .slice none 0 0) := World.rowIs_alloc w #[.slice none 0 0] 22 (fun _ => .slice none 0 0) (fun i hi => by obtain rfl : i = 0 := (by simp at hi; omega); rfl)
  have h2 := World.rowIs_alloc (w.alloc (.cells #[.slice none 0 0] 22)) #[.bool false] 4 (fun _ => .bool false) (fun i hi => by obtain rfl : i = 0 := (by simp at hi; omega); rfl)
  rw [World.size_alloc] at h2
  exact ⟨by simp [laidX], h1.alloc _, h2, ((Below.refl _ _).alloc (Nat.le_refl _) _).alloc (by simp) _⟩
def LexPost (ks : List Tk) (w : World) (e : Ending) (w' : World) : Prop := ∃ v, e = .returned (.tuple #[v, .bool true]) ∧ w'.ownsRow w.heap.size 26 3 v ks.length (cells3 (ks.map tokX)) ∧ Below w.heap.size w w'
/-- What holds behind k rounds. -/
structure LexR (w w3 : World) (ks : List Tk) (k : Nat) (wr : World) : Prop where
  le : k ≤ ks.length
  row : ∃ vv, wr.rowIs w.heap.size 22 1 (fun _ => vv) ∧ wr.ownsRow w3.heap.size 26 3 vv k (cells3 ((ks.take k).map tokX))
  ok : wr.rowIs (w.heap.size + 1) 4 1 (fun _ => .bool false)
  bel : Below w.heap.size w wr
  siz : w3.heap.size ≤ wr.heap.size
  kep : ∀ b, w.heap.size + 2 ≤ b → b < w3.heap.size → wr.heap[b]? = w3.heap[b]?
/-- What the results' region leaves as it is. -/
def ResX (w : World) (B1 : Nat) (vv : Value) (n : Nat) (xs : List Value) (v : World) : Prop :=
  v.rowIs w.heap.size 22 1 (fun _ => vv) ∧ (∃ z, v.rowIs (w.heap.size + 1) 4 1 (fun _ => .bool z)) ∧ v.ownsRow B1 26 3 vv n xs ∧ Below w.heap.size w v
theorem ResX.drew {w v : World} {B1 n : Nat} {vv : Value} {xs : List Value} (h : ResX w B1 vv n xs v) : ResX w B1 vv n xs v.drew := by
  obtain ⟨h1, ⟨z, h2⟩, h3, h4⟩ := h
  exact ⟨h1.of_block rfl, ⟨z, h2.of_block rfl⟩, own_keep3 h3 ⟨rfl, rfl, rfl, Nat.le_refl _, fun _ _ => rfl⟩, h4.drew⟩
theorem ResX.set1 {w v : World} {B1 n : Nat} {vv : Value} {xs : List Value} (h : ResX w B1 vv n xs v) (hB : w.heap.size + 1 < B1) : ResX w B1 vv n xs (v.setCell ⟨w.heap.size, 0, none⟩ vv) := by
  obtain ⟨h1, ⟨z, h2⟩, h3, h4⟩ := h
  exact ⟨(h1.set 0 vv).congr fun j hj => (by obtain rfl : j = 0 := (by omega); simp), ⟨z, h2.setOther (by simp) _⟩, own_lx (Lx.set v 0 vv) h3 (by omega), h4.setCell (by simp) _⟩
theorem ResX.set2 {w v : World} {B1 n : Nat} {vv : Value} {xs : List Value} (h : ResX w B1 vv n xs v) (hB : w.heap.size + 1 < B1) (b : Bool) : ResX w B1 vv n xs (v.setCell ⟨w.heap.size + 1, 0, none⟩ (.bool b)) := by
  obtain ⟨h1, ⟨z, h2⟩, h3, h4⟩ := h
  exact ⟨h1.setOther (by simp) _, ⟨b, (h2.set 0 (.bool b)).congr fun j hj => (by obtain rfl : j = 0 := (by omega); simp)⟩, own_lx (Lx.set v 0 (.bool b)) h3 (by omega), h4.setCell (by simp) _⟩
theorem ResX.cells {w v : World} {B1 n : Nat} {vv : Value} {xs : List Value} (h : ResX w B1 vv n xs v) : v.cell? ⟨w.heap.size, 0, none⟩ = some vv ∧ (∃ z, v.cell? ⟨w.heap.size + 1, 0, none⟩ = some (.bool z)) ∧ v.frozen? ⟨w.heap.size, 0, none⟩ = false ∧ v.frozen? ⟨w.heap.size + 1, 0, none⟩ = false := by
  obtain ⟨h1, ⟨z, h2⟩, h3, h4⟩ := h
  exact ⟨h1.cell (by omega), ⟨z, h2.cell (by omega)⟩, h1.frozen 0, h2.frozen 0⟩
theorem LexR.below {w w3 wr w' : World} {ks : List Tk} {k : Nat} (h : LexR w w3 ks k wr) (hb : Below wr.heap.size wr w') (hs : w.heap.size + 2 ≤ w3.heap.size) : LexR w w3 ks k w' := by
  obtain ⟨vv, h1, h2⟩ := h.row
  exact ⟨h.le, ⟨vv, rowIs_below h1 hb h1.lt, own_keep3 h2 hb⟩, rowIs_below h.ok hb h.ok.lt, h.bel.trans (hb.mono h.bel.size), Nat.le_trans h.siz hb.size, fun b h3 h4 => (hb.block b (Nat.lt_of_lt_of_le h4 h.siz)).trans (h.kep b h3 h4)⟩
theorem LexR.next {w w3 w5 w7 w8 : World} {ks : List Tk} {k : Nat} (h : LexR w w3 ks k w5) (hlt : k < ks.length) (hb7 : Below w5.heap.size w5 w7) {v' : Value} (hown : w8.ownsRow w3.heap.size 26 3 v' (k + 1) (cells3 ((ks.take k).map tokX) ++ enc3 (tokX ks[k]))) (hb8 : Below w3.heap.size w7 w8) (hs : w.heap.size + 2 ≤ w3.heap.size) :
    LexR w w3 ks (k + 1) (w8.setCell ⟨w.heap.size, 0, none⟩ v') := by
  obtain ⟨vv, h1, h2⟩ := h.row
  have r8 : w8.rowIs w.heap.size 22 1 (fun _ => vv) := (rowIs_below h1 hb7 h1.lt).of_block (hb8.block _ (by omega))
  have o8 : w8.rowIs (w.heap.size + 1) 4 1 (fun _ => .bool false) := (rowIs_below h.ok hb7 h.ok.lt).of_block (hb8.block _ (by omega))
  have e : (ks.take (k + 1)).map tokX = (ks.take k).map tokX ++ [tokX ks[k]] := by rw [List.take_succ_eq_append_getElem hlt, List.map_append]; rfl
  refine ⟨by omega, ⟨v', (r8.set 0 v').congr fun j hj => (by obtain rfl : j = 0 := (by omega); simp), ?_⟩, o8.setOther (by simp) _, ?_, ?_, fun b h3 h4 => ?_⟩
  · rw [e, cells3_app]
    exact own_lx (Lx.set w8 0 v') hown (by omega)
  · exact ((h.bel.trans (hb7.mono h.bel.size)).trans (hb8.mono (by omega))).setCell (Nat.le_refl _) v'
  · have := h.siz; have := hb7.size; have := hb8.size; simp; omega
  · rw [Below.heap_setCell _ _ _ _ (by simp; omega), hb8.block b h4, hb7.block b (Nat.lt_of_lt_of_le h4 h.siz), h.kep b h3 h4]
theorem clo_Lex (p0 p1 : Addr) (w : World) :
    CallsD Tryd.prog 11 #[.pointer (some p0), .pointer (some p1)] .returning w fun e u' w' => e = .returned (.tuple #[]) ∧ u' = .returning ∧ w' = w := by
  refine callsD_of_wpS Tryd.func11 rfl fun c₀ cs hu => ?_
  apply wpS_seq
  apply wpS_region
  simp [wpOpsS, go_sem, recoverD, hu, Tryd.ntmps11, Exit.thenS]
  refine wpS_cond (t := false) (by simp [Act.eval, Array.replicate]) ?_
  simp only [Bool.false_eq_true, if_false]
  refine wpS_of_wp (wp_skip ?_)
  cases c₀
  simp_all [bodyPostS, results, Tryd.results11]

set_option maxRecDepth 100000 in
theorem lex_any (L : List UInt8) (hL : L.length ≤ 1000000) (ks : List Tk) (hks : ks.length ≤ 100000) (hrun : Run L 0 ⟨false, false, false, false⟩ ks) (w : World) (hT : LTabs w) :
    Calls Tryd.prog 5 #[.string (tx L)] w fun e w' => LexPost ks w e w' := by
  have hmf := mkf Tryd.prog
  obtain ⟨hs, hr1, hr2, hb⟩ := laidX_facts w
  have hT1 := hT.below hb (Nat.le_refl _)
  replace hs := Lib.hid hs
  clear hT
  go_enter_defers Tryd.func5, Tryd.ntmps5
  go_upto_region 2 with (fail)
  change Code.wp _ _ _ _ (laidX w)
  generalize laidX w = w1 at *
  have hgc : (w1.alloc (.cells #[.string (tx L)] 44)).cell? ⟨w1.heap.size, 0, none⟩ = some (.string (tx L)) := (row_lit w1 #[.string (tx L)] 44).cell (i := 0) (by simp)
  have hb2 : Below w1.heap.size w1 (w1.alloc (.cells #[.string (tx L)] 44)) := (Below.refl _ _).alloc (Nat.le_refl _) _
  have htk := Lib.hid (tokenize_any L hL ks hks hrun w1.heap.size _ (hT1.below hb2 (Nat.le_refl _)) hgc)
  go_upto_region 3 with (go_at_call 12; refine htk.out.mono ?_; rintro e w3 ⟨l, v, rfl, hall, hown, hb3⟩)
  have hb13 := hb2.trans (hb3.mono hb2.size)
  have hs2 : w.heap.size + 2 ≤ w3.heap.size := by have := hs.out; have := hb13.size; omega
  replace hs2 := Lib.hid hs2
  have hlen := hall.len
  obtain ⟨sa, sc, rfl, hcells⟩ := own3_cells hown
  have hR0 : LexR w w3 ks 0 w3 := ⟨by omega, ⟨_, rowIs_below hr1 hb13 hr1.lt, World.ownsRow_nil _ _ _ _⟩, rowIs_below hr2 hb13 hr2.lt, hb.trans (hb13.mono hb.size), Nat.le_refl _, fun _ _ _ => rfl⟩
  have hcells' : ∀ k (h : k < l.length), ∃ gq, sa = some ⟨gq, 0, none⟩ ∧ w.heap.size + 2 ≤ gq ∧ gq < w3.heap.size ∧ ∀ j, j < 3 → w3.cell? ⟨gq, k * 3 + j, none⟩ = some (x3F l[k] j) := fun k h => by
    obtain ⟨gq, e1, e2, e3, e4⟩ := hcells (by omega)
    exact ⟨gq, e1, by have := hb2.size; have := hs.out; omega, e3, fun j hj => e4 k h j hj⟩
  replace hcells' := Lib.hid hcells'
  replace hR0 := Lib.hid hR0
  replace hall := Lib.hid hall
  clear hown hb3 hb13 hb2 hgc hT1 htk hr1 hr2 hb hcells hrun
  go_wp2_with (fail)
  go_loopw [18] (fun i wr => ∃ k : Nat, i = .int .i64 (k : Int) ∧ LexR w w3 ks k wr) (fun i _ => ks.length - (match i with | .int _ n => n.toNat | _ => 0))
  case atStart => exact ⟨0, rfl, hR0.out⟩
  case round =>
    obtain ⟨k, rfl, hR⟩ := hrel
    by_cases hlt : k < l.length
    · have hlk : k < ks.length := by omega
      have hd : decide ((k : Int) < (l.length : Int)) = true := decide_eq_true (by omega)
      have hkx : (k : Int) < (l.length : Int) := by omega
      obtain ⟨gq, rfl, h1, h2, hc⟩ := hcells'.out k hlt
      have hgk := hR.kep gq h1 h2
      have hX := hall.out.get k hlk hlt
      have e0 : wr.cell? ⟨gq, k * 3, none⟩ = some l[k].1 := by rw [World.cell?_of_block hgk]; exact hc 0 (by omega)
      have e1 : wr.cell? ⟨gq, k * 3 + 1, none⟩ = some l[k].2.1 := by rw [World.cell?_of_block hgk]; exact hc 1 (by omega)
      have e2 : wr.cell? ⟨gq, k * 3 + 2, none⟩ = some l[k].2.2 := by rw [World.cell?_of_block hgk]; exact hc 2 (by omega)
      obtain ⟨hev, hv, ht⟩ := hX
      rw [hv] at e1
      rw [ht] at e2
      generalize l[k].1 = ev at *
      have hnx := Lib.hid (fun (w5 w7 w8 : World) (v' : Value) (a : LexR w w3 ks k w5) (b : Below w5.heap.size w5 w7) (c : w8.ownsRow w3.heap.size 26 3 v' (k + 1) (cells3 ((ks.take k).map tokX) ++ enc3 (tokX ks[k]))) (d : Below w3.heap.size w7 w8) => LexR.next a hlk b c d hs2.out)
      unfold tokX enc3 at hnx
      have hone := Lib.hid (hev.one ks[k].v ks[k].t)
      generalize ks[k].bad = kb at *
      generalize ks[k].v = kv at *
      generalize ks[k].t = kt at *
      clear hv ht hc hcells'
      go_upto_region 6 with (refine wpList_store_mid rfl 47 _ _ rfl wr.heap.size 0 #[ev, .string (tx kv), .int .i64 kt] rfl rfl (rowIs_there (row_lit wr #[.nilIface, .string ⟨#[]⟩, .int .i64 0] 47)) (by kernel_rfl) hone.out ?_)
      have hbw : Below wr.heap.size wr ((wr.alloc (.cells #[.nilIface, .string ⟨#[]⟩, .int .i64 0] 47)).setCells wr.heap.size 0 [ev, .string (tx kv), .int .i64 kt]) := below_setCells (Nat.le_refl _) _ _ _ ((Below.refl _ _).alloc (Nat.le_refl _) _)
      have hrw : ((wr.alloc (.cells #[.nilIface, .string ⟨#[]⟩, .int .i64 0] 47)).setCells wr.heap.size 0 [ev, .string (tx kv), .int .i64 kt]).rowIs wr.heap.size 47 3 (fun j => (#[ev, .string (tx kv), .int .i64 kt] : Array Value).getD j undef) := row_store (row_lit wr #[.nilIface, .string ⟨#[]⟩, .int .i64 0] 47) #[ev, .string (tx kv), .int .i64 kt] rfl
      generalize ((wr.alloc (.cells #[.nilIface, .string ⟨#[]⟩, .int .i64 0] 47)).setCells wr.heap.size 0 [ev, .string (tx kv), .int .i64 kt]) = w5 at *
      have hR5 := hR.below hbw hs2.out
      obtain ⟨vv, hrow, hown⟩ := hR5.row
      have hlw : w.heap.size < w3.heap.size := by have := hs2.out; omega
      have hneb : wr.heap.size ≠ w.heap.size := by have := hR.siz; omega
      have hkl : k < 1000000000 := by omega
      have hrwD := hrw.of_block (w' := w5.drew) rfl
      have hrowD := hrow.of_block (w' := w5.drew) rfl
      have hownD := own_keep3 hown (⟨rfl, rfl, rfl, Nat.le_refl _, fun _ _ => rfl⟩ : Below w5.heap.size w5 w5.drew)
      have hszD : w3.heap.size ≤ w5.drew.heap.size := hR5.siz
      have c0 : w5.cell? ⟨w.heap.size, 0, none⟩ = some vv := hrow.cell (i := 0) (by omega)
      have hcase : (kb = false ∧ ev = .nilIface) ∨ (kb = true ∧ ∃ g, ev = .iface 70 (.pointer (some ⟨g, 0, none⟩))) := by
        unfold ErrV at hev
        cases kb
        · exact .inl ⟨rfl, by simpa using hev⟩
        · exact .inr ⟨rfl, by simpa using hev⟩
      replace hR5 := Lib.hid hR5
      clear hrow hown hR hbw hev hgk e0 e1 e2 hd hkx h1 h2
      rcases hcase with ⟨rfl, rfl⟩ | ⟨rfl, ge, rfl⟩
      · have d0 : w5.cell? ⟨wr.heap.size, 0, none⟩ = some .nilIface := hrw.cell (i := 0) (by omega)
        have d1 : w5.cell? ⟨wr.heap.size, 1, none⟩ = some (.string (tx kv)) := hrw.cell (i := 1) (by omega)
        have d2 : w5.cell? ⟨wr.heap.size, 2, none⟩ = some (.int .i64 kt) := hrw.cell (i := 2) (by omega)
        clear hrw
        refine wp_region_noPanic ?_
        refine wp_region_held_drew (S := fun v => v.cell? ⟨wr.heap.size, 0, none⟩ = some .nilIface ∧ v.cell? ⟨wr.heap.size, 1, none⟩ = some (.string (tx kv)) ∧ v.cell? ⟨wr.heap.size, 2, none⟩ = some (.int .i64 kt)) (by kernel_rfl) ⟨d0, d1, d2⟩ (fun hHeld => ?_)
        (refine wpAnyH_take (i := 1) (v := ?_) rfl (by kernel_rfl) (by kernel_rfl) (by kernel_rfl) (fun _ _ _ h => h) (Or.inl ⟨by rfl, ?_⟩) (by assumption) ?_; rotate_left; · (intro w hSw; go_simp; try with_reducible rfl)); try simp only [List.getElem_toArray, List.getElem_cons_succ, List.getElem_cons_zero, Act.put, List.setIfInBounds_toArray, List.set_cons_zero, List.set_cons_succ]
        (refine wpAnyH_take (i := 2) (v := ?_) rfl (by kernel_rfl) (by kernel_rfl) (by kernel_rfl) (fun _ _ _ h => h) (Or.inl ⟨by rfl, ?_⟩) (by assumption) ?_; rotate_left; · (intro w hSw; go_simp; try with_reducible rfl)); try simp only [List.getElem_toArray, List.getElem_cons_succ, List.getElem_cons_zero, Act.put, List.setIfInBounds_toArray, List.set_cons_zero, List.set_cons_succ]
        (refine wpAnyH_take (i := 3) (v := ?_) rfl (by kernel_rfl) (by kernel_rfl) (by kernel_rfl) (fun _ _ _ h => h) (Or.inl ⟨by rfl, ?_⟩) (by assumption) ?_; rotate_left; · (intro w hSw; go_simp; try with_reducible rfl)); try simp only [List.getElem_toArray, List.getElem_cons_succ, List.getElem_cons_zero, Act.put, List.setIfInBounds_toArray, List.set_cons_zero, List.set_cons_succ]
        (refine wpAnyH_take (i := 4) (v := ?_) rfl (by kernel_rfl) (by kernel_rfl) (by kernel_rfl) (fun _ _ _ h => h) (Or.inl ⟨by rfl, ?_⟩) (by assumption) ?_; rotate_left; · (intro w hSw; go_simp; try with_reducible rfl)); try simp only [List.getElem_toArray, List.getElem_cons_succ, List.getElem_cons_zero, Act.put, List.setIfInBounds_toArray, List.set_cons_zero, List.set_cons_succ]
        (refine wpAnyH_take (i := 5) (v := ?_) rfl (by kernel_rfl) (by kernel_rfl) (by kernel_rfl) (fun _ _ _ h => h) (Or.inl ⟨by rfl, ?_⟩) (by assumption) ?_; rotate_left; · (intro w hSw; go_simp; try with_reducible rfl)); try simp only [List.getElem_toArray, List.getElem_cons_succ, List.getElem_cons_zero, Act.put, List.setIfInBounds_toArray, List.set_cons_zero, List.set_cons_succ]
        (refine wpAnyH_take (i := 6) (v := ?_) rfl (by kernel_rfl) (by kernel_rfl) (by kernel_rfl) (fun _ _ _ h => h) (Or.inl ⟨by rfl, ?_⟩) (by assumption) ?_; rotate_left; · (intro w hSw; go_simp; try with_reducible rfl)); try simp only [List.getElem_toArray, List.getElem_cons_succ, List.getElem_cons_zero, Act.put, List.setIfInBounds_toArray, List.set_cons_zero, List.set_cons_succ]
        (refine wpAnyH_take (i := 7) (v := ?_) rfl (by kernel_rfl) (by kernel_rfl) (by kernel_rfl) (fun _ _ _ h => h) (Or.inl ⟨by rfl, ?_⟩) (by assumption) ?_; rotate_left; · (intro w hSw; go_simp; try with_reducible rfl)); try simp only [List.getElem_toArray, List.getElem_cons_succ, List.getElem_cons_zero, Act.put, List.setIfInBounds_toArray, List.set_cons_zero, List.set_cons_succ]
        (refine wpAnyH_take (i := 8) (v := ?_) rfl (by kernel_rfl) (by kernel_rfl) (by kernel_rfl) (fun _ _ _ h => h) (Or.inl ⟨by rfl, ?_⟩) (by assumption) ?_; rotate_left; · (intro w hSw; go_simp; try with_reducible rfl)); try simp only [List.getElem_toArray, List.getElem_cons_succ, List.getElem_cons_zero, Act.put, List.setIfInBounds_toArray, List.set_cons_zero, List.set_cons_succ]
        refine wpAnyH_ready (rs := [0, 9]) (by kernel_rfl) (by simp) ?_
        refine AllReadyH.cons rfl (fun K hK => ?_) (AllReadyH.cons rfl (fun K hK => ?_) AllReadyH.nil)
        · go_simp
          refine hK.out _ _ (hHeld) (fun hHeld => ?_); clear hK K; try simp only [List.getElem_toArray, List.getElem_cons_succ, List.getElem_cons_zero, Act.put, List.setIfInBounds_toArray, List.set_cons_zero, List.set_cons_succ]
          refine wpAnyH_ready (rs := [9]) (by kernel_rfl) (by simp) ?_; refine AllReadyH.cons rfl (fun K hK => ?_) AllReadyH.nil; go_simp
          have ra := hrwD.alloc (.cells #[.int .i64 kt, .string (tx kv), .bool false] 26)
          refine hK.out _ _ (⟨ra.cell (i := 0) (by omega), ra.cell (i := 1) (by omega), ra.cell (i := 2) (by omega)⟩) (fun hHeld => ?_); clear hK K; try simp only [List.getElem_toArray, List.getElem_cons_succ, List.getElem_cons_zero, Act.put, List.setIfInBounds_toArray, List.set_cons_zero, List.set_cons_succ]
          clear ra
          refine wpAnyH_ready (rs := [10]) (by kernel_rfl) (by simp) ?_
          refine AllReadyH.cons rfl (fun K hK => ?_) AllReadyH.nil
          refine step_app3 rfl (.tmp 22) (.tmp 31) 22 rfl w3.heap.size 26 (.agg #[.int .i64 0, .string ⟨#[]⟩, .bool false]) 3 32 Tryd.underlying22 infoOut rfl (by decide) vv k (cells3 ((ks.take k).map tokX)) (by simp [Act.eval, Act.put]) (w := w5.drew) hownD hszD [.int .i64 kt, .string (tx kv), .bool false] (by simp [Value.oneCell']) rfl w5.drew.heap.size rfl (by simp [Act.eval, Act.put]) hkl (by decide) ?_
          intro va vn vc w8 hown8 hb8 hkp
          have r8 := rowIs_of_block (hkp wr.heap.size _ _ (rowIs_block hrwD) (by decide))
          have rW := rowIs_of_block (hkp w.heap.size _ _ (rowIs_block hrowD) (by decide))
          have hfin := Lib.hid (hnx.out w5 w5.drew w8 (.slice va vn vc) hR5.out ⟨rfl, rfl, rfl, Nat.le_refl _, fun _ _ => rfl⟩ hown8 hb8)
          clear hown8 hb8 hkp
          refine hK.out _ _ ⟨r8.cell (i := 0) (by omega), r8.cell (i := 1) (by omega), r8.cell (i := 2) (by omega)⟩ (fun hHeld2 => ?_)
          clear hK K
          try simp only [List.getElem_toArray, List.getElem_cons_succ, List.getElem_cons_zero, Act.put, List.setIfInBounds_toArray, List.set_cons_zero, List.set_cons_succ]
          have cW : w8.cell? ⟨w.heap.size, 0, none⟩ = some vv := rW.cell (i := 0) (by omega)
          have gW : w8.frozen? ⟨w.heap.size, 0, none⟩ = false := rW.frozen 0
          refine wpAnyH_ready (rs := [11]) (by kernel_rfl) (by simp) ?_; refine AllReadyH.cons rfl (fun K hK => ?_) AllReadyH.nil; go_simp
          have r9 := r8.setOther (a := ⟨w.heap.size, 0, none⟩) hneb (.slice va vn vc)
          refine hK.out _ _ (⟨r9.cell (i := 0) (by omega), r9.cell (i := 1) (by omega), r9.cell (i := 2) (by omega)⟩) (fun hHeld => ?_); clear hK K; try simp only [List.getElem_toArray, List.getElem_cons_succ, List.getElem_cons_zero, Act.put, List.setIfInBounds_toArray, List.set_cons_zero, List.set_cons_succ]
          refine wpAnyH_done (by kernel_rfl) (NoPanic.normal ?_) _
          clear hHeld2 r8 r9 rW cW gW hrwD hrowD hownD
          generalize w8.setCell ⟨w.heap.size, 0, none⟩ (.slice va vn vc) = w9 at *
          go_wp2_with (fail)
          exact ⟨⟨k + 1, by go_num, hfin.out⟩, by simp; omega⟩
        · go_simp
          have ra := hrwD.alloc (.cells #[.int .i64 kt, .string (tx kv), .bool false] 26)
          refine hK.out _ _ (⟨ra.cell (i := 0) (by omega), ra.cell (i := 1) (by omega), ra.cell (i := 2) (by omega)⟩) (fun hHeld => ?_); clear hK K; try simp only [List.getElem_toArray, List.getElem_cons_succ, List.getElem_cons_zero, Act.put, List.setIfInBounds_toArray, List.set_cons_zero, List.set_cons_succ]
          have ca : (w5.alloc (.cells #[.int .i64 kt, .string (tx kv), .bool false] 26)).cell? ⟨w.heap.size, 0, none⟩ = some vv := (hrowD.alloc (.cells #[.int .i64 kt, .string (tx kv), .bool false] 26)).cell (i := 0) (by omega)
          refine wpAnyH_ready (rs := [0]) (by kernel_rfl) (by simp) ?_; refine AllReadyH.cons rfl (fun K hK => ?_) AllReadyH.nil; go_simp
          refine hK.out _ _ (⟨ra.cell (i := 0) (by omega), ra.cell (i := 1) (by omega), ra.cell (i := 2) (by omega)⟩) (fun hHeld => ?_); clear hK K; try simp only [List.getElem_toArray, List.getElem_cons_succ, List.getElem_cons_zero, Act.put, List.setIfInBounds_toArray, List.set_cons_zero, List.set_cons_succ]
          clear ra ca
          refine wpAnyH_ready (rs := [10]) (by kernel_rfl) (by simp) ?_
          refine AllReadyH.cons rfl (fun K hK => ?_) AllReadyH.nil
          refine step_app3 rfl (.tmp 22) (.tmp 31) 22 rfl w3.heap.size 26 (.agg #[.int .i64 0, .string ⟨#[]⟩, .bool false]) 3 32 Tryd.underlying22 infoOut rfl (by decide) vv k (cells3 ((ks.take k).map tokX)) (by simp [Act.eval, Act.put]) (w := w5.drew) hownD hszD [.int .i64 kt, .string (tx kv), .bool false] (by simp [Value.oneCell']) rfl w5.drew.heap.size rfl (by simp [Act.eval, Act.put]) hkl (by decide) ?_
          intro va vn vc w8 hown8 hb8 hkp
          have r8 := rowIs_of_block (hkp wr.heap.size _ _ (rowIs_block hrwD) (by decide))
          have rW := rowIs_of_block (hkp w.heap.size _ _ (rowIs_block hrowD) (by decide))
          have hfin := Lib.hid (hnx.out w5 w5.drew w8 (.slice va vn vc) hR5.out ⟨rfl, rfl, rfl, Nat.le_refl _, fun _ _ => rfl⟩ hown8 hb8)
          clear hown8 hb8 hkp
          refine hK.out _ _ ⟨r8.cell (i := 0) (by omega), r8.cell (i := 1) (by omega), r8.cell (i := 2) (by omega)⟩ (fun hHeld2 => ?_)
          clear hK K
          try simp only [List.getElem_toArray, List.getElem_cons_succ, List.getElem_cons_zero, Act.put, List.setIfInBounds_toArray, List.set_cons_zero, List.set_cons_succ]
          have cW : w8.cell? ⟨w.heap.size, 0, none⟩ = some vv := rW.cell (i := 0) (by omega)
          have gW : w8.frozen? ⟨w.heap.size, 0, none⟩ = false := rW.frozen 0
          refine wpAnyH_ready (rs := [11]) (by kernel_rfl) (by simp) ?_; refine AllReadyH.cons rfl (fun K hK => ?_) AllReadyH.nil; go_simp
          have r9 := r8.setOther (a := ⟨w.heap.size, 0, none⟩) hneb (.slice va vn vc)
          refine hK.out _ _ (⟨r9.cell (i := 0) (by omega), r9.cell (i := 1) (by omega), r9.cell (i := 2) (by omega)⟩) (fun hHeld => ?_); clear hK K; try simp only [List.getElem_toArray, List.getElem_cons_succ, List.getElem_cons_zero, Act.put, List.setIfInBounds_toArray, List.set_cons_zero, List.set_cons_succ]
          refine wpAnyH_done (by kernel_rfl) (NoPanic.normal ?_) _
          clear hHeld2 r8 r9 rW cW gW hrwD hrowD hownD
          generalize w8.setCell ⟨w.heap.size, 0, none⟩ (.slice va vn vc) = w9 at *
          go_wp2_with (fail)
          exact ⟨⟨k + 1, by go_num, hfin.out⟩, by simp; omega⟩
      · have d0 : w5.cell? ⟨wr.heap.size, 0, none⟩ = some (.iface 70 (.pointer (some ⟨ge, 0, none⟩))) := hrw.cell (i := 0) (by omega)
        have d1 : w5.cell? ⟨wr.heap.size, 1, none⟩ = some (.string (tx kv)) := hrw.cell (i := 1) (by omega)
        have d2 : w5.cell? ⟨wr.heap.size, 2, none⟩ = some (.int .i64 kt) := hrw.cell (i := 2) (by omega)
        clear hrw
        refine wp_region_noPanic ?_
        refine wp_region_held_drew (S := fun v => v.cell? ⟨wr.heap.size, 0, none⟩ = some (.iface 70 (.pointer (some ⟨ge, 0, none⟩))) ∧ v.cell? ⟨wr.heap.size, 1, none⟩ = some (.string (tx kv)) ∧ v.cell? ⟨wr.heap.size, 2, none⟩ = some (.int .i64 kt)) (by kernel_rfl) ⟨d0, d1, d2⟩ (fun hHeld => ?_)
        (refine wpAnyH_take (i := 1) (v := ?_) rfl (by kernel_rfl) (by kernel_rfl) (by kernel_rfl) (fun _ _ _ h => h) (Or.inl ⟨by rfl, ?_⟩) (by assumption) ?_; rotate_left; · (intro w hSw; go_simp; try with_reducible rfl)); try simp only [List.getElem_toArray, List.getElem_cons_succ, List.getElem_cons_zero, Act.put, List.setIfInBounds_toArray, List.set_cons_zero, List.set_cons_succ]
        (refine wpAnyH_take (i := 2) (v := ?_) rfl (by kernel_rfl) (by kernel_rfl) (by kernel_rfl) (fun _ _ _ h => h) (Or.inl ⟨by rfl, ?_⟩) (by assumption) ?_; rotate_left; · (intro w hSw; go_simp; try with_reducible rfl)); try simp only [List.getElem_toArray, List.getElem_cons_succ, List.getElem_cons_zero, Act.put, List.setIfInBounds_toArray, List.set_cons_zero, List.set_cons_succ]
        (refine wpAnyH_take (i := 3) (v := ?_) rfl (by kernel_rfl) (by kernel_rfl) (by kernel_rfl) (fun _ _ _ h => h) (Or.inl ⟨by rfl, ?_⟩) (by assumption) ?_; rotate_left; · (intro w hSw; go_simp; try with_reducible rfl)); try simp only [List.getElem_toArray, List.getElem_cons_succ, List.getElem_cons_zero, Act.put, List.setIfInBounds_toArray, List.set_cons_zero, List.set_cons_succ]
        (refine wpAnyH_take (i := 4) (v := ?_) rfl (by kernel_rfl) (by kernel_rfl) (by kernel_rfl) (fun _ _ _ h => h) (Or.inl ⟨by rfl, ?_⟩) (by assumption) ?_; rotate_left; · (intro w hSw; go_simp; try with_reducible rfl)); try simp only [List.getElem_toArray, List.getElem_cons_succ, List.getElem_cons_zero, Act.put, List.setIfInBounds_toArray, List.set_cons_zero, List.set_cons_succ]
        (refine wpAnyH_take (i := 5) (v := ?_) rfl (by kernel_rfl) (by kernel_rfl) (by kernel_rfl) (fun _ _ _ h => h) (Or.inl ⟨by rfl, ?_⟩) (by assumption) ?_; rotate_left; · (intro w hSw; go_simp; try with_reducible rfl)); try simp only [List.getElem_toArray, List.getElem_cons_succ, List.getElem_cons_zero, Act.put, List.setIfInBounds_toArray, List.set_cons_zero, List.set_cons_succ]
        (refine wpAnyH_take (i := 6) (v := ?_) rfl (by kernel_rfl) (by kernel_rfl) (by kernel_rfl) (fun _ _ _ h => h) (Or.inl ⟨by rfl, ?_⟩) (by assumption) ?_; rotate_left; · (intro w hSw; go_simp; try with_reducible rfl)); try simp only [List.getElem_toArray, List.getElem_cons_succ, List.getElem_cons_zero, Act.put, List.setIfInBounds_toArray, List.set_cons_zero, List.set_cons_succ]
        (refine wpAnyH_take (i := 7) (v := ?_) rfl (by kernel_rfl) (by kernel_rfl) (by kernel_rfl) (fun _ _ _ h => h) (Or.inl ⟨by rfl, ?_⟩) (by assumption) ?_; rotate_left; · (intro w hSw; go_simp; try with_reducible rfl)); try simp only [List.getElem_toArray, List.getElem_cons_succ, List.getElem_cons_zero, Act.put, List.setIfInBounds_toArray, List.set_cons_zero, List.set_cons_succ]
        (refine wpAnyH_take (i := 8) (v := ?_) rfl (by kernel_rfl) (by kernel_rfl) (by kernel_rfl) (fun _ _ _ h => h) (Or.inl ⟨by rfl, ?_⟩) (by assumption) ?_; rotate_left; · (intro w hSw; go_simp; try with_reducible rfl)); try simp only [List.getElem_toArray, List.getElem_cons_succ, List.getElem_cons_zero, Act.put, List.setIfInBounds_toArray, List.set_cons_zero, List.set_cons_succ]
        refine wpAnyH_ready (rs := [0, 9]) (by kernel_rfl) (by simp) ?_
        refine AllReadyH.cons rfl (fun K hK => ?_) (AllReadyH.cons rfl (fun K hK => ?_) AllReadyH.nil)
        · go_simp
          refine hK.out _ _ (hHeld) (fun hHeld => ?_); clear hK K; try simp only [List.getElem_toArray, List.getElem_cons_succ, List.getElem_cons_zero, Act.put, List.setIfInBounds_toArray, List.set_cons_zero, List.set_cons_succ]
          refine wpAnyH_ready (rs := [9]) (by kernel_rfl) (by simp) ?_; refine AllReadyH.cons rfl (fun K hK => ?_) AllReadyH.nil; go_simp
          have ra := hrwD.alloc (.cells #[.int .i64 kt, .string (tx kv), .bool true] 26)
          refine hK.out _ _ (⟨ra.cell (i := 0) (by omega), ra.cell (i := 1) (by omega), ra.cell (i := 2) (by omega)⟩) (fun hHeld => ?_); clear hK K; try simp only [List.getElem_toArray, List.getElem_cons_succ, List.getElem_cons_zero, Act.put, List.setIfInBounds_toArray, List.set_cons_zero, List.set_cons_succ]
          clear ra
          refine wpAnyH_ready (rs := [10]) (by kernel_rfl) (by simp) ?_
          refine AllReadyH.cons rfl (fun K hK => ?_) AllReadyH.nil
          refine step_app3 rfl (.tmp 22) (.tmp 31) 22 rfl w3.heap.size 26 (.agg #[.int .i64 0, .string ⟨#[]⟩, .bool false]) 3 32 Tryd.underlying22 infoOut rfl (by decide) vv k (cells3 ((ks.take k).map tokX)) (by simp [Act.eval, Act.put]) (w := w5.drew) hownD hszD [.int .i64 kt, .string (tx kv), .bool true] (by simp [Value.oneCell']) rfl w5.drew.heap.size rfl (by simp [Act.eval, Act.put]) hkl (by decide) ?_
          intro va vn vc w8 hown8 hb8 hkp
          have r8 := rowIs_of_block (hkp wr.heap.size _ _ (rowIs_block hrwD) (by decide))
          have rW := rowIs_of_block (hkp w.heap.size _ _ (rowIs_block hrowD) (by decide))
          have hfin := Lib.hid (hnx.out w5 w5.drew w8 (.slice va vn vc) hR5.out ⟨rfl, rfl, rfl, Nat.le_refl _, fun _ _ => rfl⟩ hown8 hb8)
          clear hown8 hb8 hkp
          refine hK.out _ _ ⟨r8.cell (i := 0) (by omega), r8.cell (i := 1) (by omega), r8.cell (i := 2) (by omega)⟩ (fun hHeld2 => ?_)
          clear hK K
          try simp only [List.getElem_toArray, List.getElem_cons_succ, List.getElem_cons_zero, Act.put, List.setIfInBounds_toArray, List.set_cons_zero, List.set_cons_succ]
          have cW : w8.cell? ⟨w.heap.size, 0, none⟩ = some vv := rW.cell (i := 0) (by omega)
          have gW : w8.frozen? ⟨w.heap.size, 0, none⟩ = false := rW.frozen 0
          refine wpAnyH_ready (rs := [11]) (by kernel_rfl) (by simp) ?_; refine AllReadyH.cons rfl (fun K hK => ?_) AllReadyH.nil; go_simp
          have r9 := r8.setOther (a := ⟨w.heap.size, 0, none⟩) hneb (.slice va vn vc)
          refine hK.out _ _ (⟨r9.cell (i := 0) (by omega), r9.cell (i := 1) (by omega), r9.cell (i := 2) (by omega)⟩) (fun hHeld => ?_); clear hK K; try simp only [List.getElem_toArray, List.getElem_cons_succ, List.getElem_cons_zero, Act.put, List.setIfInBounds_toArray, List.set_cons_zero, List.set_cons_succ]
          refine wpAnyH_done (by kernel_rfl) (NoPanic.normal ?_) _
          clear hHeld2 r8 r9 rW cW gW hrwD hrowD hownD
          generalize w8.setCell ⟨w.heap.size, 0, none⟩ (.slice va vn vc) = w9 at *
          go_wp2_with (fail)
          exact ⟨⟨k + 1, by go_num, hfin.out⟩, by simp; omega⟩
        · go_simp
          have ra := hrwD.alloc (.cells #[.int .i64 kt, .string (tx kv), .bool true] 26)
          refine hK.out _ _ (⟨ra.cell (i := 0) (by omega), ra.cell (i := 1) (by omega), ra.cell (i := 2) (by omega)⟩) (fun hHeld => ?_); clear hK K; try simp only [List.getElem_toArray, List.getElem_cons_succ, List.getElem_cons_zero, Act.put, List.setIfInBounds_toArray, List.set_cons_zero, List.set_cons_succ]
          have ca : (w5.alloc (.cells #[.int .i64 kt, .string (tx kv), .bool true] 26)).cell? ⟨w.heap.size, 0, none⟩ = some vv := (hrowD.alloc (.cells #[.int .i64 kt, .string (tx kv), .bool true] 26)).cell (i := 0) (by omega)
          refine wpAnyH_ready (rs := [0]) (by kernel_rfl) (by simp) ?_; refine AllReadyH.cons rfl (fun K hK => ?_) AllReadyH.nil; go_simp
          refine hK.out _ _ (⟨ra.cell (i := 0) (by omega), ra.cell (i := 1) (by omega), ra.cell (i := 2) (by omega)⟩) (fun hHeld => ?_); clear hK K; try simp only [List.getElem_toArray, List.getElem_cons_succ, List.getElem_cons_zero, Act.put, List.setIfInBounds_toArray, List.set_cons_zero, List.set_cons_succ]
          clear ra ca
          refine wpAnyH_ready (rs := [10]) (by kernel_rfl) (by simp) ?_
          refine AllReadyH.cons rfl (fun K hK => ?_) AllReadyH.nil
          refine step_app3 rfl (.tmp 22) (.tmp 31) 22 rfl w3.heap.size 26 (.agg #[.int .i64 0, .string ⟨#[]⟩, .bool false]) 3 32 Tryd.underlying22 infoOut rfl (by decide) vv k (cells3 ((ks.take k).map tokX)) (by simp [Act.eval, Act.put]) (w := w5.drew) hownD hszD [.int .i64 kt, .string (tx kv), .bool true] (by simp [Value.oneCell']) rfl w5.drew.heap.size rfl (by simp [Act.eval, Act.put]) hkl (by decide) ?_
          intro va vn vc w8 hown8 hb8 hkp
          have r8 := rowIs_of_block (hkp wr.heap.size _ _ (rowIs_block hrwD) (by decide))
          have rW := rowIs_of_block (hkp w.heap.size _ _ (rowIs_block hrowD) (by decide))
          have hfin := Lib.hid (hnx.out w5 w5.drew w8 (.slice va vn vc) hR5.out ⟨rfl, rfl, rfl, Nat.le_refl _, fun _ _ => rfl⟩ hown8 hb8)
          clear hown8 hb8 hkp
          refine hK.out _ _ ⟨r8.cell (i := 0) (by omega), r8.cell (i := 1) (by omega), r8.cell (i := 2) (by omega)⟩ (fun hHeld2 => ?_)
          clear hK K
          try simp only [List.getElem_toArray, List.getElem_cons_succ, List.getElem_cons_zero, Act.put, List.setIfInBounds_toArray, List.set_cons_zero, List.set_cons_succ]
          have cW : w8.cell? ⟨w.heap.size, 0, none⟩ = some vv := rW.cell (i := 0) (by omega)
          have gW : w8.frozen? ⟨w.heap.size, 0, none⟩ = false := rW.frozen 0
          refine wpAnyH_ready (rs := [11]) (by kernel_rfl) (by simp) ?_; refine AllReadyH.cons rfl (fun K hK => ?_) AllReadyH.nil; go_simp
          have r9 := r8.setOther (a := ⟨w.heap.size, 0, none⟩) hneb (.slice va vn vc)
          refine hK.out _ _ (⟨r9.cell (i := 0) (by omega), r9.cell (i := 1) (by omega), r9.cell (i := 2) (by omega)⟩) (fun hHeld => ?_); clear hK K; try simp only [List.getElem_toArray, List.getElem_cons_succ, List.getElem_cons_zero, Act.put, List.setIfInBounds_toArray, List.set_cons_zero, List.set_cons_succ]
          refine wpAnyH_done (by kernel_rfl) (NoPanic.normal ?_) _
          clear hHeld2 r8 r9 rW cW gW hrwD hrowD hownD
          generalize w8.setCell ⟨w.heap.size, 0, none⟩ (.slice va vn vc) = w9 at *
          go_wp2_with (fail)
          exact ⟨⟨k + 1, by go_num, hfin.out⟩, by simp; omega⟩
    · have hke : k = ks.length := by have := hR.le; omega
      subst hke
      have hd : decide ((ks.length : Int) < (l.length : Int)) = false := decide_eq_false (by omega)
      obtain ⟨vv, hrow, hown⟩ := hR.row
      have hXf : ResX w w3.heap.size vv ks.length (cells3 (ks.map tokX)) wr := ⟨hrow, ⟨_, hR.ok⟩, by rw [List.take_length] at hown; exact hown, hR.bel⟩
      have hBB : w.heap.size + 1 < w3.heap.size := by have := hs2.out; omega
      obtain ⟨va, vn, vc, hvv⟩ : ∃ a n c, vv = .slice a n c := by
        rcases hown.2 with ⟨hv, _⟩ | ⟨_, _, _, hv, _⟩ <;> exact ⟨_, _, _, hv⟩
      subst hvv
      replace hXf := Lib.hid hXf
      clear hrow hown hR hcells'
      go_upto_region 8 with (fail)
      refine wp_region_noPanic ?_
      refine wp_region_held_drew (S := ResX w w3.heap.size (.slice va vn vc) ks.length (cells3 (ks.map tokX))) (by kernel_rfl) hXf.out.drew (fun hHeld => ?_)
      clear hXf
      refine wpAnyH_take (i := 0) (v := ?_) rfl (by kernel_rfl) (by kernel_rfl) (by kernel_rfl) (fun _ _ _ h => h) (Or.inl ⟨by rfl, ?_⟩) (by assumption) ?_
      rotate_left
      · (intro w hSw; obtain ⟨c1, _⟩ := hSw.cells; go_simp; try with_reducible rfl)
      try simp only [List.getElem_toArray, List.getElem_cons_succ, List.getElem_cons_zero, Act.put, List.setIfInBounds_toArray, List.set_cons_zero, List.set_cons_succ]
      (refine wpAnyH_take (i := 1) (v := ?_) rfl (by kernel_rfl) (by kernel_rfl) (by kernel_rfl) (fun _ _ _ h => h) (Or.inl ⟨by rfl, ?_⟩) (by assumption) ?_; rotate_left; · (intro w hSw; go_simp; try with_reducible rfl)); try simp only [List.getElem_toArray, List.getElem_cons_succ, List.getElem_cons_zero, Act.put, List.setIfInBounds_toArray, List.set_cons_zero, List.set_cons_succ]
      (refine wpAnyH_take (i := 2) (v := ?_) rfl (by kernel_rfl) (by kernel_rfl) (by kernel_rfl) (fun _ _ _ h => h) (Or.inl ⟨by rfl, ?_⟩) (by assumption) ?_; rotate_left; · (intro w hSw; go_simp; try with_reducible rfl)); try simp only [List.getElem_toArray, List.getElem_cons_succ, List.getElem_cons_zero, Act.put, List.setIfInBounds_toArray, List.set_cons_zero, List.set_cons_succ]
      refine wpAnyH_ready (rs := [3]) (by kernel_rfl) (by simp) ?_
      refine AllReadyH.cons rfl (fun K hK => ?_) AllReadyH.nil
      obtain ⟨c1, ⟨z, c2⟩, g1, g2⟩ := hHeld.cells
      go_simp
      refine hK.out _ _ (hHeld.set1 hBB) (fun hHeld => ?_)
      clear hK K c1 c2 g1 g2
      refine wpAnyH_ready (rs := [4]) (by kernel_rfl) (by simp) ?_
      refine AllReadyH.cons rfl (fun K hK => ?_) AllReadyH.nil
      obtain ⟨c1, ⟨z, c2⟩, g1, g2⟩ := hHeld.cells
      go_simp
      have hlast := World.cell?_setCell_same _ _ (.bool true) c2
      refine hK.out _ _ (hHeld.set2 hBB true) (fun hHeld => ?_)
      clear hK K
      refine wpAnyH_done (by kernel_rfl) (NoPanic.normal ?_) _
      have hB := hHeld.2.2.2
      have hO := own_weak3 hHeld.2.2.1 (show w.heap.size ≤ w3.heap.size by omega)
      obtain ⟨d1, ⟨z', d2⟩, e1, e2⟩ := hHeld.cells
      have hz : some (Value.bool z') = some (Value.bool true) := d2.symm.trans hlast
      obtain rfl : z' = true := by simpa using hz
      clear hz hlast c1 c2 g1 g2
      clear hHeld
      replace hB := Lib.hid hB
      replace hO := Lib.hid hO
      generalize ((wr.setCell ⟨w.heap.size, 0, none⟩ (Value.slice va vn vc)).setCell ⟨w.heap.size + 1, 0, none⟩ (Value.bool true)).drew = wE at *
      go_wp2_with (fail)
      refine leaves_cons (f := 11) (args := #[.pointer (some ⟨w.heap.size, 0, none⟩), .pointer (some ⟨w.heap.size + 1, 0, none⟩)]) (by simp) (by simp [go_sem]) ?_; refine (clo_Lex _ _ _).mono ?_; rintro e u' w'' ⟨rfl, rfl, rfl⟩
      simp [Leaves, settle, results, Tryd.results5, asAddr, go_sem, d1, d2]
      exact ⟨_, rfl, hO.out, hB.out⟩
end Go.Proofs.YtlcdhahnngfjhaaDoor
