/- The source of bytes: sixteen of them are read. -/
import Derived.Test.YtpoomblloahahaaGreatDoorPbD
import Derived.Deep.RegionLaw
namespace Go.Proofs.YtpoomblloahahaaGreatDoor
open Go.ChangeShapes Go.WideShapes Go.ChangeAt Go.RowKit Go.PlainAid
set_option maxHeartbeats 1000000
set_option linter.unusedVariables false
set_option linter.unusedSimpArgs false

/-- The world is as it was but for some blocks. -/
def KeptBut (p : Nat → Prop) (w w' : World) : Prop := w'.os = w.os ∧ w'.tape = w.tape ∧ w'.output = w.output ∧ w.heap.size ≤ w'.heap.size ∧ ∀ k, k < w.heap.size → ¬ p k → w'.heap[k]? = w.heap[k]?
theorem KeptBut.below {p : Nat → Prop} {w w' : World} (h : KeptBut p w w') {B : Nat} {w0 : World} (hb : Below B w0 w) (hB : B ≤ w.heap.size) (hp : ∀ k, p k → B ≤ k) : Below B w0 w' := by
  obtain ⟨h1, h2, h3, h4, h5⟩ := h
  exact hb.trans ⟨h1, h2, h3, h4, fun k hk => h5 k (by omega) (fun hpk => by have := hp k hpk; omega)⟩
theorem step_copy_row {P : Program} {ops : Array Oper} {o : Oper} {a : Act} {w : World} {K : Act → World → Prop} {Q : Exit → Act → World → Prop} {E : Prop} (hgd : o.guard = none) (d s : Operand) (dT sT : TypeId)
    (ho : o.op = .call { callee := .builtin .copy, args := #[d, s], argTypes := #[dT, sT] }) (elem : TypeId) (hu : P.underlying dT = some (.slice elem)) (hsz : (P.info? elem).map (·.size) = some 1)
    (g dLen dCap : Nat) (ad : Addr) (sLen sCap : Nat) (hd : a.eval d = .slice (some ⟨g, 0, none⟩) dLen dCap) (hs : a.eval s = .slice (some ad) sLen sCap)
    (cur : Array Value) (t : TypeId) (hg : w.heap[g]? = some (.cells cur t (0, 0))) (cs : List Value) (hn : cs.length = Nat.min sLen dLen)
    (hsrc : ∀ j v, cs[j]? = some v → w.cell? (ad.add j) = some v) (hfit : cs.length = cur.size) (h1 : ∀ v ∈ cs, v.oneCell' = true)
    (h : K (a.put o.dst (goInt cs.length)) (w.setRow g cs.toArray)) :
    if Region.wanted o (yielded ops a.tmps) = true then Oper.wp P o a w K Q else E := by
  have hw : Region.wanted o (yielded ops a.tmps) = true := by simp [Region.wanted, hgd]
  rw [if_pos hw]
  have hrun := run_copy_row (P := P) w dT sT o.type elem g 0 dLen dCap ad sLen sCap cur t cs hu hsz hg hn hsrc (by omega) h1
  have e : (cur.toList.take 0 ++ cs ++ cur.toList.drop (0 + cs.length)) = cs := by
    rw [List.take_zero, List.nil_append, List.drop_eq_nil_of_le (by simp; omega), List.append_nil]
  rw [e] at hrun
  unfold Oper.wp
  simp [execOp, ho, resolve, invoke, builtin, hd, hs, hrun, Result.andThen]
  exact h
/-- Sixteen bytes, as a row's cells. -/
def by16 (L : List UInt8) (q : Nat) : List Value := (List.range 16).map fun j => .int .u8 (byI L (q + j))
theorem by16_get (L : List UInt8) (q j : Nat) (h : j < 16) : (by16 L q)[j]? = some (.int .u8 (byI L (q + j))) := by simp [by16, h]
theorem by16_one (L : List UInt8) (q : Nat) : ∀ v ∈ by16 L q, v.oneCell' = true := by
  intro v hv
  simp only [by16, List.mem_map] at hv
  obtain ⟨j, _, rfl⟩ := hv
  rfl
theorem info1 : (Tryz.prog.info? 5).map (·.size) = some 1 := by kernel_rfl
set_option maxRecDepth 100000 in
theorem read_some (s g o c g2 c2 q : Nat) (L : List UInt8) (F : Nat → Value) (W : World) (hq : q + 16 ≤ L.length) (hL : L.length ≤ 1000) (hs : W.rowIs s 80 2 (srcF (.slice (some ⟨g, o, none⟩) L.length c) (q : Int)))
    (h2 : W.rowIs g2 5 16 F) (hd : ∀ i, i < L.length → W.cell? ⟨g, o + i, none⟩ = some (.int .u8 (byI L i))) (hcap : L.length ≤ c) (hne : s ≠ g2) :
    Calls Tryz.prog 120 #[.pointer (some ⟨s, 0, none⟩), .slice (some ⟨g2, 0, none⟩) 16 c2] W fun r w' => r = .returned (.tuple #[.int .i64 16, .nilIface]) ∧ w'.rowIs s 80 2 (srcF (.slice (some ⟨g, o, none⟩) L.length c) ((q + 16 : Nat) : Int)) ∧ w'.rowIs g2 5 16 (fun j => .int .u8 (byI L (q + j))) ∧ KeptBut (fun k => k = s ∨ k = g2) W w' := by
  have c0 : W.cell? ⟨s, 0, none⟩ = some (.slice (some ⟨g, o, none⟩) L.length c) := hs.cell (i := 0) (by omega)
  have c1 : W.cell? ⟨s, 1, none⟩ = some (.int .i64 (q : Int)) := hs.cell (i := 1) (by omega)
  have b1 : (0 : Int) ≤ (q : Int) := by omega
  have b2 : (q : Int) ≤ (L.length : Int) := by omega
  have b3 : (q : Int) ≤ (c : Int) := by omega
  have hlt : decide ((L.length : Int) ≤ (q : Int)) = false := by simp; omega
  have hn : (by16 L q).length = Nat.min (L.length - q) 16 := by
    have h1 : (by16 L q).length = 16 := by simp [by16]
    rw [h1]
    exact (Nat.min_eq_right (by omega)).symm
  have hsr : ∀ (n : Nat) (j : Nat) (v : Value), (by16 L q)[j]? = some v → (W.drewN n).drew.cell? ((⟨g, o + q, none⟩ : Addr).add j) = some v := fun n j v hj => by
    have hj16 : j < 16 := by
      have := (List.getElem?_eq_some_iff.1 hj).1
      simpa [by16] using this
    rw [by16_get L q j hj16] at hj
    rw [← hj, show ((⟨g, o + q, none⟩ : Addr).add j) = ⟨g, o + q + j, none⟩ from Addr.add_mid g (o + q) j]
    have := hd (q + j) (by omega)
    rw [← Nat.add_assoc] at this
    exact this
  have hnc : ¬ q = c := by omega
  have hnc2 : ¬ c = q := by omega
  have hl16 : (by16 L q).length = 16 := by simp [by16]
  have hrow := rowIs_block h2
  replace hsr := Lib.hid hsr
  replace hn := Lib.hid hn
  have hW : ∀ n, ((W.drewN n).setRow g2 (by16 L q).toArray).rowIs s 80 2 (srcF (.slice (some ⟨g, o, none⟩) L.length c) (q : Int)) ∧ ((W.drewN n).setRow g2 (by16 L q).toArray).rowIs g2 5 16 (fun j => .int .u8 (byI L (q + j))) ∧ KeptBut (fun k => k = s ∨ k = g2) W ((W.drewN n).setRow g2 (by16 L q).toArray) := fun n => by
    have e : (by16 L q).toArray = rowArr 16 (fun j => .int .u8 (byI L (q + j))) := by
      apply rowArr_eq (by simp [by16])
      intro i hi
      rw [List.getElem?_toArray]
      exact by16_get L q i hi
    rw [e]
    refine ⟨rowIs_setRow_other (hs.of_block rfl) hne _, rowIs_setRow (w := W.drewN n) (f := F) (h2.of_block rfl) _, rfl, rfl, rfl, by simp [World.setRow], fun k hk hp => ?_⟩
    rw [setRow_other _ _ _ _ (fun e => hp (.inr e))]
    rfl
  replace hW := Lib.hid hW
  clear hs h2
  clear hd
  go_enter Tryz.func120, Tryz.ntmps120
  go_wp2_with (fail)
  go_quiet (fail)
  go_wp2_with (fail)
  go_region_law (refine step_copy_row rfl (.tmp 17) (.tmp 26) 22 22 rfl 5 Tryz.underlying22 info1 g2 16 c2 ⟨g, o + q, none⟩ (L.length - q) (c - q) (by simp [Act.eval, Act.put]) (by simp [Act.eval, Act.put, hnc2]) (rowArr 16 F) 5 hrow (by16 L q) hn.out (hsr.out _) (by rw [rowArr_size]; simp [by16]) (by16_one L q) ?_)
  all_goals
    generalize hw3 : World.setRow _ _ _ = w3
    have hw : w3.rowIs s 80 2 (srcF (.slice (some ⟨g, o, none⟩) L.length c) (q : Int)) ∧ w3.rowIs g2 5 16 (fun j => .int .u8 (byI L (q + j))) ∧ KeptBut (fun k => k = s ∨ k = g2) W w3 := by rw [← hw3]; exact hW.out _
    clear hw3 hW hrow c0 c1 hsr hn
    obtain ⟨hs3, hg3, hk3⟩ := hw
    have c1 : w3.cell? ⟨s, 1, none⟩ = some (.int .i64 (q : Int)) := hs3.cell (i := 1) (by omega)
    have cf := hs3.frozen 1
    have hs4 := Lib.hid ((hs3.set 1 (.int .i64 ((q + 16 : Nat) : Int))).congr (g := srcF (.slice (some ⟨g, o, none⟩) L.length c) ((q + 16 : Nat) : Int)) (fun j hj => by (have : j = 0 ∨ j = 1 := (by omega)); rcases this with rfl | rfl <;> rfl))
    have hg4 := Lib.hid (hg3.setOther (a := ⟨s, 1, none⟩) (fun e => hne e.symm) (.int .i64 ((q + 16 : Nat) : Int)))
    have hk4 : KeptBut (fun k => k = s ∨ k = g2) W (w3.setCell ⟨s, 1, none⟩ (.int .i64 ((q + 16 : Nat) : Int))) := ⟨hk3.1, hk3.2.1, hk3.2.2.1, by simpa using hk3.2.2.2.1, fun k hk hp => by
      rw [Below.heap_setCell _ _ _ _ (by simp; exact fun e => hp (.inl e))]; exact hk3.2.2.2.2 k hk hp⟩
    replace hk4 := Lib.hid hk4
    have hcast : ((q + 16 : Nat) : Int) = (q : Int) + 16 := by omega
    rw [hcast] at hs4 hg4 hk4
    replace hcast := Lib.hid hcast
    clear hs3 hg3 hk3
    go_wp2_with (fail)
    go_ret2
    exact ⟨rfl, by rw [hcast.out]; exact hs4.out, hg4.out, hk4.out⟩
end Go.Proofs.YtpoomblloahahaaGreatDoor
