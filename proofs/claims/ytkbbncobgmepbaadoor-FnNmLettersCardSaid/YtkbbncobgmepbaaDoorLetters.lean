/- The letters of kinds: contracts of the program's functions. -/
import Derived.Test.YtkbbncobgmepbaaDoorBase
import Derived.Test.YtkbbncobgmepbaaDoorLayL
import Derived.Shelf.Strings.CaseAny
import Derived.PlainAid
namespace Go.Proofs.YtkbbncobgmepbaaDoor
open Go.ChangeShapes Go.WideShapes Go.ChangeAt Go.RowKit Go.PlainAid
set_option maxHeartbeats 1000000
set_option linter.unusedVariables false
set_option linter.unusedSimpArgs false

def tx (l : List UInt8) : ByteArray := ⟨l.toArray⟩
theorem tx_size (l : List UInt8) : (tx l).size = l.length := rfl
theorem tx_list (l : List UInt8) : (tx l).toList = l := ByteArray.toList_eq _
attribute [local go_sem] tx_list tx_size
def kindT (c : Int) : Int := if c = 107 then 1 else if c = 113 then 2 else if c = 114 then 3 else if c = 98 then 4 else if c = 110 then 5 else if c = 112 then 6 else 0
theorem kindT_range (c : Int) : 0 ≤ kindT c ∧ kindT c ≤ 6 := by unfold kindT; repeat (split <;> try omega)
theorem fromByte_any (c : Int) (w : World) :
    Calls Tryd.prog 32 #[.int .u8 c] w fun e w' => e = .returned (.int .i8 (kindT c)) ∧ w' = w := by
  go_enter Tryd.func32, Tryd.ntmps32
  go_wp2
  all_goals
    go_ret
    exact ⟨by simp_all [kindT], rfl⟩
theorem implFromByte_any (c : Int) (w : World) :
    Calls Tryd.prog 13 #[.int .u8 c] w fun e w' => e = .returned (.int .i64 (kindT c)) ∧ w' = w := by
  have hk := kindT_range c
  have e1 : IntKind.i64.wrap (kindT c) = kindT c := IntWalk.i64_in _ (by omega)
  go_enter Tryd.func13, Tryd.ntmps13
  go_wp2_with (go_at_call 32; refine (fromByte_any c _).mono ?_; rintro e w' ⟨rfl, rfl⟩)
  go_ret
  exact ⟨rfl, rfl⟩
/-- The first byte of a letter made small. -/
def lowB (b : UInt8) : UInt8 := (Lib.toLowerD [b]).getD 0 0
def kindL (b : UInt8) : Int := kindT ((lowB b).toNat : Int)
theorem low_all : (List.range 256).all (fun n => decide (0 < (Lib.toLowerD [UInt8.ofNat n]).length) && (kindL (UInt8.ofNat n) == (if n = 107 ∨ n = 75 then 1 else if n = 113 ∨ n = 81 then 2 else if n = 114 ∨ n = 82 then 3 else if n = 98 ∨ n = 66 then 4 else if n = 110 ∨ n = 78 then 5 else if n = 112 ∨ n = 80 then 6 else 0 : Int))) = true := by kernel_rfl
theorem low_facts (b : UInt8) : 0 < (Lib.toLowerD [b]).length ∧ kindL b = (if b.toNat = 107 ∨ b.toNat = 75 then 1 else if b.toNat = 113 ∨ b.toNat = 81 then 2 else if b.toNat = 114 ∨ b.toNat = 82 then 3 else if b.toNat = 98 ∨ b.toNat = 66 then 4 else if b.toNat = 110 ∨ b.toNat = 78 then 5 else if b.toNat = 112 ∨ b.toNat = 80 then 6 else 0 : Int) := by
  have h := List.all_eq_true.1 low_all b.toNat (List.mem_range.2 b.toNat_lt)
  simp only [UInt8.ofNat_toNat, Bool.and_eq_true, decide_eq_true_eq, beq_iff_eq] at h
  exact h
structure TabsL (w : World) : Prop where
  case : Lib.CaseVar (ren.g 13) Lib.caseA w
  utf : Lib.Utf8Tabs (ren.g 3) (ren.g 4) w
def kindTxt : List UInt8 → Int
  | [b] => kindL b
  | _ => 0
theorem fromText_any (L : List UInt8) (hL : L.length ≤ 20) (w : World) (hT : TabsL w) :
    Calls Tryd.prog 31 #[.string (tx L)] w fun e w' => e = .returned (.int .i8 (kindTxt L)) ∧ Below w.heap.size w w' := by
  by_cases h1 : L.length = 1
  · obtain ⟨b, rfl⟩ : ∃ b, L = [b] := List.length_eq_one_iff.1 h1
    have hlow := Any.strings_ToLower_any lays_Lays_n159 lays_Builder_Extra (tx [b]) w (by show 1 < _; decide) hT.case hT.utf
    have hlow : Calls Tryd.prog 44 #[.string (tx [b])] w fun e w' => e = .returned (.string (tx (Lib.toLowerD [b]))) ∧ Below w.heap.size w w' := hlow
    have hp := (low_facts b).1
    have hg : ∀ h : 0 < (tx (Lib.toLowerD [b])).size, ((((tx (Lib.toLowerD [b]))[0]'h).toNat : Nat) : Int) = ((lowB b).toNat : Int) := fun h => by
      unfold lowB
      rw [List.getD_eq_getElem?_getD, List.getElem?_eq_getElem hp, Option.getD_some]; rfl
    have hfin : kindTxt [b] = kindT ((lowB b).toNat : Int) := rfl
    replace hlow := Lib.hid hlow
    replace hfin := Lib.hid hfin
    clear hT
    generalize Lib.toLowerD [b] = l at *
    generalize ((lowB b).toNat : Int) = c at *
    go_enter Tryd.func31, Tryd.ntmps31
    go_wp2_with (first
      | (go_at_call 44; refine hlow.out.mono ?_; rintro e w1 ⟨rfl, hb1⟩)
      | (go_at_call 32; refine (fromByte_any c _).mono ?_; rintro e w' ⟨rfl, rfl⟩))
    go_ret
    exact ⟨by rw [hfin.out]; rfl, hb1⟩
  · have hfin : kindTxt L = 0 := by
      match L, h1 with
      | [], _ => rfl
      | _ :: _ :: _, _ => rfl
    have hne : ((L.length : Int) != 1) = true := by simp; omega
    replace hfin := Lib.hid hfin
    go_enter Tryd.func31, Tryd.ntmps31
    go_wp2
    go_ret
    exact ⟨by rw [hfin.out]; rfl, Below.refl _ _⟩
theorem kindTxt_range (L : List UInt8) : 0 ≤ kindTxt L ∧ kindTxt L ≤ 6 := by
  match L with
  | [] => simp [kindTxt]
  | [b] => exact kindT_range _
  | _ :: _ :: _ => simp [kindTxt]
theorem implFromText_any (L : List UInt8) (hL : L.length ≤ 20) (w : World) (hT : TabsL w) :
    Calls Tryd.prog 12 #[.string (tx L)] w fun e w' => e = .returned (.int .i64 (kindTxt L)) ∧ Below w.heap.size w w' := by
  have hk := kindTxt_range L
  have e1 : IntKind.i64.wrap (kindTxt L) = kindTxt L := IntWalk.i64_in _ (by omega)
  have hf := Lib.hid (fromText_any L hL w hT)
  go_enter Tryd.func12, Tryd.ntmps12
  go_wp2_with (go_at_call 31; refine hf.out.mono ?_; rintro e w1 ⟨rfl, hb1⟩)
  go_ret
  exact ⟨rfl, hb1⟩

def small (k : Nat) : UInt8 := [107, 113, 114, 98, 110, 112].getD k 0
def great (k : Nat) : UInt8 := [75, 81, 82, 66, 78, 80].getD k 0
theorem clo_KindLetter (p0 p1 : Addr) (w : World) :
    CallsD Tryd.prog 28 #[.pointer (some p0), .pointer (some p1)] .returning w fun e u' w' => e = .returned (.tuple #[]) ∧ u' = .returning ∧ w' = w := by
  refine callsD_of_wpS Tryd.func28 rfl fun c₀ cs hu => ?_
  apply wpS_seq
  apply wpS_region
  simp [wpOpsS, go_sem, recoverD, hu, Tryd.ntmps28, Exit.thenS]
  refine wpS_cond (t := false) (by simp [Act.eval, Array.replicate]) ?_
  simp only [Bool.false_eq_true, if_false]
  refine wpS_of_wp (wp_skip ?_)
  cases c₀
  simp_all [bodyPostS, results, Tryd.results28]

def laidK (w : World) : World := (w.alloc (.cells #[.string ⟨#[]⟩] 9)).alloc (.cells #[.bool false] 4)
set_option maxRecDepth 100000 in
theorem letter_any (k : Nat) (hk : k < 6) (w : World) :
    Calls Tryd.prog 11 #[.int .i64 ((k : Int) + 1)] w fun e w' => e = .returned (.tuple #[.string (tx [small k]), .bool true]) ∧ Below w.heap.size w w' := by
  have hmf := mkf Tryd.prog
  have hb : Below w.heap.size w (laidK w) := ((Below.refl _ _).alloc (Nat.le_refl _) _).alloc (by simp) _
  have hone : ∀ (v : World) (t : TypeId) (x : Value), (v.alloc (.cells #[x] t)).rowIs v.heap.size t 1 (fun _ => x) := fun v t x => World.rowIs_alloc v #[x] t (fun _ => x) (fun i hi => by obtain rfl : i = 0 := (by simp at hi; omega); rfl)
  have q1 : (laidK w).rowIs w.heap.size 9 1 (fun _ => .string ⟨#[]⟩) := (hone w 9 (.string ⟨#[]⟩)).alloc _
  have q2 : (laidK w).rowIs (w.heap.size + 1) 4 1 (fun _ => .bool false) := by
    have := hone (w.alloc (.cells #[.string ⟨#[]⟩] 9)) 4 (.bool false)
    rwa [World.size_alloc] at this
  have k1 := q1.cell (i := 0) (by omega)
  have k2 := q2.cell (i := 0) (by omega)
  have f1 := q1.frozen 0
  have f2 := q2.frozen 0
  have hb := Lib.hid hb
  have hk' : k = 0 ∨ k = 1 ∨ k = 2 ∨ k = 3 ∨ k = 4 ∨ k = 5 := by omega
  rcases hk' with rfl | rfl | rfl | rfl | rfl | rfl
  all_goals
    go_enter_defers Tryd.func11, Tryd.ntmps11
    go_wp2
    refine leaves_cons (f := 28) (args := #[.pointer (some ⟨w.heap.size, 0, none⟩), .pointer (some ⟨w.heap.size + 1, 0, none⟩)]) (by simp) (by simp [go_sem]) ?_; refine (clo_KindLetter _ _ _).mono ?_; rintro e u' w'' ⟨rfl, rfl, rfl⟩
    simp [Leaves, settle, results, Tryd.results11, asAddr, go_sem]
    refine ⟨rfl, ?_⟩
    exact ((Below.refl _ _).alloc (Nat.le_refl _) _).alloc (by simp) _
end Go.Proofs.YtkbbncobgmepbaaDoor
