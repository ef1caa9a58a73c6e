/- The rules' moves, weakly: that the rules' small functions come back, and within which bounds. -/
import Derived.Test.YthdbgjhonnogpaaDoorAtt
import Derived.Test.YthdbgjhonnogpaaDoorReach
namespace Go.Proofs.YthdbgjhonnogpaaDoor
open Go.ChangeShapes Go.WideShapes Go.ChangeAt Go.RowKit Plain
set_option maxHeartbeats 4000000
set_option linter.unusedVariables false
set_option linter.unusedSimpArgs false

/-- A slice of at most n squares. -/
def SqPost (n : Nat) (w : World) (e : Ending) (w' : World) : Prop := ∃ u, e = .returned u ∧ ∃ l : List Nat, (∀ t ∈ l, t < 64) ∧ l.length ≤ n ∧ w'.ownsRow w.heap.size 3 1 u l.length (ints l) ∧ Below w.heap.size w w'
set_option maxRecDepth 100000 in
theorem hop_any (s : Nat) (hs : s < 64) (c : Int) (h0 : 0 ≤ c) (h1 : c ≤ 1) (w : World) :
    Calls Tryd.prog 40 #[.int .i64 (s : Int), .int .i64 c] w fun e w' => SqPost 2 w e w' := by
  have hU : -1 ≤ upI c ∧ upI c ≤ 1 := by unfold upI; omega
  have hup := Lib.hid (up_any c h0 h1)
  generalize upI c = U at *
  go_enter Tryd.func40, Tryd.ntmps40
  go_wp2_with (fail)
  go_loopw [5, 6] (fun out d wr => ∃ (k : Nat) (l : List Nat), k ≤ 2 ∧ d = .int .i64 (2 * (k : Int) - 1) ∧ (∀ t ∈ l, t < 64) ∧ l.length ≤ k ∧ wr.ownsRow w.heap.size 3 1 out l.length (ints l) ∧ Below w.heap.size w wr) (fun _ d _ => (3 - intOf d).toNat)
  case atStart => exact ⟨0, [], by omega, rfl, by simp, by simp, World.ownsRow_nil _ _ _ _, Below.refl _ _⟩
  case round =>
    obtain ⟨k, l, hk, rfl, hl, hlen, ho, hb⟩ := hrel
    by_cases hlt : k < 2
    · have hw1 : -1000 ≤ (s : Int) % 8 + (2 * (k : Int) - 1) ∧ (s : Int) % 8 + (2 * (k : Int) - 1) ≤ 1000 := by omega
      have hw2 : -1000 ≤ (s : Int) / 8 + U ∧ (s : Int) / 8 + U ≤ 1000 := by omega
      have hd : decide ((2 * (k : Int) - 1) ≤ 1) = true := decide_eq_true (by omega)
      go_upto_region 6 with (first
        | (go_at_call 24; refine (file_any _ (by omega) (by omega) _).mono ?_; rintro e w' ⟨rfl, rfl⟩)
        | (go_at_call 8; refine (rank_any _ (by omega) (by omega) _).mono ?_; rintro e w' ⟨rfl, rfl⟩)
        | (go_at_call 39; refine (hup.out _).mono ?_; rintro e w' ⟨rfl, rfl⟩)
        | (go_at_call 23; refine (at_any _ _ (by omega) (by omega) (by omega) (by omega) _).mono ?_; rintro e w' ⟨rfl, rfl⟩))
      have hr := atOf_range ((s : Int) % 8 + (2 * (k : Int) - 1)) ((s : Int) / 8 + U)
      generalize atOf ((s : Int) % 8 + (2 * (k : Int) - 1)) ((s : Int) / 8 + U) = T at *
      clear hw1 hw2 hd hup hU
      by_cases hT : T < 0
      · have hd : decide ((0 : Int) ≤ T) = false := decide_eq_false (by omega)
        go_wp2_with (fail)
        exact ⟨⟨k + 1, l, by omega, by go_num, hl, by omega, ho, hb⟩, by simp [intOf]; omega⟩
      · obtain ⟨t, rfl⟩ : ∃ t : Nat, T = t := ⟨T.toNat, by omega⟩
        have hd : decide ((0 : Int) ≤ (t : Int)) = true := decide_eq_true (by omega)
        have hl2 : ∀ x ∈ l ++ [t], x < 64 := by
          intro x hx
          rcases List.mem_append.1 hx with hx | hx
          · exact hl x hx
          · simp at hx; omega
        replace hl2 := Lib.hid hl2
        go_wp2_with (at_builtin; refine wpList_app rfl _ _ 32 rfl w.heap.size 3 (.int .i64 0) 1 8 Tryd.underlying32 infoInt rfl (by decide) _ l.length (ints l) rfl ho hb (Nat.le_refl _) [.int .i64 (t : Int)] (one_int _) rfl _ rfl rfl (by omega) (by decide) ?_; intro v' w2 hown2 hbo3 hnil; have hown3 : w2.ownsRow w.heap.size 3 1 v' (l ++ [t]).length (ints (l ++ [t])) := (by simpa [ints] using hown2); replace hown3 := Lib.hid hown3; replace hbo3 := Lib.hid hbo3; clear hown2 hnil)
        exact ⟨⟨k + 1, l ++ [t], by omega, by go_num, hl2.out, by simp; omega, hown3.out, hbo3.out⟩, by simp [intOf]; omega⟩
    · obtain rfl : k = 2 := by omega
      go_wp2_with (fail)
      go_ret
      exact ⟨_, rfl, l, hl, hlen, ho, hb⟩
end Go.Proofs.YthdbgjhonnogpaaDoor
