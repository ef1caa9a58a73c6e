/- Whole rows of memory (arrays, structs) as functions of the place. -/
import Derived.Test.YtlcdhahnngfjhaaDoorBase
import Derived.Deep.MidRow
namespace Go.Proofs.YtlcdhahnngfjhaaDoor
open Go.ChangeShapes Go.WideShapes Go.ChangeAt Go.RowKit

/-- The row of n cells that f tells. -/
def rowArr (n : Nat) (f : Nat → Value) : Array Value := ((List.range n).map f).toArray
theorem rowArr_size (n : Nat) (f : Nat → Value) : (rowArr n f).size = n := by simp [rowArr]
theorem rowArr_get (n : Nat) (f : Nat → Value) (i : Nat) (h : i < n) : (rowArr n f)[i]? = some (f i) := by simp [rowArr, h]
theorem rowArr_eq {n : Nat} {f : Nat → Value} {c : Array Value} (hs : c.size = n) (h : ∀ i, i < n → c[i]? = some (f i)) : c = rowArr n f := by
  apply Array.ext_getElem?
  intro i
  by_cases hi : i < n
  · rw [h i hi, rowArr_get n f i hi]
  · rw [Array.getElem?_eq_none (by omega), Array.getElem?_eq_none (by rw [rowArr_size]; omega)]
theorem rowArr_congr {n : Nat} {f g : Nat → Value} (h : ∀ i, i < n → f i = g i) : rowArr n f = rowArr n g :=
  rowArr_eq (rowArr_size n f) fun i hi => by rw [rowArr_get n f i hi, h i hi]
theorem rowIs_block {w : World} {b : Nat} {t : TypeId} {n : Nat} {f : Nat → Value} (h : w.rowIs b t n f) : w.heap[b]? = some (.cells (rowArr n f) t (0, 0)) := by
  obtain ⟨c, hb, hn, hc⟩ := h
  rw [hb, rowArr_eq hn hc]
theorem rowIs_of_block {w : World} {b : Nat} {t : TypeId} {n : Nat} {f : Nat → Value} (h : w.heap[b]? = some (.cells (rowArr n f) t (0, 0))) : w.rowIs b t n f :=
  ⟨_, h, rowArr_size n f, fun i hi => rowArr_get n f i hi⟩
theorem rowIs_new (w : World) (t : TypeId) (n : Nat) (f : Nat → Value) : (w.alloc (.cells (rowArr n f) t)).rowIs w.heap.size t n f := by
  have := World.rowIs_alloc w (rowArr n f) t f (fun i hi => rowArr_get n f i (by rwa [rowArr_size] at hi))
  rwa [rowArr_size] at this
theorem rowIs_below {w w' : World} {B b : Nat} {t : TypeId} {n : Nat} {f : Nat → Value} (h : w.rowIs b t n f) (hb : Below B w w') (hB : b < B) : w'.rowIs b t n f := h.of_block (hb.block b hB)
theorem rowIs_setRow {w : World} {b : Nat} {t : TypeId} {n : Nat} {f : Nat → Value} (h : w.rowIs b t n f) (g : Nat → Value) : (w.setRow b (rowArr n g)).rowIs b t n g :=
  rowIs_of_block (setRow_heap w b _ _ t (0, 0) (rowIs_block h))
theorem rowIs_setRow_other {w : World} {b b' : Nat} {t : TypeId} {n : Nat} {f : Nat → Value} (h : w.rowIs b t n f) (hne : b ≠ b') (cs : Array Value) : (w.setRow b' cs).rowIs b t n f :=
  h.of_block (setRow_other w b' b cs hne)
theorem below_setRow {B g : Nat} {w0 w : World} (hb : Below B w0 w) (hBg : B ≤ g) (cs : Array Value) : Below B w0 (w.setRow g cs) :=
  hb.trans ⟨rfl, rfl, rfl, by simp, fun k hk => setRow_other w g k cs (by omega)⟩

/-- 'append(v, x)' of one element (of size cells, laid in a new block ahead) onto a slice of the call's own. -/
theorem wpList_app {P : Program} {ops : Array Oper} {rest : List Oper} {o : Oper} {a : Act} {Q : Exit → Act → World → Prop} (hgd : o.guard = none) (s x : Operand) (t : TypeId)
    (ho : o.op = .call { callee := .builtin .append, args := #[s, x], argTypes := #[t, t] })
    (base : Nat) (e : TypeId) (z : Value) (size bytes : Nat) (ht : P.underlying t = some (.slice e)) (hinfo : (P.info? e).map (fun i => (i.zero, i.size, i.bytes)) = some (some z, size, bytes)) (hzs : z.cells.size = size) (hsz : 0 < size)
    (v : Value) (n : Nat) (xs : List Value) (hs : a.eval s = v) {w0 w : World} (hown : w.ownsRow base e size v n xs) (hb : Below base w0 w) (hbase : base ≤ w0.heap.size)
    (us : List Value) (hu : ∀ u ∈ us, u.oneCell' = true) (hl : us.length = size) (g : Nat) (hg : g = w.heap.size) (hx : a.eval x = .slice (some ⟨g, 0, none⟩) 1 1) (hn : n < 1000000000) (hby : bytes ≤ 10000)
    (h : ∀ v' w', w'.ownsRow base e size v' (n + 1) (xs ++ us) → Below base w0 w' → v' ≠ .slice none 0 0 → wpList P ops Q rest (a.put o.dst v') w') : wpList P ops Q (o :: rest) a (w.alloc (.cells us.toArray e)) := by
  obtain ⟨i0, hi, hz0, hz1, hz2⟩ := info_parts hinfo
  have hmul : (n + 1) * bytes ≤ 140737488355328 := by
    have : (n + 1) * bytes ≤ 1000000000 * 10000 := Nat.mul_le_mul (by omega) hby
    omega
  refine wpList_append_own _ hgd s x t ho base e i0 z size bytes ht hi hz0 hz1 hz2 hzs hsz v n xs hs (hown.alloc _) ⟨g, 0, none⟩ 1 1 us hx (by omega) (fun j u hj => cells_new hg j u (by simpa using hj)) hu (by unfold maxLen; omega) hmul (by have := hb.size; simp; omega) ?_
  intro v' w' hown' hgrow hnil
  refine h v' w' hown' ((hb.alloc (by have := hb.size; omega) _).grown hgrow (by have := hb.size; simp; omega) (fun r hr => (hown.lt r hr).1)) ?_
  intro e
  have := hnil.1 e
  omega

/-- A row of ints. -/
def intRow (n : Nat) (g : Nat → Int) : Value := .agg (rowArr n fun i => .int .i64 (g i))
theorem intRow_one (n : Nat) (g : Nat → Int) : (rowArr n fun i => Value.int .i64 (g i)).all (·.oneCell') = true := by
  rw [Array.all_eq_true_iff_forall_mem]
  intro v hv
  simp only [rowArr, List.mem_toArray, List.mem_map] at hv
  obtain ⟨i, _, rfl⟩ := hv
  rfl
end Go.Proofs.YtlcdhahnngfjhaaDoor
