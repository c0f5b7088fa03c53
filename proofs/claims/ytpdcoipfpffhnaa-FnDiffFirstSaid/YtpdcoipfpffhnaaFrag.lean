/-
  Rows of steps in memory; impl.trailOf. Conditions: none.
-/
import Derived.Test.YtpdcoipfpffhnaaDiff
namespace Go.Proofs.Ytpdcoipfpffhnaa
open Go.ChangeShapes Go.WideShapes Go.ChangeAt Go.RowKit
set_option linter.unusedVariables false
attribute [local go_sem] tay_bool tam_bool tan_bool tay_int tam_int tan_int tay_int8 tam_int8 tan_int8 tay_int16 tam_int16 tan_int16 tay_int32 tam_int32 tan_int32 tay_int64 tam_int64 tan_int64 tay_uint tam_uint tan_uint tay_uint8 tam_uint8 tan_uint8 tay_uint16 tam_uint16 tan_uint16 tay_uint32 tam_uint32 tan_uint32 tay_uint64 tam_uint64 tan_uint64 tay_float32 tam_float32 tan_float32 tay_float64 tam_float64 tan_float64 tay_string tam_string tan_string tay_sl tam_sl tan_sl tay_mp tam_mp tan_mp tay_fil tam_fil tan_fil tay_gint tam_gint tan_gint tay_gfl tam_gfl tan_gfl
def fragL (k : Int) (s : ByteArray) (n : Value) : List Value := [.int .i64 k, .string s, n, .slice none 0 0, .int .i64 0, .int .i64 0, .int .i64 0, .float .f64 0, .string ⟨#[]⟩, .slice none 0 0, .slice none 0 0, .slice none 0 0, .slice none 0 0]
theorem info_frag : (Try.prog.info? 64).map (fun i => (i.zero, i.size, i.bytes)) = some (some (.agg (fragL 0 ⟨#[]⟩ (.slice none 0 0)).toArray), 13, 216) := by kernel_rfl
/-- A step's cells, of a given list of numbers; none: a wildcard. -/
def stepL : Option Step → Value → List Value
  | some (.key k), n => fragL 3 k n
  | some (.idx _), n => fragL 4 ⟨#[]⟩ n
  | none, n => fragL 5 ⟨#[]⟩ n
theorem stepL_len (s : Option Step) (n : Value) : (stepL s n).length = 13 := by
  rcases s with _ | s
  · rfl
  · cases s <;> rfl
/-- The list of numbers of a step. -/
def StepN (w : World) : Option Step → Value → Prop
  | some (.idx i), n => ∃ g cur, n = .slice (some ⟨g, 0, none⟩) 1 1 ∧ w.heap[g]? = some (.cells cur 3 (0, 0)) ∧ cur[0]? = some (.int .i64 i)
  | _, n => n = .slice none 0 0
def fragVals : List (Option Step) → List Value → List Value
  | s :: r, n :: t => stepL s n ++ fragVals r t
  | _, _ => []
theorem fragVals_len : ∀ (ps : List (Option Step)) (ns : List Value), ns.length = ps.length → (fragVals ps ns).length = ps.length * 13
  | [], [], _ => rfl
  | s :: r, n :: t, h => by
    rw [fragVals, List.length_append, stepL_len, fragVals_len r t (by simpa using h), List.length_cons]
    omega
theorem fragVals_get : ∀ (ps : List (Option Step)) (ns : List Value) (i j : Nat) (s : Option Step) (n : Value), ps[i]? = some s → ns[i]? = some n → j < 13 → (fragVals ps ns)[13 * i + j]? = (stepL s n)[j]?
  | [], _, i, j, s, n, h, _, _ => by simp at h
  | _ :: _, [], i, j, s, n, _, h, _ => by simp at h
  | s0 :: r, n0 :: t, 0, j, s, n, h1, h2, h3 => by
    simp at h1 h2
    subst h1 h2
    rw [fragVals, List.getElem?_append_left (by rw [stepL_len]; omega)]
    simp
  | s0 :: r, n0 :: t, i + 1, j, s, n, h1, h2, h3 => by
    rw [fragVals, List.getElem?_append_right (by rw [stepL_len]; omega), stepL_len, show 13 * (i + 1) + j - 13 = 13 * i + j by omega]
    exact fragVals_get r t i j s n (by simpa using h1) (by simpa using h2) h3
theorem fragVals_snoc : ∀ (ps : List (Option Step)) (ns : List Value) (s : Option Step) (n : Value), ns.length = ps.length → fragVals (ps ++ [s]) (ns ++ [n]) = fragVals ps ns ++ stepL s n
  | [], [], s, n, _ => by simp [fragVals]
  | s0 :: r, n0 :: t, s, n, h => by
    simp only [List.cons_append, fragVals]
    rw [fragVals_snoc r t s n (by simpa using h), List.append_assoc]
theorem stepL_one {w : World} {s : Option Step} {n : Value} (h : StepN w s n) : ∀ u ∈ stepL s n, u.oneCell' = true := by
  have hn : n.oneCell' = true := by
    rcases s with _ | s
    · rw [show n = .slice none 0 0 from h]; rfl
    · cases s with
      | idx i => obtain ⟨g, cur, rfl, _⟩ := h; rfl
      | key k => rw [show n = .slice none 0 0 from h]; rfl
  intro u hu
  rcases s with _ | s
  · simp only [stepL, fragL, List.mem_cons, List.not_mem_nil, or_false] at hu
    rcases hu with rfl | rfl | rfl | rfl | rfl | rfl | rfl | rfl | rfl | rfl | rfl | rfl | rfl <;> first | exact hn | rfl
  · cases s <;>
    · simp only [stepL, fragL, List.mem_cons, List.not_mem_nil, or_false] at hu
      rcases hu with rfl | rfl | rfl | rfl | rfl | rfl | rfl | rfl | rfl | rfl | rfl | rfl | rfl <;> first | exact hn | rfl

/-- A row of steps. -/
def FrOwn (w : World) (B : Nat) (v : Value) (ps : List (Option Step)) : Prop := ∃ ns, ns.length = ps.length ∧ w.ownsRow B 64 13 v ps.length (fragVals ps ns) ∧ ∀ (i : Nat) s n, ps[i]? = some s → ns[i]? = some n → StepN w s n
/-- Blocks of steps and of numbers stand. -/
def Keeps (w w' : World) : Prop := ∀ (k : Nat) (cur : Array Value) (T : TypeId) (fr : Nat × Nat), w.heap[k]? = some (Obj.cells cur T fr) → (T = 64 ∨ T = 3) → w'.heap[k]? = w.heap[k]?
theorem Keeps.of_below {w w' : World} (h : Below w.heap.size w w') : Keeps w w' := fun k cur T fr hk _ => h.block k (Array.getElem?_eq_some_iff.1 hk).1
theorem Keeps.trans {w w1 w2 : World} (h : Keeps w w1) (h2 : Keeps w1 w2) : Keeps w w2 := fun k cur T fr hk hT => by
  have h1 := h k cur T fr hk hT
  exact (h2 k cur T fr (h1.trans hk) hT).trans h1
theorem StepN.keep {w w' : World} {s : Option Step} {n : Value} (h : StepN w s n) (hk : Keeps w w') : StepN w' s n := by
  rcases s with _ | s
  · exact h
  · cases s with
    | key k => exact h
    | idx i =>
      obtain ⟨g, cur, h1, h2, h3⟩ := h
      exact ⟨g, cur, h1, (hk g _ _ _ h2 (Or.inr rfl)).trans h2, h3⟩
theorem FrOwn.keep {w w' : World} {B : Nat} {v : Value} {ps : List (Option Step)} (h : FrOwn w B v ps) (hk : Keeps w w') : FrOwn w' B v ps := by
  obtain ⟨ns, hn, ho, hs⟩ := h
  refine ⟨ns, hn, ?_, fun i s n h1 h2 => (hs i s n h1 h2).keep hk⟩
  refine ⟨ho.1, ?_⟩
  rcases ho.2 with h2 | ⟨g, cap, cur, rfl, h1, hb, h2⟩
  · exact Or.inl h2
  · exact Or.inr ⟨g, cap, cur, rfl, h1, (hk g _ _ _ hb (Or.inl rfl)).trans hb, h2⟩
theorem FrOwn.nil (w : World) (B : Nat) : FrOwn w B (.slice none 0 0) [] := ⟨[], rfl, World.ownsRow_nil _ _ _ _, fun i s n h => by simp at h⟩
theorem FrOwn.le {w : World} {B B' : Nat} {v : Value} {ps : List (Option Step)} (h : FrOwn w B v ps) (hB : B' ≤ B) : FrOwn w B' v ps := by
  obtain ⟨ns, hn, ho, hs⟩ := h
  refine ⟨ns, hn, ⟨ho.1, ?_⟩, hs⟩
  rcases ho.2 with h2 | ⟨g, cap, cur, rfl, h1, hb, h2⟩
  · exact Or.inl h2
  · exact Or.inr ⟨g, cap, cur, rfl, by omega, hb, h2⟩
theorem frag_cells (w : World) (cs : Array Value) (t : TypeId) {xs : List Value} (hx : cs.toList = xs) : ∀ j u, xs[j]? = some u → (w.alloc (.cells cs t)).cell? ((⟨w.heap.size, 0, none⟩ : Addr).add j) = some u := by
  intro j u hu
  have e1 : (⟨w.heap.size, 0, none⟩ : Addr).add j = ⟨w.heap.size, j, none⟩ := by unfold Addr.add; split <;> simp_all
  rw [e1]
  have hb := heap_alloc_new w (.cells cs t)
  simp only [World.cell?, hb]
  rw [← hx] at hu
  simpa using hu

/-- A path's steps, the whole as a wildcard. -/
def tof : List Step → List (Option Step)
  | [] => [none]
  | s :: r => some s :: r.map some
def toV : Option Step → Value
  | none => .nilIface
  | some s => s.val
theorem told_tof (p : List Step) : told p = (tof p).map toV := by
  cases p with
  | nil => rfl
  | cons s r =>
    simp only [told, tof, List.map_cons, List.map_map]
    rfl
theorem tof_ne (p : List Step) : tof p ≠ [] := by cases p <;> simp [tof]
end Go.Proofs.Ytpdcoipfpffhnaa
