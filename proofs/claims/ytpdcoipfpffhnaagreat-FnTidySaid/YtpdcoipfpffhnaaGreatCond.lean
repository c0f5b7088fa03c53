/-
  bareValue, truth; alt.condMapSet: a member is laid, or left out. Conditions: none.
-/
import Derived.Test.YtpdcoipfpffhnaaGreatTd
import Derived.Test.YtpdcoipfpffhnaaGreatTa5
namespace Go.Proofs.YtpdcoipfpffhnaaGreat
open Go.ChangeShapes Go.WideShapes Go.ChangeAt Go.RowKit
open Go.ChangeMaps (setBlock heap_setBlock_same heap_setBlock_other)
set_option linter.unusedVariables false
set_option linter.unusedSimpArgs false

def RetB (b : Bool) (w : World) (e : Ending) (w' : World) : Prop := e = .returned (.bool b) ∧ Below w.heap.size w w'

set_option maxHeartbeats 1000000 in
theorem bare_raw (k n : Int) (f : Nat) (s : ByteArray) (l : List V) (ks : List ByteArray) (A B : Option Addr) (ca cb : Nat) (w : World) (hk : k = 1 ∨ k = 2 ∨ k = 3 ∨ k = 4 ∨ k = 5 ∨ k = 7 ∨ k = 8) :
    Calls Tryz.prog 25 #[.agg #[.int .i64 k, .int .i64 n, .float .f64 f, .string s, .slice A l.length ca, .slice B ks.length cb]] w (RetB (V.bare ⟨k, n, f, s, l, ks⟩) w) := by
  rcases hk with rfl | rfl | rfl | rfl | rfl | rfl | rfl
  · go_enter Tryz.func25, Tryz.ntmps25
    go_wp2_with fail
    go_ret
    exact ⟨rfl, below_alloc _ _⟩
  · by_cases hn : n = 0
    · subst hn
      go_enter Tryz.func25, Tryz.ntmps25
      go_wp2_with fail
      go_ret
      exact ⟨by simp [V.bare], below_alloc _ _⟩
    · have h1 : (n == 0) = false := beq_eq_false_iff_ne.2 hn
      have hn' := Lib.hid hn
      clear hn
      go_enter Tryz.func25, Tryz.ntmps25
      go_wp2_with fail
      go_ret
      exact ⟨by simp [V.bare, hn'.out], below_alloc _ _⟩
  · by_cases hn : n = 0
    · subst hn
      go_enter Tryz.func25, Tryz.ntmps25
      go_wp2_with fail
      go_ret
      exact ⟨by simp [V.bare], below_alloc _ _⟩
    · have h1 : (n == 0) = false := beq_eq_false_iff_ne.2 hn
      have hn' := Lib.hid hn
      clear hn
      go_enter Tryz.func25, Tryz.ntmps25
      go_wp2_with fail
      go_ret
      exact ⟨by simp [V.bare, hn'.out], below_alloc _ _⟩
  · go_enter Tryz.func25, Tryz.ntmps25
    go_wp2_with fail
    go_ret
    exact ⟨rfl, below_alloc _ _⟩
  · cases h1 : s.toList.isEmpty with
    | true =>
      have h1' := Lib.hid h1
      go_enter Tryz.func25, Tryz.ntmps25
      go_wp2_with fail
      go_ret
      exact ⟨by simp [V.bare, h1'.out], below_alloc _ _⟩
    | false =>
      have h1' := Lib.hid h1
      go_enter Tryz.func25, Tryz.ntmps25
      go_wp2_with fail
      go_ret
      exact ⟨by simp [V.bare, h1'.out], below_alloc _ _⟩
  · by_cases hl : l.length = 0
    · have h1 : ((l.length : Int) == 0) = true := by simp [hl]
      have hl' := Lib.hid hl
      clear hl
      go_enter Tryz.func25, Tryz.ntmps25
      go_wp2_with fail
      go_ret
      exact ⟨by simp [V.bare, hl'.out], below_alloc _ _⟩
    · have h1 : ((l.length : Int) == 0) = false := beq_eq_false_iff_ne.2 (by omega)
      have hl' := Lib.hid hl
      clear hl
      go_enter Tryz.func25, Tryz.ntmps25
      go_wp2_with fail
      go_ret
      exact ⟨by simp [V.bare, hl'.out], below_alloc _ _⟩
  · by_cases hl : l.length = 0
    · have h1 : ((l.length : Int) == 0) = true := by simp [hl]
      have hl' := Lib.hid hl
      clear hl
      go_enter Tryz.func25, Tryz.ntmps25
      go_wp2_with fail
      go_ret
      exact ⟨by simp [V.bare, hl'.out], below_alloc _ _⟩
    · have h1 : ((l.length : Int) == 0) = false := beq_eq_false_iff_ne.2 (by omega)
      have hl' := Lib.hid hl
      clear hl
      go_enter Tryz.func25, Tryz.ntmps25
      go_wp2_with fail
      go_ret
      exact ⟨by simp [V.bare, hl'.out], below_alloc _ _⟩
/-! ### condMapSet -/
attribute [local go_sem] tay_bool tam_bool tan_bool tay_int tam_int tan_int tay_int8 tam_int8 tan_int8 tay_int16 tam_int16 tan_int16 tay_int32 tam_int32 tan_int32 tay_int64 tam_int64 tan_int64 tay_uint tam_uint tan_uint tay_uint8 tam_uint8 tan_uint8 tay_uint16 tam_uint16 tan_uint16 tay_uint32 tam_uint32 tan_uint32 tay_uint64 tam_uint64 tan_uint64 tay_float32 tam_float32 tan_float32 tay_float64 tam_float64 tan_float64 tay_string tam_string tan_string tay_sl tam_sl tan_sl tay_mp tam_mp tan_mp tay_gbool tam_gbool tan_gbool tay_gint tam_gint tan_gint tay_gfl tam_gfl tan_gfl tay_gstr tam_gstr tan_gstr tay_jnum tam_jnum tan_jnum tay_gbig tam_gbig tan_gbig tay_garr tam_garr tan_garr tay_lst tam_lst tan_lst tay_gobj tam_gobj tan_gobj tay_dct tam_dct tan_dct
/-- A member that is left out, or laid. -/
def CondPost (d : Bool) (b : Nat) (ps : List (ByteArray × Value)) (s : ByteArray) (x : Value) (w : World) (e : Ending) (w' : World) : Prop :=
  e = .returned (.tuple #[]) ∧ (d = true → w = w') ∧ (d = false → ∃ o, w' = setBlock w b o ∧ HasMap w' b (ps ++ [(s, x)]))
theorem cond_no {b : Nat} {ps : List (ByteArray × Value)} {s : ByteArray} {x : Value} {w : World} {d : Bool} (h : d = true) : CondPost d b ps s x w (.returned (.tuple #[])) w := by
  subst h
  exact ⟨rfl, fun _ => rfl, fun h' => (by cases h')⟩
theorem cond_yes {b : Nat} {ps : List (ByteArray × Value)} {s : ByteArray} {x : Value} {w : World} {d : Bool} {o : Obj} (h : d = false) (hm : HasMap (setBlock w b o) b (ps ++ [(s, x)])) : CondPost d b ps s x w (.returned (.tuple #[])) (setBlock w b o) := by
  subst h
  exact ⟨rfl, fun h' => (by cases h'), fun _ => ⟨o, rfl, hm⟩⟩

set_option maxRecDepth 100000 in
set_option maxHeartbeats 2000000 in
theorem cond_null (on oe d : Bool) (b op : Nat) (ps : List (ByteArray × Value)) (s : ByteArray) (w : World) (hm : HasMap w b ps) (hs : ∀ p ∈ ps, p.1 ≠ s) (h3 : w.cell? ⟨op, 3, none⟩ = some (.bool on)) (h4 : w.cell? ⟨op, 4, none⟩ = some (.bool oe)) (hd : d = (on || oe)) :
    Calls Tryz.prog 56 #[.map (some b), .string s, .nilIface, .pointer (some ⟨op, 0, none⟩)] w (CondPost d b ps s (.nilIface) w) := by
  obtain ⟨o, hrun, hm2⟩ := update_new (P := Tryz.prog) Tryz.underlying67 Tryz.underlying9 hm (.nilIface) hs
  have hm2' := Lib.hid hm2
  have hd' := Lib.hid hd
  clear hm hs hm2 hd
  cases on
  · cases oe
    · go_enter Tryz.func56, Tryz.ntmps56
      go_wp2_with fail
      go_end0
      exact cond_yes (by rw [hd'.out]; rfl) hm2'.out
    · go_enter Tryz.func56, Tryz.ntmps56
      go_wp2_with fail
      go_end0
      exact cond_no (by rw [hd'.out]; rfl)
  · go_enter Tryz.func56, Tryz.ntmps56
    go_wp2_with fail
    go_end0
    exact cond_no (by rw [hd'.out]; rfl)

set_option maxRecDepth 100000 in
set_option maxHeartbeats 2000000 in
theorem cond_bool (t : Bool) (on oe d : Bool) (b op : Nat) (ps : List (ByteArray × Value)) (s : ByteArray) (w : World) (hm : HasMap w b ps) (hs : ∀ p ∈ ps, p.1 ≠ s) (h3 : w.cell? ⟨op, 3, none⟩ = some (.bool on)) (h4 : w.cell? ⟨op, 4, none⟩ = some (.bool oe)) (hd : d = (oe && !t)) :
    Calls Tryz.prog 56 #[.map (some b), .string s, .iface 4 (.bool t), .pointer (some ⟨op, 0, none⟩)] w (CondPost d b ps s (.iface 4 (.bool t)) w) := by
  obtain ⟨o, hrun, hm2⟩ := update_new (P := Tryz.prog) Tryz.underlying67 Tryz.underlying9 hm (.iface 4 (.bool t)) hs
  have hm2' := Lib.hid hm2
  have hd' := Lib.hid hd
  clear hm hs hm2 hd
  cases oe
  · go_enter Tryz.func56, Tryz.ntmps56
    go_wp2_with fail
    go_end0
    exact cond_yes (by rw [hd'.out]; rfl) hm2'.out
  · cases t
    · go_enter Tryz.func56, Tryz.ntmps56
      go_wp2_with fail
      go_end0
      exact cond_no (by rw [hd'.out]; rfl)
    · go_enter Tryz.func56, Tryz.ntmps56
      go_wp2_with fail
      go_end0
      exact cond_yes (by rw [hd'.out]; rfl) hm2'.out

set_option maxRecDepth 100000 in
set_option maxHeartbeats 2000000 in
theorem cond_int (n : Int) (on oe d : Bool) (b op : Nat) (ps : List (ByteArray × Value)) (s : ByteArray) (w : World) (hm : HasMap w b ps) (hs : ∀ p ∈ ps, p.1 ≠ s) (h3 : w.cell? ⟨op, 3, none⟩ = some (.bool on)) (h4 : w.cell? ⟨op, 4, none⟩ = some (.bool oe)) (hd : d = (oe && (n == 0))) :
    Calls Tryz.prog 56 #[.map (some b), .string s, .iface 2 (.int .i64 n), .pointer (some ⟨op, 0, none⟩)] w (CondPost d b ps s (.iface 2 (.int .i64 n)) w) := by
  obtain ⟨o, hrun, hm2⟩ := update_new (P := Tryz.prog) Tryz.underlying67 Tryz.underlying9 hm (.iface 2 (.int .i64 n)) hs
  have hm2' := Lib.hid hm2
  have hd' := Lib.hid hd
  clear hm hs hm2 hd
  cases oe
  · go_enter Tryz.func56, Tryz.ntmps56
    go_wp2_with fail
    go_end0
    exact cond_yes (by rw [hd'.out]; rfl) hm2'.out
  · cases ht : (n == 0) with
    | true =>
      have ht' := Lib.hid ht
      go_enter Tryz.func56, Tryz.ntmps56
      go_wp2_with fail
      go_end0
      exact cond_no (by rw [hd'.out]; simp [ht'.out])
    | false =>
      have ht' := Lib.hid ht
      go_enter Tryz.func56, Tryz.ntmps56
      go_wp2_with fail
      go_end0
      exact cond_yes (by rw [hd'.out]; simp [ht'.out]) hm2'.out

set_option maxRecDepth 100000 in
set_option maxHeartbeats 2000000 in
theorem cond_str (t : ByteArray) (on oe d : Bool) (b op : Nat) (ps : List (ByteArray × Value)) (s : ByteArray) (w : World) (hm : HasMap w b ps) (hs : ∀ p ∈ ps, p.1 ≠ s) (h3 : w.cell? ⟨op, 3, none⟩ = some (.bool on)) (h4 : w.cell? ⟨op, 4, none⟩ = some (.bool oe)) (hd : d = (oe && ((t.size : Int) == 0))) :
    Calls Tryz.prog 56 #[.map (some b), .string s, .iface 9 (.string t), .pointer (some ⟨op, 0, none⟩)] w (CondPost d b ps s (.iface 9 (.string t)) w) := by
  obtain ⟨o, hrun, hm2⟩ := update_new (P := Tryz.prog) Tryz.underlying67 Tryz.underlying9 hm (.iface 9 (.string t)) hs
  have hm2' := Lib.hid hm2
  have hd' := Lib.hid hd
  clear hm hs hm2 hd
  cases oe
  · go_enter Tryz.func56, Tryz.ntmps56
    go_wp2_with fail
    go_end0
    exact cond_yes (by rw [hd'.out]; rfl) hm2'.out
  · cases ht : ((t.size : Int) == 0) with
    | true =>
      have ht' := Lib.hid ht
      go_enter Tryz.func56, Tryz.ntmps56
      go_wp2_with fail
      go_end0
      exact cond_no (by rw [hd'.out]; simp [ht'.out])
    | false =>
      have ht' := Lib.hid ht
      go_enter Tryz.func56, Tryz.ntmps56
      go_wp2_with fail
      go_end0
      exact cond_yes (by rw [hd'.out]; simp [ht'.out]) hm2'.out

set_option maxRecDepth 100000 in
set_option maxHeartbeats 2000000 in
theorem cond_arr (A : Option Addr) (n c : Nat) (on oe d : Bool) (b op : Nat) (ps : List (ByteArray × Value)) (s : ByteArray) (w : World) (hm : HasMap w b ps) (hs : ∀ p ∈ ps, p.1 ≠ s) (h3 : w.cell? ⟨op, 3, none⟩ = some (.bool on)) (h4 : w.cell? ⟨op, 4, none⟩ = some (.bool oe)) (hd : d = (oe && ((n : Int) == 0))) :
    Calls Tryz.prog 56 #[.map (some b), .string s, .iface 57 (.slice A n c), .pointer (some ⟨op, 0, none⟩)] w (CondPost d b ps s (.iface 57 (.slice A n c)) w) := by
  obtain ⟨o, hrun, hm2⟩ := update_new (P := Tryz.prog) Tryz.underlying67 Tryz.underlying9 hm (.iface 57 (.slice A n c)) hs
  have hm2' := Lib.hid hm2
  have hd' := Lib.hid hd
  clear hm hs hm2 hd
  cases oe
  · go_enter Tryz.func56, Tryz.ntmps56
    go_wp2_with fail
    go_end0
    exact cond_yes (by rw [hd'.out]; rfl) hm2'.out
  · cases ht : ((n : Int) == 0) with
    | true =>
      have ht' := Lib.hid ht
      go_enter Tryz.func56, Tryz.ntmps56
      go_wp2_with fail
      go_end0
      exact cond_no (by rw [hd'.out]; simp [ht'.out])
    | false =>
      have ht' := Lib.hid ht
      go_enter Tryz.func56, Tryz.ntmps56
      go_wp2_with fail
      go_end0
      exact cond_yes (by rw [hd'.out]; simp [ht'.out]) hm2'.out

theorem run_len_map {P : Program} {t k e : TypeId} (ht : P.underlying t = some (.map k e)) (ty : TypeId) {w : World} {g : Nat} {es : Array MapEntry} {clock : Nat} (hb : w.heap[g]? = some (.map es clock)) :
    (Builtin.len_ #[t] ty #[.map (some g)]).run P w = .ok (.int .i64 es.size) w := by
  simp [Builtin.len_, run_underlying ht, MapKept.run_getObj_map hb, Result.andThen, goInt]

set_option maxRecDepth 100000 in
set_option maxHeartbeats 2000000 in
theorem cond_obj (g : Nat) (es : Array MapEntry) (clock : Nat) (on oe d : Bool) (b op : Nat) (ps : List (ByteArray × Value)) (s : ByteArray) (w : World) (hm : HasMap w b ps) (hs : ∀ p ∈ ps, p.1 ≠ s) (h3 : w.cell? ⟨op, 3, none⟩ = some (.bool on)) (h4 : w.cell? ⟨op, 4, none⟩ = some (.bool oe)) (hb : w.heap[g]? = some (.map es clock)) (hd : d = (oe && ((es.size : Int) == 0))) :
    Calls Tryz.prog 56 #[.map (some b), .string s, .iface 67 (.map (some g)), .pointer (some ⟨op, 0, none⟩)] w (CondPost d b ps s (.iface 67 (.map (some g))) w) := by
  have hlen := run_len_map (P := Tryz.prog) Tryz.underlying67 3 hb
  obtain ⟨o, hrun, hm2⟩ := update_new (P := Tryz.prog) Tryz.underlying67 Tryz.underlying9 hm (.iface 67 (.map (some g))) hs
  have hm2' := Lib.hid hm2
  have hd' := Lib.hid hd
  clear hm hs hm2 hd
  cases oe
  · go_enter Tryz.func56, Tryz.ntmps56
    go_wp2_with fail
    go_end0
    exact cond_yes (by rw [hd'.out]; rfl) hm2'.out
  · cases ht : ((es.size : Int) == 0) with
    | true =>
      have ht' := Lib.hid ht
      go_enter Tryz.func56, Tryz.ntmps56
      go_wp2_with fail
      go_end0
      exact cond_no (by rw [hd'.out]; simp [ht'.out])
    | false =>
      have ht' := Lib.hid ht
      go_enter Tryz.func56, Tryz.ntmps56
      go_wp2_with fail
      go_end0
      exact cond_yes (by rw [hd'.out]; simp [ht'.out]) hm2'.out

set_option maxRecDepth 100000 in
set_option maxHeartbeats 2000000 in
theorem cond_float (f : Nat) (on oe d : Bool) (b op : Nat) (ps : List (ByteArray × Value)) (s : ByteArray) (w : World) (hm : HasMap w b ps) (hs : ∀ p ∈ ps, p.1 ≠ s) (h3 : w.cell? ⟨op, 3, none⟩ = some (.bool on)) (h4 : w.cell? ⟨op, 4, none⟩ = some (.bool oe)) (hd : d = false) :
    Calls Tryz.prog 56 #[.map (some b), .string s, .iface 22 (.float .f64 f), .pointer (some ⟨op, 0, none⟩)] w (CondPost d b ps s (.iface 22 (.float .f64 f)) w) := by
  obtain ⟨o, hrun, hm2⟩ := update_new (P := Tryz.prog) Tryz.underlying67 Tryz.underlying9 hm (.iface 22 (.float .f64 f)) hs
  have hm2' := Lib.hid hm2
  have hd' := Lib.hid hd
  clear hm hs hm2 hd
  go_enter Tryz.func56, Tryz.ntmps56
  go_wp2_with fail
  go_end0
  exact cond_yes (by rw [hd'.out]; try rfl) hm2'.out

theorem size_empty (t : ByteArray) : ((t.size : Int) == 0) = t.toList.isEmpty := by
  rw [ByteArray.toList_eq]
  have h : t.data.toList.length = t.size := data_size t
  cases hl : t.data.toList with
  | nil =>
    rw [hl] at h
    have : t.size = 0 := h.symm
    rw [this]; try rfl
  | cons x r =>
    rw [hl] at h
    have : ¬ t.size = 0 := by rw [← h]; simp
    show _ = false
    exact beq_eq_false_iff_ne.2 (by omega)

theorem condSet_any (v : V) (x : Value) (on oe : Bool) (b op : Nat) (ps : List (ByteArray × Value)) (s : ByteArray) (w : World) {lo hi : Nat} (hx : PT w lo hi v x) (hok : v.kind = 2 → v.n = 0 ∨ v.n = 1) (hm : HasMap w b ps) (hs : ∀ p ∈ ps, p.1 ≠ s) (h3 : w.cell? ⟨op, 3, none⟩ = some (.bool on)) (h4 : w.cell? ⟨op, 4, none⟩ = some (.bool oe)) :
    Calls Tryz.prog 56 #[.map (some b), .string s, x, .pointer (some ⟨op, 0, none⟩)] w (CondPost (v.drop on oe) b ps s x w) := by
  cases hx with
  | null _ _ _ h => exact cond_null on oe _ b op ps s w hm hs h3 h4 (by simp [V.drop, V.bare, h])
  | bool _ _ _ h => exact cond_bool _ on oe _ b op ps s w hm hs h3 h4 (by
      have hn := hok h
      rcases hn with hn | hn <;> simp [V.drop, V.bare, h, hn])
  | int _ _ _ h => exact cond_int _ on oe _ b op ps s w hm hs h3 h4 (by
      simp only [V.drop, V.bare, h]
      by_cases hn : v.n = 0 <;> simp [hn])
  | float _ _ _ h => exact cond_float _ on oe _ b op ps s w hm hs h3 h4 (by simp [V.drop, V.bare, h])
  | str _ _ _ h => exact cond_str _ on oe _ b op ps s w hm hs h3 h4 (by rw [size_empty]; simp [V.drop, V.bare, h])
  | arr _ _ _ h => exact cond_arr _ _ _ on oe _ b op ps s w hm hs h3 h4 (by
      simp only [V.drop, V.bare, h]
      by_cases hn : v.l.length = 0 <;> simp [hn])
  | obj _ _ _ h g qs cut hlo hg hhi hmm hkeys hn =>
    obtain ⟨es, clock, hb, hst, he⟩ := hmm
    have hsz := he.size
    exact cond_obj g es clock on oe _ b op ps s w hm hs h3 h4 hb (by
      rw [hsz, hn]
      simp only [V.drop, V.bare, h]
      by_cases hn : v.l.length = 0 <;> simp [hn])
end Go.Proofs.YtpdcoipfpffhnaaGreat
