/-
  When a target has what a fingerprint has; leaves that are alike; members. No program in sight. Conditions: none.
-/
import Derived.Test.YtpdcoipfpffhnaaGreatPT
namespace Go.Proofs.YtpdcoipfpffhnaaGreat
set_option linter.unusedVariables false

/-- Leaves that are alike. -/
def LAlike (a b : V) : Prop := a.kind = b.kind ∧ (a.kind = 2 ∨ a.kind = 3 → a.n = b.n) ∧ (a.kind = 4 → (FloatKind.f64.format.order a.f b.f == some Ordering.eq) = true) ∧ (a.kind = 5 ∨ a.kind = 6 → a.s = b.s)

inductive Fit : V → V → Prop
  | obj (f t : V) (hf : f.kind = 8) (ht : t.kind = 8) (h : ∀ (i : Nat) k x, f.keys[i]? = some k → f.l[i]? = some x → Fit x (t.member k)) : Fit f t
  | arr (f t : V) (hf : f.kind = 7) (ht : t.kind = 7) (hl : f.l.length = t.l.length) (h : ∀ (i : Nat) x y, f.l[i]? = some x → t.l[i]? = some y → Fit x y) : Fit f t
  | leaf (f t : V) (hf : f.kind ≠ 7) (hf' : f.kind ≠ 8) (h : LAlike f t) : Fit f t

theorem fit_obj {f t : V} (hf : f.kind = 8) : Fit f t ↔ t.kind = 8 ∧ ∀ (i : Nat) k x, f.keys[i]? = some k → f.l[i]? = some x → Fit x (t.member k) := by
  constructor
  · intro h
    cases h with
    | obj _ _ _ ht h => exact ⟨ht, h⟩
    | arr _ _ h => omega
    | leaf _ _ _ h => omega
  · rintro ⟨ht, h⟩; exact .obj f t hf ht h
theorem fit_arr {f t : V} (hf : f.kind = 7) : Fit f t ↔ t.kind = 7 ∧ f.l.length = t.l.length ∧ ∀ (i : Nat) x y, f.l[i]? = some x → t.l[i]? = some y → Fit x y := by
  constructor
  · intro h
    cases h with
    | obj _ _ h => omega
    | arr _ _ _ ht hl h => exact ⟨ht, hl, h⟩
    | leaf _ _ h => omega
  · rintro ⟨ht, hl, h⟩; exact .arr f t hf ht hl h
theorem fit_leaf {f t : V} (h7 : f.kind ≠ 7) (h8 : f.kind ≠ 8) : Fit f t ↔ LAlike f t := by
  constructor
  · intro h
    cases h with
    | obj _ _ h => omega
    | arr _ _ h => omega
    | leaf _ _ _ _ h => exact h
  · intro h; exact .leaf f t h7 h8 h

theorem member_some {v : V} (hd : v.keys.Nodup) (hl : v.keys.length = v.l.length) {i : Nat} {k : ByteArray} {x : V} (hk : v.keys[i]? = some k) (hx : v.l[i]? = some x) : v.member k = x := by
  unfold V.member
  have hi : v.keys.findIdx? (· == k) = some i := by
    rw [List.findIdx?_eq_some_iff_getElem]
    obtain ⟨h1, h2⟩ := List.getElem?_eq_some_iff.1 hk
    refine ⟨h1, by rw [h2]; exact (MapKept.bytes_beq k k).2 rfl, fun j hj => ?_⟩
    intro hc
    have h3 := (MapKept.bytes_beq _ _).1 hc
    have := (List.getElem_inj hd).1 (h3.trans h2.symm)
    omega
  rw [hi]
  simp [List.getD_eq_getElem?_getD, hx]
theorem member_none {v : V} {k : ByteArray} (h : ∀ s ∈ v.keys, s ≠ k) : v.member k = V.null := by
  unfold V.member
  have hi : v.keys.findIdx? (· == k) = none := by
    rw [List.findIdx?_eq_none_iff]
    intro s hs
    cases hc : s == k with
    | false => rfl
    | true => exact absurd ((MapKept.bytes_beq _ _).1 hc) (h s hs)
  rw [hi]

/-- What a map hands out at a key. -/
theorem PT.lookup {w : World} {lo hi : Nat} {v : V} {b : Nat} {cut : Nat → Nat} {ps : List (ByteArray × Value)} (hb : HasMap w b ps) (hkeys : ps.map (·.1) = v.keys) (hn : ps.length = v.l.length) (hlo : lo ≤ b) (hg : b < cut 0) (hhi : cut v.l.length ≤ hi) (hm : ∀ i, i < v.l.length → cut i ≤ cut (i + 1)) (hk : ∀ (i : Nat) x p, v.l[i]? = some x → ps[i]? = some p → PT w (cut i) (cut (i + 1)) x p.2) (k : ByteArray) :
    ∃ z, (Instr.lookup 67 (.map (some b)) (.string k) false).run Tryz.prog w = .ok z w ∧ PT w lo hi (v.member k) z := by
  have hd : v.keys.Nodup := by rw [← hkeys]; exact hb.nodup
  by_cases hin : ∃ z, (k, z) ∈ ps
  · obtain ⟨z, hz⟩ := hin
    refine ⟨z, lookup_has Tryz.underlying67 Tryz.underlying9 hb hz, ?_⟩
    obtain ⟨i, hi'⟩ := List.mem_iff_getElem?.1 hz
    have hil : i < v.l.length := by rw [← hn]; exact (List.getElem?_eq_some_iff.1 hi').1
    obtain ⟨x, hx⟩ := get_lt hil
    have hki : v.keys[i]? = some k := by rw [← hkeys]; simp [hi']
    rw [member_some hd (by rw [← hkeys, List.length_map, hn]) hki hx]
    have hcm := cut_mono hm
    exact (hk i x (k, z) hx hi').mono (by have := hcm 0 i (by omega) (by omega); omega) (by have := hcm (i + 1) v.l.length (by omega) (by omega); omega)
  · have hno : ∀ p ∈ ps, p.1 ≠ k := fun p hp e => hin ⟨p.2, by rw [← e]; exact hp⟩
    refine ⟨.nilIface, lookup_not Tryz.underlying67 Tryz.underlying9 (by kernel_rfl) hb hno, ?_⟩
    rw [member_none (fun s hs => by
      rw [← hkeys] at hs
      obtain ⟨p, hp, rfl⟩ := List.mem_map.1 hs
      exact hno p hp)]
    exact .null _ _ _ rfl
end Go.Proofs.YtpdcoipfpffhnaaGreat
