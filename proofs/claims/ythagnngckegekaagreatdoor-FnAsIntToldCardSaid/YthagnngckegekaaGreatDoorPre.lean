/-
  prefixIsLessThan: digits stand ahead of a text of digits; the table of leftcheats in memory. Conditions: none.
-/
import Derived.Test.YthagnngckegekaaGreatDoorTrim
namespace Go.Proofs.YthagnngckegekaaGreatDoor
open Go.ChangeShapes Go.WideShapes Go.ChangeAt Go.RowKit
set_option linter.unusedVariables false
set_option linter.unusedSimpArgs false

def bytesN (s : ByteArray) : List Nat := (L s).map UInt8.toNat
theorem bytesN_len (s : ByteArray) : (bytesN s).length = s.size := by simp [bytesN, L_len]
theorem bytesN_get {s : ByteArray} {k : Nat} (h : k < s.size) : (bytesN s)[k]? = some ((s[k]'h).toNat) := by
  rw [bytesN, List.getElem?_map, L_get h]
  rfl
theorem drop_at {α : Type} {l : List α} {k : Nat} {x : α} (h : l[k]? = some x) : l.drop k = x :: l.drop (k + 1) := by
  obtain ⟨h1, h2⟩ := List.getElem?_eq_some_iff.1 h
  rw [List.drop_eq_getElem_cons h1, h2]

theorem dn2 {w : World} (w' : World) (b : Nat) (h : ∃ a, w' = w.drewN a) : ∃ q, w'.drewN b = w.drewN q := by
  obtain ⟨a, rfl⟩ := h
  exact ⟨a + b, by simp [World.drewN, Nat.add_assoc]⟩

set_option maxHeartbeats 4000000 in
theorem prefix_lt' {g n c : Nat} {bs : List Nat} {s : ByteArray} (w : World) (hn : n = bs.length) (hlen : n ≤ 1000000) (hs : s.size ≤ 1000000) (hbs : ∀ i b : Nat, bs[i]? = some b → w.cell? ⟨g, i, none⟩ = some (.int .u8 (b : Int))) :
    Calls Tryz.prog 118 #[.slice (some ⟨g, 0, none⟩) n c, .string s] w (fun e w' => e = .returned (.bool (lexN bs (bytesN s))) ∧ ∃ q, w' = w.drewN q) := by
  have hn := Lib.hid hn
  have hbs := Lib.hid hbs
  go_enter Tryz.func118, Tryz.ntmps118
  go_wp2_with fail
  go_loopw [4, 5] (fun r i wr => r = .bool false ∧ ∃ k q : Nat, k ≤ s.size ∧ i = .int .i64 k ∧ wr = w.drewN q ∧ Hid (lexN bs (bytesN s) = lexN (bs.drop k) ((bytesN s).drop k))) (fun _ i _ => s.size - (intOf i).toNat)
  case atStart => exact ⟨rfl, 0, 0, Nat.zero_le _, rfl, rfl, Lib.hid rfl⟩
  case round =>
    obtain ⟨rfl, k, q, hk, rfl, rfl, he⟩ := hrel
    by_cases hlt : k < s.size
    · by_cases hln : k < n
      · have hb : ∃ b, bs[k]? = some b := get_lt (by have := hn.out; omega)
        obtain ⟨b, hb⟩ := hb
        have hcell := hbs.out k b hb
        have heq : Hid (lexN bs (bytesN s) = lexN (b :: bs.drop (k + 1)) ((s[k]'hlt).toNat :: (bytesN s).drop (k + 1))) := Lib.hid (by rw [he.out, drop_at hb, drop_at (bytesN_get hlt)])
        clear he hb
        generalize hcc : (s[k]'hlt).toNat = cc at heq
        rcases Bool.eq_false_or_eq_true ((b : Int) != ((s[k]'hlt).toNat : Int)) with z | z
        · have hr : lexN bs (bytesN s) = decide ((b : Int) < ((s[k]'hlt).toNat : Int)) := by
            rw [heq.out, lexN, if_neg (by intro e; rw [e, hcc] at z; simp at z), hcc]
            simp
          have hr := Lib.hid hr
          go_wp2_with fail
          go_quiet (fail)
          go_wp2_with fail
          go_quiet (fail)
          go_wp2_with fail
          go_ret
          refine ⟨congrArg (fun b => Ending.returned (.bool b)) (Eq.trans ?_ hr.out.symm), dn2 _ _ (dn2 _ _ ⟨_, rfl⟩)⟩
          simp [← hcc]
        · have hr : lexN bs (bytesN s) = lexN (bs.drop (k + 1)) ((bytesN s).drop (k + 1)) := by
            rw [heq.out, lexN, if_pos (by have := (bne_eq_false_iff_eq).1 z; omega)]
          have hr := Lib.hid hr
          clear heq hcc
          go_wp2_with fail
          go_quiet (fail)
          go_wp2_with fail
          go_roundw
          case rel => exact ⟨rfl, k + 1, _, by omega, by go_num, rfl, hr⟩
          case measure => simp [intOf]; omega
      · have hr : lexN bs (bytesN s) = true := by
          rw [he.out, List.drop_of_length_le (by have := hn.out; omega), drop_at (bytesN_get hlt)]
          rfl
        have hr := Lib.hid hr
        clear he
        go_wp2_with fail
        go_ret
        exact ⟨congrArg (fun b => Ending.returned (.bool b)) hr.out.symm, q, rfl⟩
    · have hr : lexN bs (bytesN s) = false := by
        rw [he.out, List.drop_of_length_le (l := bytesN s) (by rw [bytesN_len]; omega)]
        cases bs.drop k <;> rfl
      have hr := Lib.hid hr
      clear he
      go_wp2_with fail
      go_ret
      exact ⟨congrArg (fun b => Ending.returned (.bool b)) hr.out.symm, q, rfl⟩

theorem prefix_lt {g c : Nat} {bs : List Nat} {s : ByteArray} (w : World) (hlen : bs.length ≤ 1000000) (hs : s.size ≤ 1000000) (hbs : ∀ i b : Nat, bs[i]? = some b → w.cell? ⟨g, i, none⟩ = some (.int .u8 (b : Int))) :
    Calls Tryz.prog 118 #[.slice (some ⟨g, 0, none⟩) bs.length c, .string s] w (fun e w' => e = .returned (.bool (lexN bs (bytesN s))) ∧ ∃ q, w' = w.drewN q) := prefix_lt' w rfl hlen hs hbs

/-- The digits of a decimal. -/
def dsOf (cur : List Nat) (nd : Nat) : List Nat := (cur.take nd).map (· - 48)
theorem dsOf_len {cur : List Nat} {nd : Nat} (h : nd ≤ cur.length) : (dsOf cur nd).length = nd := by simp [dsOf]; omega
theorem dsOf_get {cur : List Nat} {nd i d : Nat} (h : i < nd) (hd : cur[i]? = some (48 + d)) : (dsOf cur nd)[i]? = some d := by
  rw [dsOf, List.getElem?_map, List.getElem?_take, if_pos h, hd]
  simp
theorem dsOf_digs {cur : List Nat} {nd : Nat} (h : Dgs cur 0 nd) : Digs (dsOf cur nd) := by
  intro d hd
  obtain ⟨i, hi⟩ := List.mem_iff_getElem?.1 hd
  have hlt : i < nd := by
    have := (List.getElem?_eq_some_iff.1 hi).1
    simp [dsOf] at this
    omega
  obtain ⟨x, hx, he⟩ := h i (Nat.zero_le _) hlt
  rw [dsOf_get hlt he] at hi
  simp at hi
  omega
theorem dsOf_bytes {cur : List Nat} {nd : Nat} (h : Dgs cur 0 nd) : cur.take nd = (dsOf cur nd).map (48 + ·) := by
  rw [dsOf, List.map_map]
  apply List.ext_getElem?
  intro i
  rw [List.getElem?_map, List.getElem?_take]
  split
  · rename_i hlt
    obtain ⟨x, hx, he⟩ := h i (Nat.zero_le _) hlt
    rw [he]
    simp
  · rfl
theorem lexN_map : ∀ (a b : List Nat), lexN (a.map (48 + ·)) (b.map (48 + ·)) = lexN a b
  | _, [] => by simp [lexN]
  | [], _ :: _ => rfl
  | x :: a, y :: b => by
    simp only [List.map_cons, lexN, lexN_map a b]
    by_cases h : x = y
    · simp [h]
    · rw [if_neg h, if_neg (by omega)]
      simp
theorem cheat_bytes {s : ByteArray} {k : Nat} (h1 : 1 ≤ k) (h2 : k ≤ 60) (h : s.data.toList = cheatS k) : bytesN s = (cheatN k).map (48 + ·) := by
  rw [bytesN, L, h, cheatN, List.map_map]
  apply List.map_congr_left
  intro b hb
  have := (cheat h1 h2).bytes b hb
  simp
  omega

/-- The table of leftcheats lies in memory. -/
def CheatTab (w : World) : Prop := ∃ ad c, w.cell? ⟨11, 0, none⟩ = some (.slice (some ad) 61 c) ∧ ∀ k, k < 61 → w.cell? (ad.add (k * 2)) = some (.int .i64 (cheatD k)) ∧ ∃ s : ByteArray, w.cell? ⟨(ad.add (k * 2)).block, (ad.add (k * 2)).off + 1, none⟩ = some (.string s) ∧ s.data.toList = cheatS k
end Go.Proofs.YthagnngckegekaaGreatDoor
