import PyProof.Rows.All
import Wide.All
import OpenK.AllK
import Wide.FinOn
import PySem.Challenge.RW_dv0008_01
/-! dv0008-01: parse257 against the pieces between the quotes. The plain law first (scan, nameOf, two_readings), then the rules that the walk lacks (a caught own exception in a frame with cells, its args, a loop over texts), then the contracts of parse257 and _law_name, then the law's walk. -/
set_option Elab.async false
set_option maxRecDepth 100000
section
open PySem PySem.W PyProof.Rows
namespace Mine
/-- what parse257's loop reads behind the opening -/
def scan : List Nat → List Nat
  | [] => []
  | [c] => if c = 34 then [] else [c]
  | c :: d :: r => if c = 34 then (if d = 34 then 34 :: scan r else []) else c :: scan (d :: r)
theorem scan_nil : scan [] = [] := by rw [scan]
theorem scan_one {c : Nat} {r : List Nat} (h : c ≠ 34) : scan (c :: r) = c :: scan r := by
  cases r with
  | nil => rw [scan_nil]; rw [scan]; rw [if_neg h]
  | cons d r => rw [scan, if_neg h]
theorem scan_end : scan [34] = [] := by rw [scan, if_pos rfl]
theorem scan_brk {d : Nat} {r : List Nat} (h : d ≠ 34) : scan (34 :: d :: r) = [] := by
  rw [scan, if_pos rfl, if_neg h]
theorem scan_two (r : List Nat) : scan (34 :: 34 :: r) = 34 :: scan r := by
  rw [scan, if_pos rfl, if_pos rfl]
theorem scan_app : ∀ {a r : List Nat}, 34 ∉ a → scan (a ++ r) = a ++ scan r
  | [], _, _ => rfl
  | c :: a, r, h => by
    have h1 : c ≠ 34 := fun e => h (by rw [e]; exact List.mem_cons_self)
    have h2 : 34 ∉ a := fun e => h (List.mem_cons_of_mem _ e)
    rw [List.cons_append, scan_one h1, scan_app h2, List.cons_append]
theorem scan_free {a : List Nat} (h : 34 ∉ a) : scan a = a := by
  have := scan_app (r := []) h
  simpa [scan_nil] using this

def quote : Str := Str.ofString "\""
theorem quote_is : quote = ⟨#[34]⟩ := by decide +kernel
/-- what _law_name's loop glues on -/
def cont : List Str → Str
  | p :: q :: r => if p = Str.empty then quote ++ q ++ cont r else Str.empty
  | _ => Str.empty
def nameOf : List Str → Str
  | [] => Str.empty
  | p :: r => p ++ cont r
def parseT (x : Str) : Str := ⟨(scan (x.cps.toList.drop 5)).toArray⟩

theorem toList_app (a b : Str) : (a ++ b).cps.toList = a.cps.toList ++ b.cps.toList := by rw [Str.cps_append, Array.toList_append]
theorem str_of_toList {a b : Str} (h : a.cps.toList = b.cps.toList) : a = b := Str.ext' (Array.toList_inj.mp h)
theorem empty_toList : Str.empty.cps.toList = [] := rfl
theorem quote_toList : quote.cps.toList = [34] := by rw [quote_is]
theorem eq_empty_of {a : Str} (h : a.cps.toList = []) : a = Str.empty := str_of_toList (by rw [h]; rfl)

theorem scan_join : ∀ (n : Nat) (ps : List Str), ps.length ≤ n → (∀ p ∈ ps, 34 ∉ p.cps.toList) → scan (Str.join quote ps).cps.toList = (nameOf ps).cps.toList
  | 0, [], _, _ => by show scan [] = []; rw [scan_nil]
  | 0, _ :: _, h, _ => by simp at h
  | n + 1, [], _, _ => by show scan [] = []; rw [scan_nil]
  | n + 1, [p], _, hf => by
    have h1 : 34 ∉ p.cps.toList := hf p (by simp)
    show scan p.cps.toList = (p ++ Str.empty).cps.toList
    rw [Str.append_empty, scan_free h1]
  | n + 1, p :: q :: r, h, hf => by
    have h1 : 34 ∉ p.cps.toList := hf p (by simp)
    have h2 : 34 ∉ q.cps.toList := hf q (by simp)
    show scan (p ++ quote ++ Str.join quote (q :: r)).cps.toList = (p ++ cont (q :: r)).cps.toList
    rw [toList_app, toList_app, toList_app, List.append_assoc, scan_app h1, quote_toList]
    congr 1
    by_cases hq : q = Str.empty
    · subst hq
      match r with
      | [] =>
        show scan ([34] ++ Str.empty.cps.toList) = _
        rw [empty_toList]; exact scan_end
      | s :: r' =>
        show scan ([34] ++ (Str.empty ++ quote ++ Str.join quote (s :: r')).cps.toList) = _
        rw [Str.empty_append, toList_app, quote_toList]
        show scan (34 :: 34 :: (Str.join quote (s :: r')).cps.toList) = (if Str.empty = Str.empty then quote ++ s ++ cont r' else Str.empty).cps.toList
        rw [if_pos rfl, scan_two, scan_join n (s :: r') (by simp at h ⊢; omega) (fun x hx => hf x (List.mem_cons_of_mem _ (List.mem_cons_of_mem _ hx)))]
        show 34 :: (s ++ cont r').cps.toList = _
        rw [Str.append_assoc, toList_app quote, quote_toList]; rfl
    · have hc : cont (q :: r) = Str.empty := by
        match r with
        | [] => rfl
        | s :: r' => show (if q = Str.empty then _ else Str.empty) = _; rw [if_neg hq]
      rw [hc, empty_toList]
      have : ∃ d r', q.cps.toList = d :: r' := by
        cases e : q.cps.toList with
        | nil => exact absurd (eq_empty_of e) hq
        | cons d r' => exact ⟨d, r', rfl⟩
      obtain ⟨d, r', e⟩ := this
      have hd : d ≠ 34 := fun e' => h2 (by rw [e, e']; exact List.mem_cons_self)
      have hj : ∃ t, (Str.join quote (q :: r)).cps.toList = q.cps.toList ++ t := by
        match r with
        | [] => exact ⟨[], by simp [Str.join]⟩
        | s :: r'' => exact ⟨(quote ++ Str.join quote (s :: r'')).cps.toList, by show (q ++ quote ++ Str.join quote (s :: r'')).cps.toList = _; rw [Str.append_assoc, toList_app]⟩
      obtain ⟨t, ht⟩ := hj
      rw [ht, e]
      exact scan_brk hd

/-- the two readings agree -/
theorem two_readings (x : Str) : (⟨(scan x.cps.toList).toArray⟩ : Str) = nameOf (Txt.split x quote) := by
  refine str_of_toList ?_
  have h := scan_join _ (Txt.split x quote) (Nat.le_refl _) (fun p hp => by rw [quote_is] at hp; exact StrLaws.split_free x 34 p hp)
  rw [StrLaws.join_split] at h
  simpa using h
end Mine

end

section
open PySem PySem.W PyProof.Rows PySem.Builtin.Str
namespace Mine
theorem len_toList (x : Str) : x.cps.toList.length = x.length := Array.length_toList
theorem idx_clip (i j n : Nat) : strSliceIndices (some (i : Int)) (some (j : Int)) 1 n = strSliceIndices (some ((min i n : Nat) : Int)) (some ((min j n : Nat) : Int)) 1 n := by
  have h2 : (1 : Int) > 0 := by decide
  have a1 : ¬ ((i : Int) < 0) := by omega
  have a2 : ¬ ((j : Int) < 0) := by omega
  have a3 : ¬ (((min i n : Nat) : Int) < 0) := by omega
  have a4 : ¬ (((min j n : Nat) : Int) < 0) := by omega
  simp only [strSliceIndices, a1, a2, a3, a4, h2, if_false, if_true]
  congr 1 <;> omega
theorem slice_mid (x : Str) (i j : Nat) (h : i ≤ j) : (Txt.slice x (some (i : Int)) (some (j : Int))).cps.toList = (x.cps.toList.drop i).take (j - i) := by
  have e : Txt.slice x (some (i : Int)) (some (j : Int)) = Txt.slice x (some ((min i x.length : Nat) : Int)) (some ((min j x.length : Nat) : Int)) := by
    unfold Txt.slice
    rw [idx_clip]
  have hl := len_toList x
  rw [e, eq_of_beq (slice_closes (x := x) (i := ((min i x.length : Nat) : Int)) (j := ((min j x.length : Nat) : Int)) ⟨by omega, by omega, by omega⟩)]
  show ((x.cps.toList.drop _).take _) = _
  by_cases hi : i ≤ x.length
  · have e1 : (((min i x.length : Nat) : Int)).toNat = i := by omega
    rw [e1]
    by_cases hj : j ≤ x.length
    · congr 1; omega
    · rw [List.take_of_length_le (by rw [List.length_drop]; omega), List.take_of_length_le (by rw [List.length_drop]; omega)]
  · rw [List.drop_eq_nil_of_le (by omega), List.drop_eq_nil_of_le (by omega)]; simp
theorem slice_to (x : Str) (j : Nat) : (Txt.slice x none (some (j : Int))).cps.toList = x.cps.toList.take j := by
  have e : Txt.slice x none (some (j : Int)) = Txt.slice x (some ((0 : Nat) : Int)) (some (j : Int)) := by
    have : strSliceIndices none (some (j : Int)) 1 x.length = strSliceIndices (some ((0 : Nat) : Int)) (some (j : Int)) 1 x.length := by
      have h2 : (1 : Int) > 0 := by decide
      have a1 : ¬ (((0 : Nat) : Int) < 0) := by omega
      simp only [strSliceIndices, a1, h2, if_false, if_true]
      congr 1 <;> omega
    unfold Txt.slice
    rw [this]
  rw [e, slice_mid x 0 j (Nat.zero_le _)]; simp
theorem slice_from (x : Str) (i : Nat) : (Txt.slice x (some (i : Int)) none).cps.toList = x.cps.toList.drop i := by
  have e : Txt.slice x (some (i : Int)) none = Txt.slice x (some (i : Int)) (some ((max i x.length : Nat) : Int)) := by
    have : strSliceIndices (some (i : Int)) none 1 x.length = strSliceIndices (some (i : Int)) (some ((max i x.length : Nat) : Int)) 1 x.length := by
      have h2 : (1 : Int) > 0 := by decide
      have a1 : ¬ (((max i x.length : Nat) : Int) < 0) := by omega
      simp only [strSliceIndices, a1, h2, if_false, if_true]
      congr 1; omega
    unfold Txt.slice
    rw [this]
  have hl := len_toList x
  rw [e, slice_mid x i _ (by omega), List.take_of_length_le]
  rw [List.length_drop]; omega
theorem item_is {x : Str} {i : Int} (h0 : 0 ≤ i) (h1 : i < (x.length : Int)) : ∃ c, Txt.item x i = ⟨#[c]⟩ ∧ x.cps.toList.drop i.toNat = c :: x.cps.toList.drop (i.toNat + 1) := by
  have hlt : i.toNat < x.cps.toList.length := by rw [len_toList]; omega
  refine ⟨x.cps.toList[i.toNat], ?_, (List.drop_eq_getElem_cons hlt)⟩
  refine item_meets h0 ?_
  rw [← Array.getElem?_toList, List.getElem?_eq_getElem hlt]

/-- what the loop of parse257 keeps -/
def PInv (r : Str) (i : Int) (d : Str) : Prop := 5 ≤ i ∧ i ≤ (r.length : Int) ∧ d.length ≤ r.length ∧ d.cps.toList ++ scan (r.cps.toList.drop i.toNat) = scan (r.cps.toList.drop 5)
/-- what parse257 gives back for a reply that opens with 257 -/
def readT (r : Str) : Str := if Txt.slice r (some 3) (some 5) = Str.ofString " \"" then parseT r else Str.empty

theorem bne_false {a b : Str} (h : (a != b) = false) : a = b := by simpa [bne] using h
theorem bne_true {a b : Str} (h : (a != b) = true) : a ≠ b := by simpa [bne] using h

theorem opens_len {r : Str} (h : Txt.slice r (some 3) (some 5) = Str.ofString " \"") : 5 ≤ r.length := by
  have e := slice_mid r 3 5 (by decide)
  rw [show (((3 : Nat) : Int)) = 3 from rfl, show (((5 : Nat) : Int)) = 5 from rfl, h] at e
  have e2 : (Str.ofString " \"").cps.toList = [32, 34] := by decide +kernel
  rw [e2] at e
  have := congrArg List.length e
  have hl : r.cps.size = r.length := rfl
  simp at this
  omega
theorem pinv_start {r : Str} (h : (Txt.slice r (some 3) (some 5) != Str.ofString " \"") = false) : PInv r 5 (Str.ofString "") := by
  have := opens_len (bne_false h)
  refine ⟨by omega, by omega, ?_, ?_⟩
  · have e : (Str.ofString "").length = 0 := by decide +kernel
    omega
  · have e : (Str.ofString "").cps.toList = [] := by decide +kernel
    rw [e]; rfl
theorem q_is : (Str.ofString "\"") = ⟨#[34]⟩ := by decide +kernel
theorem one_eq {c : Nat} : ((⟨#[c]⟩ : Str) = Str.ofString "\"") ↔ c = 34 := by
  rw [q_is]; constructor
  · intro h; have := congrArg (fun s : Str => s.cps.toList) h; simpa using this
  · intro h; rw [h]
theorem scan_len : ∀ (n : Nat) (l : List Nat), l.length ≤ n → (scan l).length ≤ l.length
  | _, [], _ => by rw [scan_nil]; exact Nat.le_refl _
  | 0, _ :: _, h => by simp at h
  | n + 1, c :: r, h => by
    by_cases hc : c = 34
    · subst hc
      match r with
      | [] => rw [scan_end]; simp
      | d :: r' =>
        by_cases hd : d = 34
        · subst hd; rw [scan_two]; have := scan_len n r' (by simp at h; omega); simp; omega
        · rw [scan_brk hd]; simp
    · rw [scan_one hc]; have := scan_len n r (by simpa using h); simp; omega
theorem pinv_len {r : Str} {d : Str} {u : List Nat} (h : d.cps.toList ++ u = scan (r.cps.toList.drop 5)) : d.length ≤ r.length := by
  have h1 := congrArg List.length h
  have h2 := scan_len _ (r.cps.toList.drop 5) (Nat.le_refl _)
  have h3 := len_toList r
  have h4 := len_toList d
  simp only [List.length_append, List.length_drop] at h1 h2
  omega
theorem pinv_one {r : Str} {i : Int} {d : Str} (h : PInv r i d) (hi : i < (r.length : Int)) (hc : Txt.item r i ≠ Str.ofString "\"") : PInv r (i + 1) (d ++ Txt.item r i) := by
  obtain ⟨h1, h2, h3, h4⟩ := h
  obtain ⟨c, e1, e2⟩ := item_is (x := r) (by omega) hi
  rw [e1] at hc ⊢
  have hc' : c ≠ 34 := fun e => hc (one_eq.mpr e)
  rw [e2, scan_one hc'] at h4
  have e3 : (i + 1).toNat = i.toNat + 1 := by omega
  have h5 : (d ++ (⟨#[c]⟩ : Str)).cps.toList ++ scan (r.cps.toList.drop (i + 1).toNat) = scan (r.cps.toList.drop 5) := by
    rw [toList_app, e3, ← h4]; simp
  exact ⟨by omega, by omega, pinv_len h5, h5⟩
theorem pinv_two {r : Str} {i : Int} {d : Str} (h : PInv r i d) (hi : i + 1 < (r.length : Int)) (hc : Txt.item r i = Str.ofString "\"") (hc2 : Txt.item r (i + 1) = Str.ofString "\"") : PInv r (i + 1 + 1) (d ++ Txt.item r i) := by
  obtain ⟨h1, h2, h3, h4⟩ := h
  obtain ⟨c, e1, e2⟩ := item_is (x := r) (i := i) (by omega) (by omega)
  obtain ⟨c', e1', e2'⟩ := item_is (x := r) (i := i + 1) (by omega) hi
  rw [e1] at hc ⊢
  rw [e1'] at hc2
  have hc := one_eq.mp hc
  have hc2 := one_eq.mp hc2
  subst hc hc2
  have e3 : (i + 1).toNat = i.toNat + 1 := by omega
  have e4 : (i + 1 + 1).toNat = i.toNat + 1 + 1 := by omega
  rw [e3] at e2'
  rw [e2, e2', scan_two] at h4
  have h5 : (d ++ (⟨#[34]⟩ : Str)).cps.toList ++ scan (r.cps.toList.drop (i + 1 + 1).toNat) = scan (r.cps.toList.drop 5) := by
    rw [toList_app, e4, ← h4]; simp
  exact ⟨by omega, by omega, pinv_len h5, h5⟩
theorem pinv_done {r : Str} {i : Int} {d : Str} (h : PInv r i d) (hi : ¬ i < (r.length : Int)) : d = parseT r := by
  obtain ⟨h1, h2, h3, h4⟩ := h
  have hl := len_toList r
  rw [List.drop_eq_nil_of_le (by omega), scan_nil, List.append_nil] at h4
  exact str_of_toList (by rw [h4]; rfl)
theorem pinv_brk1 {r : Str} {i : Int} {d : Str} (h : PInv r i d) (hi : i < (r.length : Int)) (hc : Txt.item r i = Str.ofString "\"") (hn : (r.length : Int) ≤ i + 1) : d = parseT r := by
  obtain ⟨h1, h2, h3, h4⟩ := h
  have hl := len_toList r
  obtain ⟨c, e1, e2⟩ := item_is (x := r) (i := i) (by omega) (by omega)
  rw [e1] at hc
  have hc := one_eq.mp hc
  subst hc
  rw [e2, List.drop_eq_nil_of_le (by omega), scan_end, List.append_nil] at h4
  exact str_of_toList (by rw [h4]; rfl)
theorem pinv_brk2 {r : Str} {i : Int} {d : Str} (h : PInv r i d) (hi : i + 1 < (r.length : Int)) (hc : Txt.item r i = Str.ofString "\"") (hc2 : Txt.item r (i + 1) ≠ Str.ofString "\"") : d = parseT r := by
  obtain ⟨h1, h2, h3, h4⟩ := h
  obtain ⟨c, e1, e2⟩ := item_is (x := r) (i := i) (by omega) (by omega)
  obtain ⟨c', e1', e2'⟩ := item_is (x := r) (i := i + 1) (by omega) hi
  rw [e1] at hc
  rw [e1'] at hc2
  have hc := one_eq.mp hc
  have hc2 : c' ≠ 34 := fun e => hc2 (one_eq.mpr e)
  subst hc
  have e3 : (i + 1).toNat = i.toNat + 1 := by omega
  rw [e3] at e2'
  rw [e2, e2', scan_brk hc2, List.append_nil] at h4
  exact str_of_toList (by rw [h4]; rfl)
end Mine
namespace Mine
abbrev PWord (r : Str) (i : Int) (d : Str) : Prop := 5 ≤ i ∧ i ≤ (r.length : Int) ∧ d.length ≤ r.length ∧ PInv r i d
theorem pword {r : Str} {i : Int} {d : Str} (h : PInv r i d) : PWord r i d := ⟨h.1, h.2.1, h.2.2.1, h⟩
theorem beq_t {a b : Str} (h : (a == b) = true) : a = b := by simpa using h
theorem beq_f {a b : Str} (h : (a == b) = false) : a ≠ b := by simpa using h
theorem w_one {r : Str} {i : Int} {d : Str} (h : PInv r i d) (hi : i < (r.length : Int)) (hc : (Txt.item r i == Str.ofString "\"") = false) : PWord r (i + 1) (d ++ Txt.item r i) := pword (pinv_one h hi (beq_f hc))
theorem w_two {r : Str} {i : Int} {d : Str} (h : PInv r i d) (hc : (Txt.item r i == Str.ofString "\"") = true) (hn : ¬ (r.length : Int) ≤ i + 1) (hc2 : (Txt.item r (i + 1) != Str.ofString "\"") = false) : PWord r (i + 1 + 1) (d ++ Txt.item r i) :=
  pword (pinv_two h (by omega) (beq_t hc) (bne_false hc2))
theorem read_none {r : Str} (h : (Txt.slice r (some 3) (some 5) != Str.ofString " \"") = true) : Str.ofString "" = readT r := by
  unfold readT; rw [if_neg (bne_true h)]; decide +kernel
theorem read_is {r d : Str} (h5 : (Txt.slice r (some 3) (some 5) != Str.ofString " \"") = false) (h : d = parseT r) : d = readT r := by
  unfold readT; rw [if_pos (bne_false h5)]; exact h
theorem read_done {r d : Str} {i : Int} (h5 : (Txt.slice r (some 3) (some 5) != Str.ofString " \"") = false) (h : PInv r i d) (hi : ¬ i < (r.length : Int)) : d = readT r := read_is h5 (pinv_done h hi)
theorem read_brk1 {r d : Str} {i : Int} (h5 : (Txt.slice r (some 3) (some 5) != Str.ofString " \"") = false) (h : PInv r i d) (hi : i < (r.length : Int)) (hc : (Txt.item r i == Str.ofString "\"") = true) (hn : (r.length : Int) ≤ i + 1) : d = readT r :=
  read_is h5 (pinv_brk1 h hi (beq_t hc) hn)
theorem read_brk2 {r d : Str} {i : Int} (h5 : (Txt.slice r (some 3) (some 5) != Str.ofString " \"") = false) (h : PInv r i d) (hc : (Txt.item r i == Str.ofString "\"") = true) (hn : ¬ (r.length : Int) ≤ i + 1) (hc2 : (Txt.item r (i + 1) != Str.ofString "\"") = true) : d = readT r :=
  read_is h5 (pinv_brk2 h (by omega) (beq_t hc) (bne_true hc2))
end Mine
namespace Mine
def NInv (r : Str) (k : Int) (d : Str) : Prop := 1 ≤ k ∧ k ≤ ((Txt.split r quote).length : Int) ∧ d ++ cont ((Txt.split r quote).drop k.toNat) = nameOf (Txt.split r quote)
theorem name_len (r : Str) : (nameOf (Txt.split r quote)).length ≤ r.length := by
  rw [← two_readings]
  have h := scan_len _ r.cps.toList (Nat.le_refl _)
  have h1 := len_toList r
  have h2 := len_toList (⟨(scan r.cps.toList).toArray⟩ : Str)
  have h3 : ((⟨(scan r.cps.toList).toArray⟩ : Str)).cps.toList = scan r.cps.toList := by simp
  rw [h3] at h2
  omega
abbrev NWord (r : Str) (k : Int) (d : Str) : Prop := 1 ≤ k ∧ k ≤ (r.length : Int) + 2 ∧ d.length ≤ r.length ∧ NInv r k d
theorem nword {r : Str} {k : Int} {d : Str} (h : NInv r k d) : NWord r k d := by
  refine ⟨h.1, Int.le_trans h.2.1 (by have := split_le r quote; omega), ?_, h⟩
  have h1 := congrArg Str.length h.2.2
  rw [Str.length_append] at h1
  have := name_len r
  omega
theorem n_start {r y : Str} {l : List Str} (hl : l = Txt.split r (Str.ofString "\"")) (hy : l[Int.toNat 0]? = some y) : NWord r 1 y := by
  have hl : l = Txt.split r quote := hl
  subst hl
  have hp := split_pos r quote
  refine nword ⟨by omega, by omega, ?_⟩
  match h : Txt.split r quote with
  | [] => rw [h] at hp; simp at hp
  | p :: q =>
    rw [h] at hy
    have : p = y := by simpa using hy
    subst this
    rfl
theorem n_turn {r d p q : Str} {k : Int} {l : List Str} (hl : l = Txt.split r (Str.ofString "\"")) (h : NInv r k d) (hp : l[k.toNat]? = some p) (he : (p == Str.ofString "") = true) (hq : l[(k + 1).toNat]? = some q) :
    NWord r (k + 2) (d ++ Str.ofString "\"" ++ q) := by
  have hl : l = Txt.split r quote := hl
  subst hl
  obtain ⟨h1, h2, h3⟩ := h
  have hk : (k + 1).toNat = k.toNat + 1 := by omega
  have hk2 : (k + 2).toNat = k.toNat + 1 + 1 := by omega
  rw [hk] at hq
  have hlt := (List.getElem?_eq_some_iff.mp hq).1
  refine nword ⟨by omega, by omega, ?_⟩
  have e1 : (Txt.split r quote).drop k.toNat = p :: q :: (Txt.split r quote).drop (k.toNat + 1 + 1) := by
    rw [List.drop_eq_getElem_cons (by omega), List.drop_eq_getElem_cons hlt]
    have a1 := (List.getElem?_eq_some_iff.mp hp).2
    have a2 := (List.getElem?_eq_some_iff.mp hq).2
    rw [a1, a2]
  have hpe : p = Str.empty := by
    have := beq_t he
    rw [this]; decide +kernel
  rw [e1, show cont (p :: q :: (Txt.split r quote).drop (k.toNat + 1 + 1)) = if p = Str.empty then quote ++ q ++ cont ((Txt.split r quote).drop (k.toNat + 1 + 1)) else Str.empty from rfl, if_pos hpe] at h3
  rw [hk2, ← h3]
  show d ++ quote ++ q ++ _ = _
  simp only [Str.append_assoc]
theorem n_done1 {r d : Str} {k : Int} (h : NInv r k d) (hk : ¬ k + 1 < ((Txt.split r (Str.ofString "\"")).length : Int)) : d = nameOf (Txt.split r quote) := by
  have hk : ¬ k + 1 < ((Txt.split r quote).length : Int) := hk
  obtain ⟨h1, h2, h3⟩ := h
  have hc : cont ((Txt.split r quote).drop k.toNat) = Str.empty := by
    match e : (Txt.split r quote).drop k.toNat with
    | [] => rfl
    | [_] => rfl
    | _ :: _ :: _ =>
      have := congrArg List.length e
      simp only [List.length_drop, List.length_cons] at this
      omega
  rw [hc, Str.append_empty] at h3
  exact h3
theorem n_done1' {r d : Str} {k : Int} {l : List (Str × Tok)} (hl : List.map (fun x => x.fst) l = Txt.split r (Str.ofString "\"")) (h : NInv r k d) (hk : ¬ k + 1 < (l.length : Int)) : d = nameOf (Txt.split r quote) :=
  n_done1 h (by rw [← hl, List.length_map]; exact hk)
theorem n_less {r d : Str} {k : Int} {l : List (Str × Tok)} (hl : List.map (fun x => x.fst) l = Txt.split r (Str.ofString "\"")) (h : NInv r k d) (hk : k + 1 < (l.length : Int)) : (Txt.split r quote).length - (k + 2).toNat < (Txt.split r quote).length - k.toNat := by
  have : l.length = (Txt.split r quote).length := by rw [show Txt.split r quote = Txt.split r (Str.ofString "\"") from rfl, ← hl, List.length_map]
  have := h.1
  omega
theorem n_done2 {r d p : Str} {k : Int} {l : List Str} (hl : l = Txt.split r (Str.ofString "\"")) (h : NInv r k d) (hp : l[k.toNat]? = some p) (he : (p == Str.ofString "") = false) : d = nameOf (Txt.split r quote) := by
  have hl : l = Txt.split r quote := hl
  subst hl
  obtain ⟨h1, h2, h3⟩ := h
  have hpe : p ≠ Str.empty := by
    have := beq_f he
    rw [show Str.ofString "" = Str.empty by decide +kernel] at this; exact this
  have hlt := (List.getElem?_eq_some_iff.mp hp).1
  have a1 := (List.getElem?_eq_some_iff.mp hp).2
  have hc : cont ((Txt.split r quote).drop k.toNat) = Str.empty := by
    rw [List.drop_eq_getElem_cons hlt, a1]
    match (Txt.split r quote).drop (k.toNat + 1) with
    | [] => rfl
    | q :: r' => show (if p = Str.empty then _ else _) = _; rw [if_neg hpe]
  rw [hc, Str.append_empty] at h3
  exact h3
end Mine

end

section
open PySem PySem.W PyProof.Rows PySem.Calls PySem.Spec
namespace Mine
section
variable {prog : Program} {w : World} {A₀ : Around} {E : Value → Shared → Prop} {s' : Shared} {h₀ h : Heap} {outer : List Env} {L a e t : Addr} {m : Str → Option Value} {name : Str} {scope : Scope} {cd : Value} {cl : List (Str × Addr)}
  {vs : List Value} {n : Str} {b₀ : Stmt} {suite : List Stmt} {pos np : Pos} {rest : List ExceptHandler} {Q : Flow → Shared → Prop} {news : List (Addr × Obj)} {KF : Frag} {C : Addr} {bmB : List Value} {newId : String}
  {p : Program} {loose : List Str} {mg mb : Str → Option Value} {x : Str}
/-- an own exception class, caught by its name in a frame that has cells, and bound to a name -/
theorem caught_X (K : Below A₀ h₀ outer h₀) (F : Fr h₀ L h m) (hsm : h.UpToSlots s'.heap) (R : RaisedK h₀ (envX name scope L a cd cl :: outer) e (.ref C) t vs news s'.heap)
    (X : KF.In h₀) (T : TopRead p loose mg mb h₀) (ex : nsIn KF mainGlobals x = some (some (.ref C))) (q : excIn KF C bmB newId = true) (hbase : bmB.contains (.type "BaseException") = true)
    (k : ∀ h' oe ot ws nt tk, Fr h₀ L h' (fun y => if y = n then some (.ref e) else m y) → oe.cls = .ref C → oe.data = .fields ws → ws[0]? = some (.ref t) → ot.cls = .type "tuple" → ot.data = .seq vs.toArray nt → News h₀ L h' ((e, oe) :: (t, ot) :: news) →
      wpAny (model prog w) ((A₀.deeper (envX name scope L a cd cl)).mark (some (.ref e))) (execs (b₀ :: suite) (envX name scope L a cd cl))
        (fun f s₄ => wpAny (model prog w) (A₀.deeper (envX name scope L a cd cl)) (do bindName (envX name scope L a cd cl) n .none; unbindBehindTheSuite (envX name scope L a cd cl) n pos) (fun _ s₅ => Q f s₅) E s₄)
        (AsSuiteRaised (model prog w) ((A₀.deeper (envX name scope L a cd cl)).mark (some (.ref e))) (envX name scope L a cd cl) n pos (notedBy (model prog w) ((A₀.deeper (envX name scope L a cd cl)).mark (some (.ref e))) (envX name scope L a cd cl) (cameBackBy (model prog w) (A₀.deeper (envX name scope L a cd cl)) (envX name scope L a cd cl) E)))
        { s' with heap := h', toks := tk })
    (hk : scope.kind = .function := by rfl) (hlo : (envX name scope L a cd cl).kindOf n = some .local := by rfl) (hx : (envX name scope L a cd cl).kindOf x = some .globalImplicit := by rfl) (hd : (x == ("__debug__" : Str)) = false := by decide) :
    wpAny (model prog w) (A₀.deeper (envX name scope L a cd cl)) (noteFrame (.ref e) (envX name scope L a cd cl))
      (fun _ s₂ => wpAny (model prog w) (A₀.deeper (envX name scope L a cd cl)) (setFlight (.ref e) none) (fun _ s₃ =>
        wpAny (model prog w) (A₀.deeper (envX name scope L a cd cl)) (handleBy (.ref e) (envX name scope L a cd cl) (.ExceptHandler (some (.Name x np)) (some n) (b₀ :: suite) pos :: rest)) Q E s₃) E s₂) E s' := by
  obtain ⟨⟨B, hB, hl, hfl, hnew⟩, htup⟩ := R
  have hL : B.get? L = none := by
    obtain ⟨_, ⟨L', _, hf, hn', _⟩, _⟩ := hfl.2.2.1
    obtain rfl : L = L' := Option.some.inj hf
    exact hn'
  refine wpAny_looks_onW (Around.frames_deeper K.stack) rfl hfl fun h₄ hheld₄ hsm₄ => ?_
  refine wpAny_landsW hheld₄ fun h₅ hheld hsm₅' => ?_
  have hsm₅ := hsm₄.trans hsm₅'
  have hheld' := flyingW_base hB hheld
  have F₅ := F.of_stays hheld'.1 (hsm.trans hsm₅)
  obtain ⟨ob, hob, hobc⟩ := hheld'.there
  refine wpAny_handleBy_cons (codeAny_handlers_test (nameX_K F₅ X T ex ?_ hk hx hd)) (by intro q; cases q)
  obtain ⟨bm, N, nm, qn, bs, hdct, sn, sub, ab, col, dd, k0, k1, k2, k3, k5, mN, hC, hN, hni, TL⟩ := ((own_of_in X T ex q).keeps F₅.keep).obj
  refine wpAny_excMatches_sub_self hC hob hobc (TL.hasType hbase) (codeAny_handlers_suite_as ?_)
  refine lands_againW hheld fun h₆ hfl₆ hsm₆ => ?_
  have hfl₆' := flyingW_base hB hfl₆
  have F₆ := F.of_stays hfl₆'.1 ((hsm.trans hsm₅).trans hsm₆)
  obtain ⟨oe, ws, hoe, hoec, hoed, hoe0⟩ := hfl₆'.first
  obtain ⟨ot, nt, hot, hotc, hotd⟩ := (htup.of_slots hsm₅).of_slots hsm₆
  have N₆ := News.more F₆ (News.more F₆ News.nil hot (fun es n q => by rw [hotd] at q; cases q) (fresh_of_stays hB hnew)) hoe (fun es n q => by rw [hoed] at q; cases q) hfl₆'.2.1
  have Nl : News h₀ L h₆ news := fun q hq => ⟨hfl₆.1 _ _ (hl q hq).1, (fun z => by have := (hl q hq).1; rw [z, hL] at this; cases this), (hl q hq).2⟩
  refine storeX_L F₆ (news := (e, oe) :: (t, ot) :: news) (fun q hq => ?_) (fun h₇ F₇ N₇ => ?_) hk hlo
  · rcases List.mem_cons.mp hq with rfl | hq
    · exact N₆ _ (.head _)
    · rcases List.mem_cons.mp hq with rfl | hq
      · exact N₆ _ (.tail _ (.head _))
      · exact Nl q hq
  · exact k h₇ oe ot ws nt _ F₇ hoec hoed hoe0 hotc hotd N₇

theorem goes_X {M : Model} {A : Around} {s : Shared} {Q : Unit → Shared → Prop} (F : Fr h₀ L s.heap m) (N : News h₀ L s.heap news)
    (h : ∀ h' v, Fr h₀ L h' (fun x => if x = n then v else m x) → News h₀ L h' news → Q () { s with heap := h', toks := s.toks + 1 })
    (hk : scope.kind = .function := by rfl) (hl : (envX name scope L a cd cl).kindOf n = some .local := by rfl) :
    wpAny M A (do bindName (envX name scope L a cd cl) n .none; unbindBehindTheSuite (envX name scope L a cd cl) n pos) Q E s :=
  wpAny_nameGoes_keeps hl F.ns (by show (scope.kind == .class || (scope.kind == .module && L != mainGlobals)) = false; rw [hk]; rfl) fun h' v hn hs => h h' v (F.set hn hs) (N.set hs)
end
end Mine

end

section
open PySem PySem.W PyProof.Rows PySem.Calls PySem.Spec
namespace Mine
/-- the written part of the heap shows an own exception class without an attribute of its own that its makers ask for -/
def tailQ (K : Frag) (bmB : List Value) : List Value → Bool
  | [] => bmB == []
  | v :: r => (v :: r) == bmB || match v with
    | .ref A => (match K.lookup A with
      | some ⟨_, _, .cls cd, _⟩ => nsOkIn K cd.ns && quietNames.all (fun n => nsIn K cd.ns n == some none) && tailQ K bmB r
      | _ => false)
    | _ => false
theorem quiet_of {K : Frag} {h : Heap} {N : Addr} (X : K.In h) (ok : nsOkIn K N = true) (q : quietNames.all (fun n => nsIn K N n == some none) = true) : ∀ n ∈ quietNames, h.nsMap N n = none :=
  fun n hn => nsMap_none_of_in X ok (beq_iff_eq.mp (List.all_eq_true.mp q n hn))
theorem tailQ_in {K : Frag} {h : Heap} {bmB : List Value} (X : K.In h) : ∀ {l : List Value}, tailQ K bmB l = true → OwnTailQ h bmB l
  | [], e => by rw [← beq_iff_eq.mp e]; exact .base
  | v :: r, e => by
    unfold tailQ at e
    rcases Bool.or_eq_true_iff.mp e with q | q
    · rw [beq_iff_eq.mp q]; exact .base
    · split at q
      · split at q
        · rename_i ho
          simp only [Bool.and_eq_true] at q
          exact .own (X _ _ ho) (.of_isNs (isNs_of_in X q.1.1)) (quiet_of X q.1.1 q.1.2) (tailQ_in X q.2)
        · cases q
      · cases q
def excQ (K : Frag) (C : Addr) (bmB : List Value) (newId : String) : Bool := match K.lookup C with
  | some ⟨.type "type", _, .cls cd, sl⟩ => (match cd.mro, sl.toList with
    | .ref C' :: bm, [_, _, _, _, some (.builtin n), _] => C' == C && n == newId && !cd.hasDel && tailQ K bmB bm && nsOkIn K cd.ns && quietNames.all (fun n => nsIn K cd.ns n == some none)
    | _, _ => false)
  | _ => false
theorem ownQ_in {K : Frag} {h₀ : Heap} {mg mb : Str → Option Value} {p : Program} {loose : List Str} {x : Str} {C : Addr} {bmB : List Value} {newId : String}
    (X : K.In h₀) (T : TopRead p loose mg mb h₀) (e : nsIn K mainGlobals x = some (some (.ref C))) (q : excQ K C bmB newId = true) : OwnClsQ x C bmB newId mg h₀ := by
  refine ⟨mg_of X T.g e, ?_⟩
  unfold excQ at q
  split at q
  · rename_i dd cd sl ho
    split at q
    · rename_i C' bm k0 k1 k2 k3 n k5 hm hs
      simp only [Bool.and_eq_true, beq_iff_eq, Bool.not_eq_true'] at q
      obtain ⟨⟨⟨⟨⟨rfl, rfl⟩, hdel⟩, ht⟩, hok⟩, hni⟩ := q
      obtain ⟨nm, bs, mro, ns, qn, hd, sn, sub, ab, col, del⟩ := cd
      dsimp only at hm hdel hok hni
      subst hm hdel
      have hsl : sl = #[k0, k1, k2, k3, some (.builtin n), k5] := by
        obtain ⟨l⟩ := sl
        simp only at hs
        rw [hs]
      subst hsl
      exact ⟨bm, ns, nm, qn, bs, hd, sn, sub, ab, col, dd, k0, k1, k2, k3, k5, _, X _ _ ho, .of_isNs (isNs_of_in X hok), quiet_of X hok hni, tailQ_in X ht⟩
    · cases q
  · cases q
/-- args of a caught own exception -/
theorem args_X {prog : Program} {w : World} {A : Around} {E : Value → Shared → Prop} {s : Shared} {h₀ : Heap} {L e t : Addr} {oe : Obj} {ws : Array Value} {news : List (Addr × Obj)} {K : Frag} {mg mb : Str → Option Value} {p : Program} {loose : List Str} {x : Str} {C : Addr} {newId : String} {m : Str → Option Value} {expr : Bool} {Q : Value → Shared → Prop}
    (X : K.In h₀) (T : TopRead p loose mg mb h₀) (en : nsIn K mainGlobals x = some (some (.ref C))) (q : excQ K C [.type "Exception", .type "BaseException", .type "object"] newId = true) (F : Fr h₀ L s.heap m) (N : News h₀ L s.heap news)
    (he : (e, oe) ∈ news) (hc : oe.cls = .ref C) (hd : oe.data = .fields ws) (h0 : ws[0]? = some (.ref t))
    (hq : ∀ k, Q (.ref t) { s with toks := k }) : wpAny (model prog w) A (getAttr (.ref e) "args" expr) Q E s := by
  obtain ⟨h, g, d, tk, os⟩ := s
  exact args_of_own PySem.F.attrBase_Exception ((ownQ_in X T en q).keeps F.keep) (N.get he) hc hd h0 (hq (tk + 1))

theorem refused_shaped {x r : Str} (hx : PyData.strOk x = true) (hr : PyData.strOk r = true) : SeqAt.shaped (.list [.str x, .tuple [.str r]]) = true := by
  simp [SeqAt.shaped, PyData.canLay0, PyData.canLayAll0, PyData.depth, PyData.depthAll, hx, hr]
theorem refused_eqv (x r : Str) : PyData.eqv (.list [.str x, .tuple [.str r]]) (.list [.str x, .tuple [.str r]]) = true := by
  simp [PyData.eqv, PyData.eqvAll]
theorem refused_reads {h₀ h : Heap} {L l t : Addr} {ol ot : Obj} {news : List (Addr × Obj)} {x r : Str} {t1 t2 : Tok} {nl nt : Nat} (N : News h₀ L h news) (hl : (l, ol) ∈ news) (hlc : ol.cls = .type "list") (hld : ol.data = .seq #[.str x t1, .ref t] nl)
    (ht : (t, ot) ∈ news) (htc : ot.cls = .type "tuple") (htd : ot.data = .seq [.str r t2].toArray nt) : ∃ as, Reads h (.ref l) (.list [.str x, .tuple [.str r]]) as :=
  ⟨_, reads_list_at (N.get hl) hlc hld (ReadsAll.cons (Reads.str _ _) (ReadsAll.cons (reads_tuple_at (N.get ht) htc htd (ReadsAll.cons (Reads.str _ _) ReadsAll.nil)) ReadsAll.nil))⟩
/-- two lists of a text and a tuple of one text, the texts the same -/
theorem ne_refused {prog : Program} {w : World} {A : Around} {E : Value → Shared → Prop} {s : Shared} {h₀ : Heap} {L a b t u : Addr} {oa ot ob ou : Obj} {news : List (Addr × Obj)} {x r : Str} {t1 t2 t3 t4 : Tok} {n1 n2 n3 n4 : Nat} {Q : Value → Shared → Prop} (N : News h₀ L s.heap news)
    (ha : (a, oa) ∈ news) (hac : oa.cls = .type "list") (had : oa.data = .seq #[.str x t1, .ref t] n1) (ht : (t, ot) ∈ news) (htc : ot.cls = .type "tuple") (htd : ot.data = .seq [.str r t2].toArray n2)
    (hb : (b, ob) ∈ news) (hbc : ob.cls = .type "list") (hbd : ob.data = .seq #[.str x t3, .ref u] n3) (hu : (u, ou) ∈ news) (huc : ou.cls = .type "tuple") (hud : ou.data = .seq [.str r t4].toArray n4)
    (hx : PyData.strOk x = true) (hr : PyData.strOk r = true) (hunits : A.units + 64 < cLine) (h : Q (.bool false) s) : wpAny (model prog w) A (compareOp .NotEq (.ref a) (.ref b)) Q E s := by
  obtain ⟨as, ra⟩ := refused_reads N ha hac had ht htc htd
  obtain ⟨bs, rb⟩ := refused_reads N hb hbc hbd hu huc hud
  refine ne_dataH ra rb (refused_shaped hx hr) (refused_shaped hx hr) hunits ?_
  rw [refused_eqv]; exact h
theorem ne_same {prog : Program} {w : World} {A : Around} {E : Value → Shared → Prop} {s : Shared} {x y : Str} {t u : Tok} {Q : Value → Shared → Prop} (e : x = y) (h : Q (.bool false) s) : wpAny (model prog w) A (compareOp .NotEq (.str x t) (.str y u)) Q E s := by
  subst e
  exact ne_str (by rw [bne_self_eq_false]; exact h)
theorem read_name {r : Str} (h : (Txt.slice r (some 3) (some 5) == Str.ofString " \"") = true) : readT r = nameOf (Txt.split (Txt.slice r (some 5) none) quote) := by
  unfold readT
  rw [if_pos (beq_t h), ← two_readings]
  unfold parseT
  have e := slice_from r 5
  rw [show (((5 : Nat) : Int)) = 5 from rfl] at e
  rw [e]
theorem read_empty {r : Str} (h : (Txt.slice r (some 3) (some 5) == Str.ofString " \"") = false) : readT r = Str.ofString "" := by
  unfold readT
  rw [if_neg (beq_f h)]; decide +kernel
theorem ok_iff {x : Str} : PyData.strOk x = true ↔ ∀ c ∈ x.cps.toList, c < 0x110000 := by
  unfold PyData.strOk
  rw [← Array.all_toList, List.all_eq_true]
  simp
theorem ok_app {a b : Str} (ha : PyData.strOk a = true) (hb : PyData.strOk b = true) : PyData.strOk (a ++ b) = true := by
  rw [ok_iff] at *
  rw [toList_app]
  intro c hc
  rcases List.mem_append.mp hc with h | h
  · exact ha c h
  · exact hb c h
theorem ok_join {sep : Str} (hs : PyData.strOk sep = true) : ∀ {l : List Str}, (∀ a ∈ l, PyData.strOk a = true) → PyData.strOk (Str.join sep l) = true
  | [], _ => by show PyData.strOk Str.empty = true; decide +kernel
  | [a], h => h a (by simp)
  | a :: b :: r, h => by
    show PyData.strOk (a ++ sep ++ Str.join sep (b :: r)) = true
    exact ok_app (ok_app (h a (by simp)) hs) (ok_join hs fun x hx => h x (List.mem_cons_of_mem _ hx))
end Mine

end

section
open PySem PySem.W PyProof.Rows
namespace Mine
def tab : List Str := [Str.ofString "\"", Str.ofString "\"", Str.ofString "\"", Str.ofString "a", Str.ofString "/", Str.ofString " ", Str.ofString "\n", Str.ofString "é"]
theorem tab_one : ∀ j, j < 8 → (tab.getD j Str.empty).length = 1 := by decide +kernel
theorem sign_lt (k : Int) : (Int.fmod k 8).toNat < 8 := by
  have := Int.fmod_lt_of_pos k (show (0:Int) < 8 by decide)
  have := Int.fmod_nonneg_of_pos k (show (0:Int) < 8 by decide)
  omega
theorem sign_len (k : Int) : (tab.getD (Int.fmod k 8).toNat Str.empty).length = 1 := tab_one _ (sign_lt k)
theorem tab_ok : ∀ j, j < 8 → PyData.strOk (tab.getD j Str.empty) = true := by decide +kernel
theorem sign_ok (k : Int) : PyData.strOk (tab.getD (Int.fmod k 8).toNat Str.empty) = true := tab_ok _ (sign_lt k)
theorem join_signs {prog : Program} {w : World} {A : Around} {E : Value → Shared → Prop} {s : Shared} {t : Tok} {Q : Value → Shared → Prop} {D : Addr} {ys : List Value} {l : List Int}
    (hl : s.heap.IsList D ys.toArray) (hc : CarriedAll ys (l.map fun k => PyData.str (tab.getD (Int.fmod k 8).toNat Str.empty))) (hn : l.length ≤ 63)
    (h : ∀ (X : Str) t' k, X.length ≤ 63 → PyData.strOk X = true → Q (.str X t') { s with toks := k }) : wpAny (model prog w) A (call (.builtin "str.join") [.str (PySem.Str.ofString "") t, .ref D]) Q E s :=
  KT.join_1 hl hc (fun a _ => sign_len a) (by omega) fun t' k e => h _ t' k (by rw [e]; exact hn) (by
    show PyData.strOk (Builtin.Str.glued _ _) = true
    rw [StrLaws.glued_eq_join]
    refine ok_join (by decide +kernel) fun a ha => ?_
    obtain ⟨k, _, rfl⟩ := List.mem_map.mp ha
    exact sign_ok k)

theorem ne_in {l : List Str} {z k : Str} (h : l.contains z = false) (hk : k ∈ l) : z ≠ k := by
  intro e
  subst e
  have : l.contains z = true := by simpa using hk
  rw [h] at this
  cases this
theorem not_in {l : List Str} {z : Str} (h : l.contains z = false) : ¬ l.contains z = true := by rw [h]; exact Bool.false_ne_true
section
variable {prog : Program} {w : World} {A : Around} {E : Value → Shared → Prop} {s : Shared} {env : Env} {h₀ : Heap} {x : Str} {body : List Stmt} {Q : Flow → Shared → Prop}
/-- a loop over a made list of texts, whose turns leave the ledger and all names but those that the body stores -/
theorem for_texts {l : Addr} {vs : List Value} {ss : List Str} {nn : Nat} {m₀ : Str → Option Value} {news : List (Addr × Obj)} (stored : List Str)
    (hh : A.handled = none) (hl : (l, W.listOf vs.toArray nn) ∈ news) (hi : StrsAre vs ss) (hB : ∀ o ∈ ss, o.length ≤ 10 ∧ PyData.strOk o = true) (F : Fr h₀ env.locals s.heap m₀) (N : News h₀ env.locals s.heap news)
    (turn : ∀ o t (u : Str → Option Value) h tk own, o.length ≤ 10 → PyData.strOk o = true → OwnOff own (news.map (·.1)) → Fr h₀ env.locals h (fun y => if y = x then some (.str o t) else if stored.contains y then u y else m₀ y) → News h₀ env.locals h (news ++ own) →
      wpAny (model prog w) A (execs body env) (InvPost h₀ env.locals (fun m' => ∀ z, z ≠ x → stored.contains z = false → m' z = m₀ z) (news ++ own) { s with heap := h, toks := tk } Q) E { s with heap := h, toks := tk })
    (done : ∀ (u : Str → Option Value) h tk, Fr h₀ env.locals h (fun y => if y = x then u y else if stored.contains y then u y else m₀ y) → News h₀ env.locals h news → Q .next { s with heap := h, toks := tk }) :
    wpAny (model prog w) A (pyIter (.ref l)) (fun it s₂ => LoopAtV prog w A h₀ env x body Q E it s₂) E s := by
  have hol : s.heap.get? l = some (W.listOf vs.toArray nn) := (N _ hl).1
  have hls : s.heap.IsList l vs.toArray := ⟨_, hol, rfl, nn, rfl⟩
  have hne : l ≠ s.heap.objs.size := Nat.ne_of_lt (Heap.lt_size hol)
  refine wpAny_pyIter_list hls ?_
  have WL := Walks.list (prog := prog) (w := w) hh s.heap.objs.size l hne vs.toArray
  have key : ∀ m₁ : Str → Option Value, (∀ z, z ≠ x → stored.contains z = false → m₁ z = m₀ z) → ∀ v : Value, (fun y => if y = x then some v else m₁ y) = fun y => if y = x then some v else if stored.contains y then m₁ y else m₀ y := by
    intro m₁ h1 v
    funext y
    by_cases hy : y = x
    · rw [if_pos hy, if_pos hy]
    · rw [if_neg hy, if_neg hy]
      cases hs : stored.contains y with
      | true => simp
      | false => simp [h1 y hy hs]
  refine ⟨_, _, _, vs.toArray.size, _, _, m₀, news, (fun _ m nx => nx = news ∧ ∀ z, z ≠ x → stored.contains z = false → m z = m₀ z), rfl, WL, ?_, ?_, ?_, ⟨⟨_, Heap.get?_push_size _ rfl, rfl, rfl⟩, hls.at fun o e => Heap.get?_push_of_some _ e⟩, F.push _, (fun p hp => ⟨Heap.get?_push_of_some _ (N p hp).1, (N p hp).2⟩), ⟨rfl, fun _ _ _ => rfl⟩, ?_, ?_⟩
  · intro hm
    rcases List.mem_cons.mp hm with e | hm
    · exact absurd F.ns.lt (e ▸ Nat.lt_irrefl _)
    · exact (N _ hl).2.1 ((List.mem_singleton.mp hm).symm)
  · intro b hb
    rw [List.mem_singleton.mp hb]
    exact next_is_new F
  · intro p hp hI
    exact absurd (Heap.lt_size (N p hp).1) ((List.mem_singleton.mp hI) ▸ Nat.lt_irrefl _)
  · rintro i v m₁ news₁ s₁ own ⟨hh', tk', rfl⟩ hin hP ⟨rfl, hJ⟩ hoff hown hget hfp _ F₁ N₁
    have hP' : vs[i]? = some v := by simpa using hP
    obtain ⟨o, t, ho, rfl⟩ : ∃ o t, o ∈ ss ∧ v = .str o t := by
      have hlt : i < ss.length := by
        have := (List.getElem?_eq_some_iff.mp hP').1
        have := hi.length
        omega
      obtain ⟨t', e⟩ := hi.get i ss[i] (by simp [hlt])
      rw [hP'] at e
      exact ⟨ss[i], t', List.getElem_mem hlt, Option.some.inj e⟩
    rw [key m₁ hJ] at F₁
    have hsep : OwnOff (own.filter fun p => decide (p.1 = s.heap.objs.size)) (news₁.map (·.1)) := by
      intro p hp b hb e
      obtain ⟨q, hq, rfl⟩ := List.mem_map.mp hb
      have h1 : p.1 = s.heap.objs.size := by simpa using (List.mem_filter.mp hp).2
      exact absurd (Heap.lt_size (N q hq).1) (by rw [← e, h1]; exact Nat.lt_irrefl _)
    have hlo : hh'.get? l = some (W.listOf vs.toArray nn) := (N₁ _ (List.mem_append.mpr (.inr hl))).1
    have N₂ : News h₀ env.locals hh' (news₁ ++ own.filter fun p => decide (p.1 = s.heap.objs.size)) := fun p hp => N₁ p ((List.mem_append.mp hp).elim (fun h => List.mem_append.mpr (.inr h)) fun h => List.mem_append.mpr (.inl ((List.mem_filter.mp h).1)))
    refine wpAny_mono (turn o t m₁ hh' tk' _ (hB o ho).1 (hB o ho).2 hsep F₁ N₂) (fun f s₂ p => ?_) fun _ _ e => e
    have fin : InvEnd h₀ env.locals (fun m' => ∀ z, z ≠ x → stored.contains z = false → m' z = m₀ z) (news₁ ++ own.filter fun p => decide (p.1 = s.heap.objs.size)) { s with heap := hh', toks := tk' } s₂ →
        LoopStepU h₀ env.locals [s.heap.objs.size] own (fun m nx => nx = news₁ ∧ ∀ z, z ≠ x → stored.contains z = false → m z = m₀ z) { s with heap := hh', toks := tk' } .next s₂ := by
      rintro ⟨h', tk, m', news', e, F', N', hn, hm⟩
      refine ⟨rfl, h', tk, m', news₁, e, F', fun p hp => ?_, hoff, rfl, hm⟩
      rcases List.mem_append.mp hp with h | h
      · by_cases hI : p.1 = s.heap.objs.size
        · exact N' p (hn p (List.mem_append.mpr (.inr (List.mem_filter.mpr ⟨h, by simpa using hI⟩))))
        · have h1 : p.1 = l := by
            rcases List.mem_cons.mp (hown p h) with h2 | h2
            · exact absurd h2 hI
            · exact List.mem_singleton.mp h2
          have h2 : hh'.get? p.1 = some p.2 := hget p h
          rw [h1, hlo] at h2
          have h3 : p = (l, W.listOf vs.toArray nn) := Prod.ext h1 (Option.some.inj h2).symm
          rw [h3]
          exact N' _ (hn _ (List.mem_append.mpr (.inl hl)))
      · exact N' p (hn p (List.mem_append.mpr (.inl h)))
    cases f with
    | ret v => exact .ret p
    | brk => exact .brk p
    | next => exact .next (fin p)
    | cont => exact .cont (fin p)
  · rintro h' tk m' news' F' N' _ ⟨rfl, hJ⟩
    refine done m' h' tk ?_ N'
    have em : (fun y => if y = x then m' y else if stored.contains y then m' y else m₀ y) = m' := by
      funext y
      by_cases hy : y = x
      · rw [if_pos hy]
      · rw [if_neg hy]
        cases hs : stored.contains y with
        | true => simp
        | false => simp [hJ y hy hs]
    rw [em]; exact F'
end
end Mine

end

section
open PySem PySem.W PyProof.Rows
namespace Mine
set_option maxHeartbeats 8000000 in
open_top hd for PySem.Challenge.rw_dv0008_01
end Mine
end

section
open PySem PySem.W PyProof.Rows
set_option maxHeartbeats 8000000
namespace Mine
theorem parse_call {w : World} {loose : List Str} {mean : ExcName → Option Value} {mg mb : Str → Option Value} {news : List (Addr × Obj)} {r : Str} {t : Tok}
   {dp un : Nat} {gd : Option (List Code)} {cn : Str} {cs : Scope} {a : Addr} {ccd : Value} {cl : List (Str × Addr)} {outer : List Env} {A₀ : Around} {base h₀ : Heap} {L : Addr} {m : Str → Option Value} {s : Shared} {Q E : Value → Shared → Prop}
   (B : Below A₀ base outer h₀) (F : Fr h₀ L s.heap m) (X : (hd.heap_39 w.params).In h₀) (N : News h₀ L s.heap news) (T : Top hd.view_39 loose mean mg mb h₀) (hk : cs.kind = .function)
   (hl : r.length ≤ 100) (hdp : dp + 1 < recursionLimit)
   (hQ : Txt.slice r none (some 3) = Str.ofString "257" → ∀ t h' tk', Fr h₀ L h' m → News h₀ L h' news → Q (.str (readT r) t) { s with heap := h', toks := tk' })
   (hE : Txt.slice r none (some 3) ≠ Str.ofString "257" → ∀ e t' g h' tk', Fr h₀ L g m → RaisedK base (envX cn cs L a ccd cl :: outer) e (.ref 37) t' [.str r t] news h' → g.UpToSlots h' → E (.ref e) { s with heap := h', toks := tk' }) :
   wpAny (model Challenge.rw_dv0008_01.row.prog w) (ktrTop dp un gd cn cs L a ccd cl outer) (call (.ref 46) [.str r t]) Q E s := by
  revert X; k_fill; intro X
  k_with_none
  k_with "exec While Compare cons nil" => k_while (fun _ i d => PWord r i d) (fun _ i _ => r.length - i.toNat) "i" "dirname"
  k_with "state" => first | exact pword (pinv_start (by assumption)) | exact w_one (by assumption) (by assumption) (by assumption) | exact w_two (by assumption) (by assumption) (by assumption) (by assumption)
  w_strict (refine wpAny_call ?_
            k_dflt cell_enter
            k_steps
            all_goals first
              | exact hE (bne_true (by assumption)) _ _ _ _ _ (by assumption) (by assumption) (by assumption)
              | exact cb_retS (hQ (bne_false (by assumption))) (read_none (by assumption)) (by assumption) (by assumption)
              | exact cb_retS (hQ (bne_false (by assumption))) (read_done (by assumption) (by assumption) (by assumption)) (by assumption) (by assumption)
              | exact cb_retS (hQ (bne_false (by assumption))) (read_brk1 (by assumption) (by assumption) (by assumption) (by assumption) (by assumption)) (by assumption) (by assumption)
              | exact cb_retS (hQ (bne_false (by assumption))) (read_brk2 (by assumption) (by assumption) (by assumption) (by assumption) (by assumption)) (by assumption) (by assumption)
              | skip)
  k_with_none
end Mine
namespace Mine
theorem item_strsL {prog : Program} {w : World} {A : Around} {E : Value → Shared → Prop} {s : Shared} {value slice : PySem.Expr} {a : Addr} {l : List (Str × Tok)} {k : Int} {u : Tok} {n : Nat} {Q : Value → Shared → Prop} (hl : s.heap.IsList a (strValues l).toArray)
    (hb : ∀ a, a ∈ List.map (fun x => x.fst) l → a.length ≤ n) (h0 : 0 ≤ k) (hk : k < l.length) (hfit : k < 2 ^ 63) (h : ∀ y t', (l.map (·.1))[k.toNat]? = some y → y.length ≤ n → Q (.str y t') s)
    (hs : subscripted slice false (.ref a) (.int k u) = operate [.ref a, .int k u] (getItem (.ref a) (.int k u)) := by with_unfolding_all rfl) (hg : ∀ r, letTemporaryGo value (.ref a) r = pure () := by intro _; with_unfolding_all rfl) :
    wpAny (model prog w) A (subscriptTail value slice (.ref a) (.int k u)) Q E s :=
  item_strs hl h0 hk hfit (fun y t' e => h y t' e (hb y (List.mem_of_getElem? e))) hs hg
end Mine
local macro_rules | `(tactic| walk_at "subscriptTail Name BinOp ref int") => `(tactic| (refine Mine.item_strsL (News.isList (by assumption) (List.Mem.head _)) (by assumption) (by omega) (by omega) (by omega) ?_; intro _ _ _ _))
namespace Mine
theorem name_call {w : World} {loose : List Str} {mean : ExcName → Option Value} {mg mb : Str → Option Value} {news : List (Addr × Obj)} {r : Str} {t : Tok}
   {dp un : Nat} {gd : Option (List Code)} {cn : Str} {cs : Scope} {a : Addr} {ccd : Value} {cl : List (Str × Addr)} {outer : List Env} {A₀ : Around} {base h₀ : Heap} {L : Addr} {m : Str → Option Value} {s : Shared} {Q E : Value → Shared → Prop}
   (B : Below A₀ base outer h₀) (F : Fr h₀ L s.heap m) (X : (hd.heap_39 w.params).In h₀) (N : News h₀ L s.heap news) (T : Top hd.view_39 loose mean mg mb h₀) (hk : cs.kind = .function)
   (hl : r.length ≤ 100) (hdp : dp + 1 < recursionLimit)
   (hQ : ∀ t h' tk', Fr h₀ L h' m → News h₀ L h' news → Q (.str (nameOf (Txt.split r quote)) t) { s with heap := h', toks := tk' }) :
   wpAny (model Challenge.rw_dv0008_01.row.prog w) (ktrTop dp un gd cn cs L a ccd cl outer) (call (.ref 53) [.str r t]) Q E s := by
  revert X; k_fill; intro X
  k_with_none
  k_with "exec While BoolOp cons nil" => k_while (fun _ k d => NWord r k d) (fun _ k _ => (Txt.split r quote).length - k.toNat) "k" "name"
  k_with "state" => first | exact n_start (by assumption) (by assumption) | exact n_turn (by assumption) (by assumption) (by assumption) (by assumption) (by assumption)
  k_with "measure" => exact n_less (by assumption) (by assumption) (by assumption)
  w_strict (refine wpAny_call ?_
            k_dflt cell_enter
            k_steps
            all_goals first
              | exact cb_retS hQ (n_done1' (by assumption) (by assumption) (by assumption)) (by assumption) (cb_drop (by assumption) (fun _ hp => List.mem_cons_of_mem _ hp))
              | exact cb_retS hQ (n_done2 (by assumption) (by assumption) (by assumption) (by assumption)) (by assumption) (cb_drop (by assumption) (fun _ hp => List.mem_cons_of_mem _ hp))
              | trace_state)
  k_with_none
end Mine

end

open PySem PySem.W PyProof.Rows
local macro_rules | `(tactic| walk_at "CompSrc") => `(tactic| (k_here; (try k_fmods); (try kcf_lens); k_dflt (refine LCg.CompSrc.ledger (by rfl) (by k_asm) (by k_asm) (by k_mem) (by kcf_size) ?_; intro g'; (refine' kct_list (fun k => Mine.tab.getD (Int.fmod k 8).toNat Str.empty) (by first | assumption | l_ints) (fun k' t' I' oI' C' oC' D' m' ys' h' tk' E' hk' hC' hx' F' N' off' ne' hMark' => ?_) ?_); (all_goals (try (simp only [LCg.Off3, and_true] at off'))); kcf_last)))
local macro_rules | `(tactic| walk_at "KCtEl") => `(tactic| (refine kct_el (r' := Mine.tab.getD _ _) ?_ rfl rfl; rfl))
local macro_rules | `(tactic| walk_at "call builtin:str.join") => `(tactic| (k_here; (with_reducible rename CarriedAll _ (List.map _ _) => ktC); refine Mine.join_signs (by first | assumption | is_list | exact News.isList (by k_asm) (by k_mem)) ktC (by first | omega | (simp only [List.length_take]; omega)) ?_; intro _ _ _ _ _))
local macro_rules | `(tactic| walk_at "pyIter ref") => `(tactic| (k_here; (rename Fr _ _ _ _ => lF'); (rename News _ _ _ _ => lN'); k_dflt (with_unfolding_all refine' Mine.for_texts [Str.ofString "reply", Str.ofString "due", Str.ofString "told", Str.ofString "fault"] ?hh ?hl ?hi ?hB lF' lN' ?_ ?_; (case hh => exact rfl); (case hl => k_mem); (case hi => repeat constructor); (case hB => decide +kernel)); (case' _ => intro o' t' u' h' tk' own' ho' hok' off' F' N'); clear lF' lN'; (try simp only [List.cons_append, List.nil_append] at N'); (try dsimp only); (all_goals (try k_fold))))
local macro_rules | `(tactic| walk_at "call ref") => `(tactic| (k_here; (with_reducible show wpAny _ _ (call (Value.ref 46) [Value.str _ _]) _ _ _); k_dflt (refine' Mine.parse_call ?k1 ?k2 ?k3 ?k4 ?k5 ?k6 ?k7 ?k8 ?_ ?_; (case k1 => k_asm); (case k2 => k_asm); (case k3 => k_asm); (case k4 => k_asm); (case k5 => k_asm); (case k6 => first | exact rfl | assumption); (case k7 => kopn_len); (case k8 => ktr_room)); (rotate_left; intro hq9 e9 t9 g9 h9 tk9 F9 R9 U9; rotate_left; intro hq9 t9 h9 tk9 F9 N9); (all_goals (try (k_dflt (exfalso; first | exact Mine.bne_true (by assumption) hq9 | exact hq9 (Mine.bne_false (by assumption)))))); (all_goals (try dsimp only)); all_goals (try k_fold)))
local macro_rules | `(tactic| walk_at "call ref") => `(tactic| (k_here; (with_reducible show wpAny _ _ (call (Value.ref 53) [Value.str _ _]) _ _ _); (k_dflt (refine' Mine.name_call ?k1 ?k2 ?k3 ?k4 ?k5 ?k6 ?k7 ?k8 ?_; (case k1 => k_asm); (case k2 => k_asm); (case k3 => k_asm); (case k4 => k_asm); (case k5 => k_asm); (case k6 => first | exact rfl | assumption); (case k7 => kopn_len); (case k8 => ktr_room))); (intro t9 h9 tk9 F9 N9); (all_goals (try dsimp only)); all_goals (try k_fold)))
local macro_rules | `(tactic| walk_at "exec Try") => `(tactic| (k_here; (with_reducible show wpAny _ _ (exec (Stmt.Try _ (_ :: _) _ [] _) (envOfC _ _ _ _ _)) _ _ _); refine wpAny_Try_except ?_))
local macro_rules | `(tactic| walk_at "noteFrame ref") => `(tactic| (k_here; (rename RaisedK _ _ _ _ _ _ _ _ => rkX); k_dflt (refine' Mine.caught_X (bmB := [.type "Exception", .type "BaseException", .type "object"]) (newId := "Exception.__new__") ?K ?F ?U ?R ?X ?T ?ex ?q ?hb ?_; (case K => assumption); (case F => assumption); (case U => assumption); (case R => exact rkX); (case X => k_asm); (case T => k_asm); (case ex => k_is); (case q => k_exc); (case hb => rfl); k_whole); intro h' oe' ot' ws' nt' tk' F' oc' od' o0' tc' td' N'; (try k_sweep)))
local macro_rules | `(tactic| walk_at "getAttr ref") => `(tactic| (k_here; (with_reducible show wpAny _ _ (getAttr (Value.ref _) ("args" : Str) _) _ _ _); k_dflt (refine' Mine.args_X (newId := "Exception.__new__") (x := Str.ofString "error_reply") ?X ?T ?en ?q ?F ?N ?G ?hc ?hd ?h0 ?_; (case X => k_asm); (case T => k_asm); (case en => k_is); (case q => kernel_rfl); (case F => assumption); (case N => assumption); (case G => k_mem); (case hc => assumption); (case hd => assumption); (case h0 => assumption); k_whole); intro k9))
local macro_rules | `(tactic| walk_at "bind") => `(tactic| (k_here;  (rename News _ _ _ _ => nwX); k_dflt (refine' Mine.goes_X ?F nwX ?_; (case F => assumption); k_whole); intro h9 v9 F9 N9; clear nwX))
local macro_rules | `(tactic| walk_at "compareOp NotEq str str") => `(tactic| (k_here; (with_reducible show wpAny _ _ (compareOp CmpOp.NotEq (Value.str (Mine.readT _) _) (Value.str _ _)) _ _ _); k_dflt (refine Mine.ne_same (by first | exact Mine.read_name (by assumption) | exact Mine.read_empty (by assumption)) ?_)))
local macro_rules | `(tactic| walk_at "compareOp NotEq ref ref") => `(tactic| (k_here; (with_reducible show wpAny _ _ (compareOp CmpOp.NotEq (Value.ref _) (Value.ref _)) _ _ _); k_dflt (refine' Mine.ne_refused ?N ?ha ?hac ?had ?ht ?htc ?htd ?hb ?hbc ?hbd ?hu ?huc ?hud ?hx ?hr ?hun ?_; (case N => k_asm); (case ha => k_mem); (case hac => rfl); (case had => rfl); (case ht => k_mem); (case htc => assumption); (case htd => assumption); (case hb => k_mem); (case hbc => rfl); (case hbd => rfl); (case hu => k_mem); (case huc => rfl); (case hud => rfl); (case hx => decide +kernel); (case hr => exact Mine.ok_app (by assumption) (by assumption)); (case hun => ke_room); k_whole)))
local macro_rules | `(tactic| walk_at "InvEnd") => `(tactic| (k_dflt (refine' InvEnd.intro ?F ?N ?n ?_; (case F => assumption); (case N => k_asm); (case n => kst_inAny)); (intro z h1 h2; (have h7 := Mine.not_in h2); (have h3 := Mine.ne_in (k := Str.ofString "reply") h2 (by k_mem)); (have h4 := Mine.ne_in (k := Str.ofString "due") h2 (by k_mem)); (have h5 := Mine.ne_in (k := Str.ofString "told") h2 (by k_mem)); (have h6 := Mine.ne_in (k := Str.ofString "fault") h2 (by k_mem)); (repeat (first | refine (if_neg h3).trans ?_ | refine (if_neg h4).trans ?_ | refine (if_neg h5).trans ?_ | refine (if_neg h6).trans ?_ | refine (if_neg h1).trans ?_ | refine (if_neg h7).trans ?_)); exact rfl)))
set_option maxHeartbeats 8000000 in
theorem PySem.Challenge.cw_dv0008_01_holds : PySem.Challenge.rw_dv0008_01.Holds := by
  refine Mine.hd ?_
  k_with_none
  k_with "table" => skip
  w_strict k_go
