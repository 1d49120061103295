import PyProof.Rows.All
import Wide.All
import OpenK.AllK
import Wide.FinOn
import PySem.Challenge.RW_dv0008_02
/-! dv0008-02: parse257 on every cut of a reply. The plain law first (scan, Built, Whole), then the rules that the walk lacks (args of a caught own exception, a loop over a range that keeps the ledger), then the contracts of parse257 and _law_read, then the law's walk. -/
set_option Elab.async false
set_option maxRecDepth 100000
section
open PySem PySem.W PyProof.Rows
namespace Mine
/-- what parse257's loop reads behind the opening -/
def scan : List Nat → List Nat
  | [] => []
  | [c] => if c = 34 then [] else [c]
  | c :: d :: r => if c = 34 then (if d = 34 then 34 :: scan r else []) else c :: scan (d :: r)
theorem scan_nil : scan [] = [] := by rw [scan]
theorem scan_one {c : Nat} {r : List Nat} (h : c ≠ 34) : scan (c :: r) = c :: scan r := by
  cases r with
  | nil => rw [scan_nil]; rw [scan]; rw [if_neg h]
  | cons d r => rw [scan, if_neg h]
theorem scan_end : scan [34] = [] := by rw [scan, if_pos rfl]
theorem scan_brk {d : Nat} {r : List Nat} (h : d ≠ 34) : scan (34 :: d :: r) = [] := by
  rw [scan, if_pos rfl, if_neg h]
theorem scan_two (r : List Nat) : scan (34 :: 34 :: r) = 34 :: scan r := by
  rw [scan, if_pos rfl, if_pos rfl]
theorem scan_app : ∀ {a r : List Nat}, 34 ∉ a → scan (a ++ r) = a ++ scan r
  | [], _, _ => rfl
  | c :: a, r, h => by
    have h1 : c ≠ 34 := fun e => h (by rw [e]; exact List.mem_cons_self)
    have h2 : 34 ∉ a := fun e => h (List.mem_cons_of_mem _ e)
    rw [List.cons_append, scan_one h1, scan_app h2, List.cons_append]
theorem scan_free {a : List Nat} (h : 34 ∉ a) : scan a = a := by
  have := scan_app (r := []) h
  simpa [scan_nil] using this

def quote : Str := Str.ofString "\""
theorem quote_is : quote = ⟨#[34]⟩ := by decide +kernel
/-- what _law_name's loop glues on -/
def cont : List Str → Str
  | p :: q :: r => if p = Str.empty then quote ++ q ++ cont r else Str.empty
  | _ => Str.empty
def nameOf : List Str → Str
  | [] => Str.empty
  | p :: r => p ++ cont r
def parseT (x : Str) : Str := ⟨(scan (x.cps.toList.drop 5)).toArray⟩

theorem toList_app (a b : Str) : (a ++ b).cps.toList = a.cps.toList ++ b.cps.toList := by rw [Str.cps_append, Array.toList_append]
theorem str_of_toList {a b : Str} (h : a.cps.toList = b.cps.toList) : a = b := Str.ext' (Array.toList_inj.mp h)
theorem empty_toList : Str.empty.cps.toList = [] := rfl
theorem quote_toList : quote.cps.toList = [34] := by rw [quote_is]
theorem eq_empty_of {a : Str} (h : a.cps.toList = []) : a = Str.empty := str_of_toList (by rw [h]; rfl)

theorem scan_join : ∀ (n : Nat) (ps : List Str), ps.length ≤ n → (∀ p ∈ ps, 34 ∉ p.cps.toList) → scan (Str.join quote ps).cps.toList = (nameOf ps).cps.toList
  | 0, [], _, _ => by show scan [] = []; rw [scan_nil]
  | 0, _ :: _, h, _ => by simp at h
  | n + 1, [], _, _ => by show scan [] = []; rw [scan_nil]
  | n + 1, [p], _, hf => by
    have h1 : 34 ∉ p.cps.toList := hf p (by simp)
    show scan p.cps.toList = (p ++ Str.empty).cps.toList
    rw [Str.append_empty, scan_free h1]
  | n + 1, p :: q :: r, h, hf => by
    have h1 : 34 ∉ p.cps.toList := hf p (by simp)
    have h2 : 34 ∉ q.cps.toList := hf q (by simp)
    show scan (p ++ quote ++ Str.join quote (q :: r)).cps.toList = (p ++ cont (q :: r)).cps.toList
    rw [toList_app, toList_app, toList_app, List.append_assoc, scan_app h1, quote_toList]
    congr 1
    by_cases hq : q = Str.empty
    · subst hq
      match r with
      | [] =>
        show scan ([34] ++ Str.empty.cps.toList) = _
        rw [empty_toList]; exact scan_end
      | s :: r' =>
        show scan ([34] ++ (Str.empty ++ quote ++ Str.join quote (s :: r')).cps.toList) = _
        rw [Str.empty_append, toList_app, quote_toList]
        show scan (34 :: 34 :: (Str.join quote (s :: r')).cps.toList) = (if Str.empty = Str.empty then quote ++ s ++ cont r' else Str.empty).cps.toList
        rw [if_pos rfl, scan_two, scan_join n (s :: r') (by simp at h ⊢; omega) (fun x hx => hf x (List.mem_cons_of_mem _ (List.mem_cons_of_mem _ hx)))]
        show 34 :: (s ++ cont r').cps.toList = _
        rw [Str.append_assoc, toList_app quote, quote_toList]; rfl
    · have hc : cont (q :: r) = Str.empty := by
        match r with
        | [] => rfl
        | s :: r' => show (if q = Str.empty then _ else Str.empty) = _; rw [if_neg hq]
      rw [hc, empty_toList]
      have : ∃ d r', q.cps.toList = d :: r' := by
        cases e : q.cps.toList with
        | nil => exact absurd (eq_empty_of e) hq
        | cons d r' => exact ⟨d, r', rfl⟩
      obtain ⟨d, r', e⟩ := this
      have hd : d ≠ 34 := fun e' => h2 (by rw [e, e']; exact List.mem_cons_self)
      have hj : ∃ t, (Str.join quote (q :: r)).cps.toList = q.cps.toList ++ t := by
        match r with
        | [] => exact ⟨[], by simp [Str.join]⟩
        | s :: r'' => exact ⟨(quote ++ Str.join quote (s :: r'')).cps.toList, by show (q ++ quote ++ Str.join quote (s :: r'')).cps.toList = _; rw [Str.append_assoc, toList_app]⟩
      obtain ⟨t, ht⟩ := hj
      rw [ht, e]
      exact scan_brk hd

/-- the two readings agree -/
theorem two_readings (x : Str) : (⟨(scan x.cps.toList).toArray⟩ : Str) = nameOf (Txt.split x quote) := by
  refine str_of_toList ?_
  have h := scan_join _ (Txt.split x quote) (Nat.le_refl _) (fun p hp => by rw [quote_is] at hp; exact StrLaws.split_free x 34 p hp)
  rw [StrLaws.join_split] at h
  simpa using h
end Mine

end

section
open PySem PySem.W PyProof.Rows PySem.Builtin.Str
namespace Mine
theorem len_toList (x : Str) : x.cps.toList.length = x.length := Array.length_toList
theorem idx_clip (i j n : Nat) : strSliceIndices (some (i : Int)) (some (j : Int)) 1 n = strSliceIndices (some ((min i n : Nat) : Int)) (some ((min j n : Nat) : Int)) 1 n := by
  have h2 : (1 : Int) > 0 := by decide
  have a1 : ¬ ((i : Int) < 0) := by omega
  have a2 : ¬ ((j : Int) < 0) := by omega
  have a3 : ¬ (((min i n : Nat) : Int) < 0) := by omega
  have a4 : ¬ (((min j n : Nat) : Int) < 0) := by omega
  simp only [strSliceIndices, a1, a2, a3, a4, h2, if_false, if_true]
  congr 1 <;> omega
theorem slice_mid (x : Str) (i j : Nat) (h : i ≤ j) : (Txt.slice x (some (i : Int)) (some (j : Int))).cps.toList = (x.cps.toList.drop i).take (j - i) := by
  have e : Txt.slice x (some (i : Int)) (some (j : Int)) = Txt.slice x (some ((min i x.length : Nat) : Int)) (some ((min j x.length : Nat) : Int)) := by
    unfold Txt.slice
    rw [idx_clip]
  have hl := len_toList x
  rw [e, eq_of_beq (slice_closes (x := x) (i := ((min i x.length : Nat) : Int)) (j := ((min j x.length : Nat) : Int)) ⟨by omega, by omega, by omega⟩)]
  show ((x.cps.toList.drop _).take _) = _
  by_cases hi : i ≤ x.length
  · have e1 : (((min i x.length : Nat) : Int)).toNat = i := by omega
    rw [e1]
    by_cases hj : j ≤ x.length
    · congr 1; omega
    · rw [List.take_of_length_le (by rw [List.length_drop]; omega), List.take_of_length_le (by rw [List.length_drop]; omega)]
  · rw [List.drop_eq_nil_of_le (by omega), List.drop_eq_nil_of_le (by omega)]; simp
theorem slice_to (x : Str) (j : Nat) : (Txt.slice x none (some (j : Int))).cps.toList = x.cps.toList.take j := by
  have e : Txt.slice x none (some (j : Int)) = Txt.slice x (some ((0 : Nat) : Int)) (some (j : Int)) := by
    have : strSliceIndices none (some (j : Int)) 1 x.length = strSliceIndices (some ((0 : Nat) : Int)) (some (j : Int)) 1 x.length := by
      have h2 : (1 : Int) > 0 := by decide
      have a1 : ¬ (((0 : Nat) : Int) < 0) := by omega
      simp only [strSliceIndices, a1, h2, if_false, if_true]
      congr 1 <;> omega
    unfold Txt.slice
    rw [this]
  rw [e, slice_mid x 0 j (Nat.zero_le _)]; simp
theorem slice_from (x : Str) (i : Nat) : (Txt.slice x (some (i : Int)) none).cps.toList = x.cps.toList.drop i := by
  have e : Txt.slice x (some (i : Int)) none = Txt.slice x (some (i : Int)) (some ((max i x.length : Nat) : Int)) := by
    have : strSliceIndices (some (i : Int)) none 1 x.length = strSliceIndices (some (i : Int)) (some ((max i x.length : Nat) : Int)) 1 x.length := by
      have h2 : (1 : Int) > 0 := by decide
      have a1 : ¬ (((max i x.length : Nat) : Int) < 0) := by omega
      simp only [strSliceIndices, a1, h2, if_false, if_true]
      congr 1; omega
    unfold Txt.slice
    rw [this]
  have hl := len_toList x
  rw [e, slice_mid x i _ (by omega), List.take_of_length_le]
  rw [List.length_drop]; omega
theorem item_is {x : Str} {i : Int} (h0 : 0 ≤ i) (h1 : i < (x.length : Int)) : ∃ c, Txt.item x i = ⟨#[c]⟩ ∧ x.cps.toList.drop i.toNat = c :: x.cps.toList.drop (i.toNat + 1) := by
  have hlt : i.toNat < x.cps.toList.length := by rw [len_toList]; omega
  refine ⟨x.cps.toList[i.toNat], ?_, (List.drop_eq_getElem_cons hlt)⟩
  refine item_meets h0 ?_
  rw [← Array.getElem?_toList, List.getElem?_eq_getElem hlt]

/-- what the loop of parse257 keeps -/
def PInv (r : Str) (i : Int) (d : Str) : Prop := 5 ≤ i ∧ i ≤ (r.length : Int) ∧ d.length ≤ r.length ∧ d.cps.toList ++ scan (r.cps.toList.drop i.toNat) = scan (r.cps.toList.drop 5)
/-- what parse257 gives back for a reply that opens with 257 -/
def readT (r : Str) : Str := if Txt.slice r (some 3) (some 5) = Str.ofString " \"" then parseT r else Str.empty

theorem bne_false {a b : Str} (h : (a != b) = false) : a = b := by simpa [bne] using h
theorem bne_true {a b : Str} (h : (a != b) = true) : a ≠ b := by simpa [bne] using h

theorem opens_len {r : Str} (h : Txt.slice r (some 3) (some 5) = Str.ofString " \"") : 5 ≤ r.length := by
  have e := slice_mid r 3 5 (by decide)
  rw [show (((3 : Nat) : Int)) = 3 from rfl, show (((5 : Nat) : Int)) = 5 from rfl, h] at e
  have e2 : (Str.ofString " \"").cps.toList = [32, 34] := by decide +kernel
  rw [e2] at e
  have := congrArg List.length e
  have hl : r.cps.size = r.length := rfl
  simp at this
  omega
theorem pinv_start {r : Str} (h : (Txt.slice r (some 3) (some 5) != Str.ofString " \"") = false) : PInv r 5 (Str.ofString "") := by
  have := opens_len (bne_false h)
  refine ⟨by omega, by omega, ?_, ?_⟩
  · have e : (Str.ofString "").length = 0 := by decide +kernel
    omega
  · have e : (Str.ofString "").cps.toList = [] := by decide +kernel
    rw [e]; rfl
theorem q_is : (Str.ofString "\"") = ⟨#[34]⟩ := by decide +kernel
theorem one_eq {c : Nat} : ((⟨#[c]⟩ : Str) = Str.ofString "\"") ↔ c = 34 := by
  rw [q_is]; constructor
  · intro h; have := congrArg (fun s : Str => s.cps.toList) h; simpa using this
  · intro h; rw [h]
theorem scan_len : ∀ (n : Nat) (l : List Nat), l.length ≤ n → (scan l).length ≤ l.length
  | _, [], _ => by rw [scan_nil]; exact Nat.le_refl _
  | 0, _ :: _, h => by simp at h
  | n + 1, c :: r, h => by
    by_cases hc : c = 34
    · subst hc
      match r with
      | [] => rw [scan_end]; simp
      | d :: r' =>
        by_cases hd : d = 34
        · subst hd; rw [scan_two]; have := scan_len n r' (by simp at h; omega); simp; omega
        · rw [scan_brk hd]; simp
    · rw [scan_one hc]; have := scan_len n r (by simpa using h); simp; omega
theorem pinv_len {r : Str} {d : Str} {u : List Nat} (h : d.cps.toList ++ u = scan (r.cps.toList.drop 5)) : d.length ≤ r.length := by
  have h1 := congrArg List.length h
  have h2 := scan_len _ (r.cps.toList.drop 5) (Nat.le_refl _)
  have h3 := len_toList r
  have h4 := len_toList d
  simp only [List.length_append, List.length_drop] at h1 h2
  omega
theorem pinv_one {r : Str} {i : Int} {d : Str} (h : PInv r i d) (hi : i < (r.length : Int)) (hc : Txt.item r i ≠ Str.ofString "\"") : PInv r (i + 1) (d ++ Txt.item r i) := by
  obtain ⟨h1, h2, h3, h4⟩ := h
  obtain ⟨c, e1, e2⟩ := item_is (x := r) (by omega) hi
  rw [e1] at hc ⊢
  have hc' : c ≠ 34 := fun e => hc (one_eq.mpr e)
  rw [e2, scan_one hc'] at h4
  have e3 : (i + 1).toNat = i.toNat + 1 := by omega
  have h5 : (d ++ (⟨#[c]⟩ : Str)).cps.toList ++ scan (r.cps.toList.drop (i + 1).toNat) = scan (r.cps.toList.drop 5) := by
    rw [toList_app, e3, ← h4]; simp
  exact ⟨by omega, by omega, pinv_len h5, h5⟩
theorem pinv_two {r : Str} {i : Int} {d : Str} (h : PInv r i d) (hi : i + 1 < (r.length : Int)) (hc : Txt.item r i = Str.ofString "\"") (hc2 : Txt.item r (i + 1) = Str.ofString "\"") : PInv r (i + 1 + 1) (d ++ Txt.item r i) := by
  obtain ⟨h1, h2, h3, h4⟩ := h
  obtain ⟨c, e1, e2⟩ := item_is (x := r) (i := i) (by omega) (by omega)
  obtain ⟨c', e1', e2'⟩ := item_is (x := r) (i := i + 1) (by omega) hi
  rw [e1] at hc ⊢
  rw [e1'] at hc2
  have hc := one_eq.mp hc
  have hc2 := one_eq.mp hc2
  subst hc hc2
  have e3 : (i + 1).toNat = i.toNat + 1 := by omega
  have e4 : (i + 1 + 1).toNat = i.toNat + 1 + 1 := by omega
  rw [e3] at e2'
  rw [e2, e2', scan_two] at h4
  have h5 : (d ++ (⟨#[34]⟩ : Str)).cps.toList ++ scan (r.cps.toList.drop (i + 1 + 1).toNat) = scan (r.cps.toList.drop 5) := by
    rw [toList_app, e4, ← h4]; simp
  exact ⟨by omega, by omega, pinv_len h5, h5⟩
theorem pinv_done {r : Str} {i : Int} {d : Str} (h : PInv r i d) (hi : ¬ i < (r.length : Int)) : d = parseT r := by
  obtain ⟨h1, h2, h3, h4⟩ := h
  have hl := len_toList r
  rw [List.drop_eq_nil_of_le (by omega), scan_nil, List.append_nil] at h4
  exact str_of_toList (by rw [h4]; rfl)
theorem pinv_brk1 {r : Str} {i : Int} {d : Str} (h : PInv r i d) (hi : i < (r.length : Int)) (hc : Txt.item r i = Str.ofString "\"") (hn : (r.length : Int) ≤ i + 1) : d = parseT r := by
  obtain ⟨h1, h2, h3, h4⟩ := h
  have hl := len_toList r
  obtain ⟨c, e1, e2⟩ := item_is (x := r) (i := i) (by omega) (by omega)
  rw [e1] at hc
  have hc := one_eq.mp hc
  subst hc
  rw [e2, List.drop_eq_nil_of_le (by omega), scan_end, List.append_nil] at h4
  exact str_of_toList (by rw [h4]; rfl)
theorem pinv_brk2 {r : Str} {i : Int} {d : Str} (h : PInv r i d) (hi : i + 1 < (r.length : Int)) (hc : Txt.item r i = Str.ofString "\"") (hc2 : Txt.item r (i + 1) ≠ Str.ofString "\"") : d = parseT r := by
  obtain ⟨h1, h2, h3, h4⟩ := h
  obtain ⟨c, e1, e2⟩ := item_is (x := r) (i := i) (by omega) (by omega)
  obtain ⟨c', e1', e2'⟩ := item_is (x := r) (i := i + 1) (by omega) hi
  rw [e1] at hc
  rw [e1'] at hc2
  have hc := one_eq.mp hc
  have hc2 : c' ≠ 34 := fun e => hc2 (one_eq.mpr e)
  subst hc
  have e3 : (i + 1).toNat = i.toNat + 1 := by omega
  rw [e3] at e2'
  rw [e2, e2', scan_brk hc2, List.append_nil] at h4
  exact str_of_toList (by rw [h4]; rfl)
end Mine
namespace Mine
abbrev PWord (r : Str) (i : Int) (d : Str) : Prop := 5 ≤ i ∧ i ≤ (r.length : Int) ∧ d.length ≤ r.length ∧ PInv r i d
theorem pword {r : Str} {i : Int} {d : Str} (h : PInv r i d) : PWord r i d := ⟨h.1, h.2.1, h.2.2.1, h⟩
theorem beq_t {a b : Str} (h : (a == b) = true) : a = b := by simpa using h
theorem beq_f {a b : Str} (h : (a == b) = false) : a ≠ b := by simpa using h
theorem w_one {r : Str} {i : Int} {d : Str} (h : PInv r i d) (hi : i < (r.length : Int)) (hc : (Txt.item r i == Str.ofString "\"") = false) : PWord r (i + 1) (d ++ Txt.item r i) := pword (pinv_one h hi (beq_f hc))
theorem w_two {r : Str} {i : Int} {d : Str} (h : PInv r i d) (hc : (Txt.item r i == Str.ofString "\"") = true) (hn : ¬ (r.length : Int) ≤ i + 1) (hc2 : (Txt.item r (i + 1) != Str.ofString "\"") = false) : PWord r (i + 1 + 1) (d ++ Txt.item r i) :=
  pword (pinv_two h (by omega) (beq_t hc) (bne_false hc2))
theorem read_none {r : Str} (h : (Txt.slice r (some 3) (some 5) != Str.ofString " \"") = true) : Str.ofString "" = readT r := by
  unfold readT; rw [if_neg (bne_true h)]; decide +kernel
theorem read_is {r d : Str} (h5 : (Txt.slice r (some 3) (some 5) != Str.ofString " \"") = false) (h : d = parseT r) : d = readT r := by
  unfold readT; rw [if_pos (bne_false h5)]; exact h
theorem read_done {r d : Str} {i : Int} (h5 : (Txt.slice r (some 3) (some 5) != Str.ofString " \"") = false) (h : PInv r i d) (hi : ¬ i < (r.length : Int)) : d = readT r := read_is h5 (pinv_done h hi)
theorem read_brk1 {r d : Str} {i : Int} (h5 : (Txt.slice r (some 3) (some 5) != Str.ofString " \"") = false) (h : PInv r i d) (hi : i < (r.length : Int)) (hc : (Txt.item r i == Str.ofString "\"") = true) (hn : (r.length : Int) ≤ i + 1) : d = readT r :=
  read_is h5 (pinv_brk1 h hi (beq_t hc) hn)
theorem read_brk2 {r d : Str} {i : Int} (h5 : (Txt.slice r (some 3) (some 5) != Str.ofString " \"") = false) (h : PInv r i d) (hc : (Txt.item r i == Str.ofString "\"") = true) (hn : ¬ (r.length : Int) ≤ i + 1) (hc2 : (Txt.item r (i + 1) != Str.ofString "\"") = true) : d = readT r :=
  read_is h5 (pinv_brk2 h (by omega) (beq_t hc) (bne_true hc2))
end Mine
namespace Mine
def NInv (r : Str) (k : Int) (d : Str) : Prop := 1 ≤ k ∧ k ≤ ((Txt.split r quote).length : Int) ∧ d ++ cont ((Txt.split r quote).drop k.toNat) = nameOf (Txt.split r quote)
theorem name_len (r : Str) : (nameOf (Txt.split r quote)).length ≤ r.length := by
  rw [← two_readings]
  have h := scan_len _ r.cps.toList (Nat.le_refl _)
  have h1 := len_toList r
  have h2 := len_toList (⟨(scan r.cps.toList).toArray⟩ : Str)
  have h3 : ((⟨(scan r.cps.toList).toArray⟩ : Str)).cps.toList = scan r.cps.toList := by simp
  rw [h3] at h2
  omega
abbrev NWord (r : Str) (k : Int) (d : Str) : Prop := 1 ≤ k ∧ k ≤ (r.length : Int) + 2 ∧ d.length ≤ r.length ∧ NInv r k d
theorem nword {r : Str} {k : Int} {d : Str} (h : NInv r k d) : NWord r k d := by
  refine ⟨h.1, Int.le_trans h.2.1 (by have := split_le r quote; omega), ?_, h⟩
  have h1 := congrArg Str.length h.2.2
  rw [Str.length_append] at h1
  have := name_len r
  omega
theorem n_start {r y : Str} {l : List Str} (hl : l = Txt.split r (Str.ofString "\"")) (hy : l[Int.toNat 0]? = some y) : NWord r 1 y := by
  have hl : l = Txt.split r quote := hl
  subst hl
  have hp := split_pos r quote
  refine nword ⟨by omega, by omega, ?_⟩
  match h : Txt.split r quote with
  | [] => rw [h] at hp; simp at hp
  | p :: q =>
    rw [h] at hy
    have : p = y := by simpa using hy
    subst this
    rfl
theorem n_turn {r d p q : Str} {k : Int} {l : List Str} (hl : l = Txt.split r (Str.ofString "\"")) (h : NInv r k d) (hp : l[k.toNat]? = some p) (he : (p == Str.ofString "") = true) (hq : l[(k + 1).toNat]? = some q) :
    NWord r (k + 2) (d ++ Str.ofString "\"" ++ q) := by
  have hl : l = Txt.split r quote := hl
  subst hl
  obtain ⟨h1, h2, h3⟩ := h
  have hk : (k + 1).toNat = k.toNat + 1 := by omega
  have hk2 : (k + 2).toNat = k.toNat + 1 + 1 := by omega
  rw [hk] at hq
  have hlt := (List.getElem?_eq_some_iff.mp hq).1
  refine nword ⟨by omega, by omega, ?_⟩
  have e1 : (Txt.split r quote).drop k.toNat = p :: q :: (Txt.split r quote).drop (k.toNat + 1 + 1) := by
    rw [List.drop_eq_getElem_cons (by omega), List.drop_eq_getElem_cons hlt]
    have a1 := (List.getElem?_eq_some_iff.mp hp).2
    have a2 := (List.getElem?_eq_some_iff.mp hq).2
    rw [a1, a2]
  have hpe : p = Str.empty := by
    have := beq_t he
    rw [this]; decide +kernel
  rw [e1, show cont (p :: q :: (Txt.split r quote).drop (k.toNat + 1 + 1)) = if p = Str.empty then quote ++ q ++ cont ((Txt.split r quote).drop (k.toNat + 1 + 1)) else Str.empty from rfl, if_pos hpe] at h3
  rw [hk2, ← h3]
  show d ++ quote ++ q ++ _ = _
  simp only [Str.append_assoc]
theorem n_done1 {r d : Str} {k : Int} (h : NInv r k d) (hk : ¬ k + 1 < ((Txt.split r (Str.ofString "\"")).length : Int)) : d = nameOf (Txt.split r quote) := by
  have hk : ¬ k + 1 < ((Txt.split r quote).length : Int) := hk
  obtain ⟨h1, h2, h3⟩ := h
  have hc : cont ((Txt.split r quote).drop k.toNat) = Str.empty := by
    match e : (Txt.split r quote).drop k.toNat with
    | [] => rfl
    | [_] => rfl
    | _ :: _ :: _ =>
      have := congrArg List.length e
      simp only [List.length_drop, List.length_cons] at this
      omega
  rw [hc, Str.append_empty] at h3
  exact h3
theorem n_done1' {r d : Str} {k : Int} {l : List (Str × Tok)} (hl : List.map (fun x => x.fst) l = Txt.split r (Str.ofString "\"")) (h : NInv r k d) (hk : ¬ k + 1 < (l.length : Int)) : d = nameOf (Txt.split r quote) :=
  n_done1 h (by rw [← hl, List.length_map]; exact hk)
theorem n_less {r d : Str} {k : Int} {l : List (Str × Tok)} (hl : List.map (fun x => x.fst) l = Txt.split r (Str.ofString "\"")) (h : NInv r k d) (hk : k + 1 < (l.length : Int)) : (Txt.split r quote).length - (k + 2).toNat < (Txt.split r quote).length - k.toNat := by
  have : l.length = (Txt.split r quote).length := by rw [show Txt.split r quote = Txt.split r (Str.ofString "\"") from rfl, ← hl, List.length_map]
  have := h.1
  omega
theorem n_done2 {r d p : Str} {k : Int} {l : List Str} (hl : l = Txt.split r (Str.ofString "\"")) (h : NInv r k d) (hp : l[k.toNat]? = some p) (he : (p == Str.ofString "") = false) : d = nameOf (Txt.split r quote) := by
  have hl : l = Txt.split r quote := hl
  subst hl
  obtain ⟨h1, h2, h3⟩ := h
  have hpe : p ≠ Str.empty := by
    have := beq_f he
    rw [show Str.ofString "" = Str.empty by decide +kernel] at this; exact this
  have hlt := (List.getElem?_eq_some_iff.mp hp).1
  have a1 := (List.getElem?_eq_some_iff.mp hp).2
  have hc : cont ((Txt.split r quote).drop k.toNat) = Str.empty := by
    rw [List.drop_eq_getElem_cons hlt, a1]
    match (Txt.split r quote).drop (k.toNat + 1) with
    | [] => rfl
    | q :: r' => show (if p = Str.empty then _ else _) = _; rw [if_neg hpe]
  rw [hc, Str.append_empty] at h3
  exact h3
end Mine

end

section
open PySem PySem.W PyProof.Rows PySem.Calls PySem.Spec
namespace Mine
/-- the written part of the heap shows an own exception class without an attribute of its own that its makers ask for -/
def tailQ (K : Frag) (bmB : List Value) : List Value → Bool
  | [] => bmB == []
  | v :: r => (v :: r) == bmB || match v with
    | .ref A => (match K.lookup A with
      | some ⟨_, _, .cls cd, _⟩ => nsOkIn K cd.ns && quietNames.all (fun n => nsIn K cd.ns n == some none) && tailQ K bmB r
      | _ => false)
    | _ => false
theorem quiet_of {K : Frag} {h : Heap} {N : Addr} (X : K.In h) (ok : nsOkIn K N = true) (q : quietNames.all (fun n => nsIn K N n == some none) = true) : ∀ n ∈ quietNames, h.nsMap N n = none :=
  fun n hn => nsMap_none_of_in X ok (beq_iff_eq.mp (List.all_eq_true.mp q n hn))
theorem tailQ_in {K : Frag} {h : Heap} {bmB : List Value} (X : K.In h) : ∀ {l : List Value}, tailQ K bmB l = true → OwnTailQ h bmB l
  | [], e => by rw [← beq_iff_eq.mp e]; exact .base
  | v :: r, e => by
    unfold tailQ at e
    rcases Bool.or_eq_true_iff.mp e with q | q
    · rw [beq_iff_eq.mp q]; exact .base
    · split at q
      · split at q
        · rename_i ho
          simp only [Bool.and_eq_true] at q
          exact .own (X _ _ ho) (.of_isNs (isNs_of_in X q.1.1)) (quiet_of X q.1.1 q.1.2) (tailQ_in X q.2)
        · cases q
      · cases q
def excQ (K : Frag) (C : Addr) (bmB : List Value) (newId : String) : Bool := match K.lookup C with
  | some ⟨.type "type", _, .cls cd, sl⟩ => (match cd.mro, sl.toList with
    | .ref C' :: bm, [_, _, _, _, some (.builtin n), _] => C' == C && n == newId && !cd.hasDel && tailQ K bmB bm && nsOkIn K cd.ns && quietNames.all (fun n => nsIn K cd.ns n == some none)
    | _, _ => false)
  | _ => false
theorem ownQ_in {K : Frag} {h₀ : Heap} {mg mb : Str → Option Value} {p : Program} {loose : List Str} {x : Str} {C : Addr} {bmB : List Value} {newId : String}
    (X : K.In h₀) (T : TopRead p loose mg mb h₀) (e : nsIn K mainGlobals x = some (some (.ref C))) (q : excQ K C bmB newId = true) : OwnClsQ x C bmB newId mg h₀ := by
  refine ⟨mg_of X T.g e, ?_⟩
  unfold excQ at q
  split at q
  · rename_i dd cd sl ho
    split at q
    · rename_i C' bm k0 k1 k2 k3 n k5 hm hs
      simp only [Bool.and_eq_true, beq_iff_eq, Bool.not_eq_true'] at q
      obtain ⟨⟨⟨⟨⟨rfl, rfl⟩, hdel⟩, ht⟩, hok⟩, hni⟩ := q
      obtain ⟨nm, bs, mro, ns, qn, hd, sn, sub, ab, col, del⟩ := cd
      dsimp only at hm hdel hok hni
      subst hm hdel
      have hsl : sl = #[k0, k1, k2, k3, some (.builtin n), k5] := by
        obtain ⟨l⟩ := sl
        simp only at hs
        rw [hs]
      subst hsl
      exact ⟨bm, ns, nm, qn, bs, hd, sn, sub, ab, col, dd, k0, k1, k2, k3, k5, _, X _ _ ho, .of_isNs (isNs_of_in X hok), quiet_of X hok hni, tailQ_in X ht⟩
    · cases q
  · cases q
/-- args of a caught own exception -/
theorem args_X {prog : Program} {w : World} {A : Around} {E : Value → Shared → Prop} {s : Shared} {h₀ : Heap} {L e t : Addr} {oe : Obj} {ws : Array Value} {news : List (Addr × Obj)} {K : Frag} {mg mb : Str → Option Value} {p : Program} {loose : List Str} {x : Str} {C : Addr} {newId : String} {m : Str → Option Value} {expr : Bool} {Q : Value → Shared → Prop}
    (X : K.In h₀) (T : TopRead p loose mg mb h₀) (en : nsIn K mainGlobals x = some (some (.ref C))) (q : excQ K C [.type "Exception", .type "BaseException", .type "object"] newId = true) (F : Fr h₀ L s.heap m) (N : News h₀ L s.heap news)
    (he : (e, oe) ∈ news) (hc : oe.cls = .ref C) (hd : oe.data = .fields ws) (h0 : ws[0]? = some (.ref t))
    (hq : ∀ k, Q (.ref t) { s with toks := k }) : wpAny (model prog w) A (getAttr (.ref e) "args" expr) Q E s := by
  obtain ⟨h, g, d, tk, os⟩ := s
  exact args_of_own PySem.F.attrBase_Exception ((ownQ_in X T en q).keeps F.keep) (N.get he) hc hd h0 (hq (tk + 1))

theorem refused_shaped {x r : Str} (hx : PyData.strOk x = true) (hr : PyData.strOk r = true) : SeqAt.shaped (.list [.str x, .tuple [.str r]]) = true := by
  simp [SeqAt.shaped, PyData.canLay0, PyData.canLayAll0, PyData.depth, PyData.depthAll, hx, hr]
theorem refused_eqv (x r : Str) : PyData.eqv (.list [.str x, .tuple [.str r]]) (.list [.str x, .tuple [.str r]]) = true := by
  simp [PyData.eqv, PyData.eqvAll]
theorem refused_reads {h₀ h : Heap} {L l t : Addr} {ol ot : Obj} {news : List (Addr × Obj)} {x r : Str} {t1 t2 : Tok} {nl nt : Nat} (N : News h₀ L h news) (hl : (l, ol) ∈ news) (hlc : ol.cls = .type "list") (hld : ol.data = .seq #[.str x t1, .ref t] nl)
    (ht : (t, ot) ∈ news) (htc : ot.cls = .type "tuple") (htd : ot.data = .seq [.str r t2].toArray nt) : ∃ as, Reads h (.ref l) (.list [.str x, .tuple [.str r]]) as :=
  ⟨_, reads_list_at (N.get hl) hlc hld (ReadsAll.cons (Reads.str _ _) (ReadsAll.cons (reads_tuple_at (N.get ht) htc htd (ReadsAll.cons (Reads.str _ _) ReadsAll.nil)) ReadsAll.nil))⟩
/-- two lists of a text and a tuple of one text, the texts the same -/
theorem ne_refused {prog : Program} {w : World} {A : Around} {E : Value → Shared → Prop} {s : Shared} {h₀ : Heap} {L a b t u : Addr} {oa ot ob ou : Obj} {news : List (Addr × Obj)} {x r : Str} {t1 t2 t3 t4 : Tok} {n1 n2 n3 n4 : Nat} {Q : Value → Shared → Prop} (N : News h₀ L s.heap news)
    (ha : (a, oa) ∈ news) (hac : oa.cls = .type "list") (had : oa.data = .seq #[.str x t1, .ref t] n1) (ht : (t, ot) ∈ news) (htc : ot.cls = .type "tuple") (htd : ot.data = .seq [.str r t2].toArray n2)
    (hb : (b, ob) ∈ news) (hbc : ob.cls = .type "list") (hbd : ob.data = .seq #[.str x t3, .ref u] n3) (hu : (u, ou) ∈ news) (huc : ou.cls = .type "tuple") (hud : ou.data = .seq [.str r t4].toArray n4)
    (hx : PyData.strOk x = true) (hr : PyData.strOk r = true) (hunits : A.units + 64 < cLine) (h : Q (.bool false) s) : wpAny (model prog w) A (compareOp .NotEq (.ref a) (.ref b)) Q E s := by
  obtain ⟨as, ra⟩ := refused_reads N ha hac had ht htc htd
  obtain ⟨bs, rb⟩ := refused_reads N hb hbc hbd hu huc hud
  refine ne_dataH ra rb (refused_shaped hx hr) (refused_shaped hx hr) hunits ?_
  rw [refused_eqv]; exact h
theorem ne_same {prog : Program} {w : World} {A : Around} {E : Value → Shared → Prop} {s : Shared} {x y : Str} {t u : Tok} {Q : Value → Shared → Prop} (e : x = y) (h : Q (.bool false) s) : wpAny (model prog w) A (compareOp .NotEq (.str x t) (.str y u)) Q E s := by
  subst e
  exact ne_str (by rw [bne_self_eq_false]; exact h)
theorem read_name {r : Str} (h : (Txt.slice r (some 3) (some 5) == Str.ofString " \"") = true) : readT r = nameOf (Txt.split (Txt.slice r (some 5) none) quote) := by
  unfold readT
  rw [if_pos (beq_t h), ← two_readings]
  unfold parseT
  have e := slice_from r 5
  rw [show (((5 : Nat) : Int)) = 5 from rfl] at e
  rw [e]
theorem read_empty {r : Str} (h : (Txt.slice r (some 3) (some 5) == Str.ofString " \"") = false) : readT r = Str.ofString "" := by
  unfold readT
  rw [if_neg (beq_f h)]; decide +kernel
theorem ok_iff {x : Str} : PyData.strOk x = true ↔ ∀ c ∈ x.cps.toList, c < 0x110000 := by
  unfold PyData.strOk
  rw [← Array.all_toList, List.all_eq_true]
  simp
theorem ok_app {a b : Str} (ha : PyData.strOk a = true) (hb : PyData.strOk b = true) : PyData.strOk (a ++ b) = true := by
  rw [ok_iff] at *
  rw [toList_app]
  intro c hc
  rcases List.mem_append.mp hc with h | h
  · exact ha c h
  · exact hb c h
theorem ok_join {sep : Str} (hs : PyData.strOk sep = true) : ∀ {l : List Str}, (∀ a ∈ l, PyData.strOk a = true) → PyData.strOk (Str.join sep l) = true
  | [], _ => by show PyData.strOk Str.empty = true; decide +kernel
  | [a], h => h a (by simp)
  | a :: b :: r, h => by
    show PyData.strOk (a ++ sep ++ Str.join sep (b :: r)) = true
    exact ok_app (ok_app (h a (by simp)) hs) (ok_join hs fun x hx => h x (List.mem_cons_of_mem _ hx))
end Mine

end

section
open PySem PySem.W PyProof.Rows
namespace Mine
def opening : List Nat := [50, 53, 55, 32, 34]
def readL (l : List Nat) : List Nat := if (l.drop 3).take 2 = [32, 34] then scan (l.drop 5) else []
theorem open2_toList : (Str.ofString " \"").cps.toList = [32, 34] := by decide +kernel
theorem readT_toList (r : Str) : (readT r).cps.toList = readL r.cps.toList := by
  unfold readT readL
  have e := slice_mid r 3 5 (by decide)
  rw [show (((3 : Nat) : Int)) = 3 from rfl, show (((5 : Nat) : Int)) = 5 from rfl] at e
  by_cases h : Txt.slice r (some 3) (some 5) = Str.ofString " \""
  · rw [if_pos h]
    rw [h, open2_toList] at e
    rw [if_pos e.symm]
    simp [parseT]
  · rw [if_neg h, if_neg ?_]
    · rfl
    · intro h2
      exact h (str_of_toList (by rw [e, open2_toList]; exact h2))
def cut (x : Str) (k : Nat) : Str := ⟨(x.cps.toList.take k).toArray⟩
theorem cut_toList (x : Str) (k : Nat) : (cut x k).cps.toList = x.cps.toList.take k := by simp [cut]
theorem slice_cut (x : Str) {k : Int} (h : 0 ≤ k) : Txt.slice x none (some k) = cut x k.toNat := by
  refine str_of_toList ?_
  rw [cut_toList]
  have e := slice_to x k.toNat
  rw [Int.toNat_of_nonneg h] at e
  exact e
theorem readT_of {r d : Str} (h : readL r.cps.toList = d.cps.toList) : readT r = d := str_of_toList (by rw [readT_toList]; exact h)

/-- what the building loop keeps -/
def Built (reply name : Str) (due : List Str) : Prop :=
  (∃ R, reply.cps.toList = opening ++ R ∧ (∀ rest, scan (R ++ rest) = name.cps.toList ++ scan rest) ∧ due.length = R.length + 3) ∧
  ∀ j, j < due.length → due[j]? = some (readT (cut reply (j + 3)))
theorem built_start : Built (Str.ofString "257 \"") (Str.ofString "") [Str.ofString "", Str.ofString "", Str.ofString ""] := by
  refine ⟨⟨[], by decide +kernel, fun rest => ?_, rfl⟩, ?_⟩
  · rw [List.nil_append, show (Str.ofString "").cps.toList = [] by decide +kernel]; rfl
  · decide +kernel
theorem readL_open (R : List Nat) : readL (opening ++ R) = scan R := by
  unfold readL
  exact if_pos (show List.take 2 (List.drop 3 (opening ++ R)) = [32, 34] from rfl)
theorem take_same {l s : List Nat} {k : Nat} (h : k ≤ l.length) : (l ++ s).take k = l.take k := List.take_append_of_le_length h
theorem built_more {reply name s : Str} {due ds : List Str} (h : Built reply name due) (hd : ds.length = s.length)
    (hs : ∀ i, i < s.length → ∃ d, ds[i]? = some d ∧ d.cps.toList = name.cps.toList ++ scan (s.cps.toList.take (i + 1))) :
    ∀ j, j < (due ++ ds).length → (due ++ ds)[j]? = some (readT (cut (reply ++ s) (j + 3))) := by
  obtain ⟨⟨R, h1, h2, h3⟩, h4⟩ := h
  intro j hj
  have hlen : reply.cps.toList.length = R.length + 5 := by rw [h1]; simp [opening]
  by_cases hj' : j < due.length
  · rw [List.getElem?_append_left hj', h4 j hj']
    have : cut (reply ++ s) (j + 3) = cut reply (j + 3) := by
      refine str_of_toList ?_
      rw [cut_toList, cut_toList, toList_app, take_same (by omega)]
    rw [this]
  · have hj'' : due.length ≤ j := by omega
    rw [List.getElem?_append_right hj'']
    rw [List.length_append] at hj
    obtain ⟨d, e1, e2⟩ := hs (j - due.length) (by omega)
    rw [e1]
    congr 1
    refine (readT_of ?_).symm
    rw [cut_toList, toList_app, h1, e2, List.append_assoc]
    have : (opening ++ (R ++ s.cps.toList)).take (j + 3) = opening ++ (R ++ s.cps.toList.take (j - due.length + 1)) := by
      rw [List.take_append, List.take_append, List.take_of_length_le (show opening.length ≤ j + 3 by show 5 ≤ j + 3; omega), List.take_of_length_le (show R.length ≤ j + 3 - opening.length by show R.length ≤ j + 3 - 5; omega)]
      congr 3
      show j + 3 - 5 - R.length = _
      omega
    rw [this, readL_open, h2]
theorem scan_app2 {R : List Nat} {n s d : List Nat} (h2 : ∀ rest, scan (R ++ rest) = n ++ scan rest) (hs : ∀ rest, scan (s ++ rest) = d ++ scan rest) (rest : List Nat) : scan ((R ++ s) ++ rest) = (n ++ d) ++ scan rest := by
  rw [List.append_assoc, h2, hs, List.append_assoc]
theorem built_step {reply name s d : Str} {due ds : List Str} (h : Built reply name due) (hd : ds.length = s.length)
    (hsc : ∀ rest, scan (s.cps.toList ++ rest) = d.cps.toList ++ scan rest)
    (hs : ∀ i, i < s.length → ∃ d, ds[i]? = some d ∧ d.cps.toList = name.cps.toList ++ scan (s.cps.toList.take (i + 1))) : Built (reply ++ s) (name ++ d) (due ++ ds) := by
  refine ⟨?_, built_more h hd hs⟩
  obtain ⟨⟨R, h1, h2, h3⟩, _⟩ := h
  have hl := len_toList s
  refine ⟨R ++ s.cps.toList, by rw [toList_app, h1, List.append_assoc], fun rest => ?_, ?_⟩
  · rw [toList_app]; exact scan_app2 h2 hsc rest
  · rw [List.length_append, List.length_append, h3, hd, hl]; omega
theorem qq_toList : (Str.ofString "\"\"").cps.toList = [34, 34] := by decide +kernel
theorem q_toList : (Str.ofString "\"").cps.toList = [34] := by decide +kernel
theorem built_quote {reply name : Str} {due : List Str} (h : Built reply name due) : Built (reply ++ Str.ofString "\"\"") (name ++ Str.ofString "\"") (due ++ [name] ++ [name ++ Str.ofString "\""]) := by
  rw [List.append_assoc]
  have hl : (Str.ofString "\"\"").length = 2 := by decide +kernel
  refine built_step h (by rw [hl]; rfl) (fun rest => ?_) (fun i hi => ?_)
  · rw [qq_toList, q_toList]; exact scan_two rest
  · rw [hl] at hi
    rw [qq_toList]
    match i, hi with
    | 0, _ => exact ⟨name, rfl, by show _ = name.cps.toList ++ scan [34]; rw [scan_end, List.append_nil]⟩
    | 1, _ => exact ⟨name ++ Str.ofString "\"", rfl, by show _ = name.cps.toList ++ scan [34, 34]; rw [scan_two, scan_nil, toList_app, q_toList]⟩
theorem built_sign {reply name : Str} {due : List Str} {c : Nat} (h : Built reply name due) (hc : c ≠ 34) : Built (reply ++ ⟨#[c]⟩) (name ++ ⟨#[c]⟩) (due ++ [name ++ ⟨#[c]⟩]) := by
  refine built_step h rfl (fun rest => scan_one hc) (fun i hi => ?_)
  have hi : i < 1 := hi
  obtain rfl : i = 0 := by omega
  exact ⟨name ++ ⟨#[c]⟩, rfl, by show _ = name.cps.toList ++ scan [c]; rw [scan_one hc, scan_nil, toList_app]⟩
/-- what stands when the reply is whole -/
def Whole (reply : Str) (due : List Str) : Prop :=
  (∃ R, reply.cps.toList = opening ++ R ∧ due.length = R.length + 3) ∧ ∀ j, j < due.length → due[j]? = some (readT (cut reply (j + 3)))
theorem tail_toList : (Str.ofString "\" \"done\"").cps.toList = [34, 32, 34, 100, 111, 110, 101, 34] := by decide +kernel
theorem whole_of {reply name : Str} {due : List Str} (h : Built reply name due) : Whole (reply ++ Str.ofString "\" \"done\"") (due ++ List.replicate 8 name) := by
  have hl : (Str.ofString "\" \"done\"").length = 8 := by decide +kernel
  refine ⟨?_, built_more h (by rw [hl]; simp) (fun i hi => ?_)⟩
  · obtain ⟨⟨R, h1, h2, h3⟩, _⟩ := h
    refine ⟨R ++ [34, 32, 34, 100, 111, 110, 101, 34], by rw [toList_app, h1, tail_toList, List.append_assoc], by simp [h3]⟩
  · rw [hl] at hi
    refine ⟨name, by rw [List.getElem?_replicate, if_pos hi], ?_⟩
    have : scan ([34, 32, 34, 100, 111, 110, 101, 34].take (i + 1)) = [] := by
      match i, hi with
      | 0, _ => exact scan_end
      | i + 1, _ => exact scan_brk (by decide)
    rw [tail_toList, this, List.append_nil]
end Mine

end

section
open PySem PySem.W PyProof.Rows
namespace Mine
def tab7 : List Str := [Str.ofString "a", Str.ofString "/", Str.ofString " ", Str.ofString "\n", Str.ofString "\\", Str.ofString "7", Str.ofString "'"]
abbrev BWord (n : Nat) (reply name : Str) (due : List Str) : Prop := reply.length ≤ 5 + 2 * n ∧ name.length ≤ n ∧ due.length ≤ 3 + 2 * n ∧ PyData.strOk reply = true ∧ Built reply name due
theorem bw_start : BWord ([] : List Int).length (Str.ofString "257 \"") (Str.ofString "") [Str.ofString "", Str.ofString "", Str.ofString ""] :=
  ⟨by decide +kernel, by decide +kernel, by decide +kernel, by decide +kernel, built_start⟩
theorem bw_quote {pre : List Int} {x : Int} {reply name : Str} {due : List Str} (h1 : reply.length ≤ 5 + 2 * pre.length) (h2 : name.length ≤ pre.length) (h3 : due.length ≤ 3 + 2 * pre.length) (h4 : PyData.strOk reply = true) (h : Built reply name due) :
    BWord (pre ++ [x]).length (reply ++ Str.ofString "\"\"") (name ++ Str.ofString "\"") (due ++ [name] ++ [name ++ Str.ofString "\""]) := by
  have e1 : (Str.ofString "\"\"").length = 2 := by decide +kernel
  have e2 : (Str.ofString "\"").length = 1 := by decide +kernel
  have e3 : (pre ++ [x]).length = pre.length + 1 := by simp
  refine ⟨by rw [Str.length_append]; omega, by rw [Str.length_append]; omega, by simp; omega, ok_app h4 (by decide +kernel), built_quote h⟩
theorem sign7 : ∀ j, j < 7 → (tab7.getD j Str.empty).length = 1 ∧ PyData.strOk (tab7.getD j Str.empty) = true ∧ (tab7.getD j Str.empty) ≠ ⟨#[34]⟩ := by decide +kernel
theorem one_sign {s : Str} (h : s.length = 1) : ∃ c, s = ⟨#[c]⟩ := by
  obtain ⟨⟨l⟩⟩ := s
  match l, h with
  | [c], _ => exact ⟨c, rfl⟩
theorem fmod7 (k : Int) : (Int.fmod k 7).toNat < 7 := by
  have := Int.fmod_lt_of_pos k (show (0:Int) < 7 by decide)
  have := Int.fmod_nonneg_of_pos k (show (0:Int) < 7 by decide)
  omega
theorem bw_sign {pre : List Int} {x y : Int} {reply name : Str} {due : List Str} (h1 : reply.length ≤ 5 + 2 * pre.length) (h2 : name.length ≤ pre.length) (h3 : due.length ≤ 3 + 2 * pre.length) (h4 : PyData.strOk reply = true) (h : Built reply name due) :
    BWord (pre ++ [x]).length (reply ++ tab7.getD (Int.fmod y 7).toNat Str.empty) (name ++ tab7.getD (Int.fmod y 7).toNat Str.empty) (due ++ [name ++ tab7.getD (Int.fmod y 7).toNat Str.empty]) := by
  obtain ⟨e1, e2, e4⟩ := sign7 _ (fmod7 y)
  generalize tab7.getD (Int.fmod y 7).toNat Str.empty = s at e1 e2 e4 ⊢
  have e3 : (pre ++ [x]).length = pre.length + 1 := by simp
  refine ⟨by rw [Str.length_append]; omega, by rw [Str.length_append]; omega, by simp; omega, ok_app h4 e2, ?_⟩
  obtain ⟨c, rfl⟩ := one_sign e1
  exact built_sign h (fun e => e4 (by rw [e]))
end Mine

end

section
open PySem PySem.W PyProof.Rows
namespace Mine
theorem whole_len {R : Str} {D : List Str} (h : Whole R D) : D.length + 2 = R.length := by
  obtain ⟨⟨S, h1, h2⟩, _⟩ := h
  have := congrArg List.length h1
  rw [len_toList] at this
  simp [opening] at this
  omega
theorem due_is {R : Str} {D : List Str} {k : Int} (h : Whole R D) (h3 : 3 ≤ k) (hk : k ≤ (R.length : Int)) : readT (Txt.slice R none (some k)) = D.getD (k - 3).toNat Str.empty := by
  have hl := whole_len h
  have e := h.2 (k - 3).toNat (by omega)
  have e2 : (k - 3).toNat + 3 = k.toNat := by omega
  rw [e2] at e
  rw [slice_cut R (by omega), List.getD_eq_getElem?_getD, e]
  rfl
theorem code_toList : (Str.ofString "257").cps.toList = [50, 53, 55] := by decide +kernel
theorem x_toList : (Str.ofString "x").cps.toList = [120] := by decide +kernel
theorem slice3 (r : Str) : Txt.slice r none (some 3) = Str.ofString "257" ↔ r.cps.toList.take 3 = [50, 53, 55] := by
  have e := slice_to r 3
  rw [show (((3 : Nat) : Int)) = 3 from rfl] at e
  constructor
  · intro h; rw [h, code_toList] at e; exact e.symm
  · intro h; exact str_of_toList (by rw [e, code_toList]; exact h)
theorem cut_short {R : Str} {k : Int} (h0 : 0 ≤ k) (h3 : k < 3) : Txt.slice (Txt.slice R none (some k)) none (some 3) ≠ Str.ofString "257" := by
  intro h
  rw [slice3, slice_cut R h0, cut_toList] at h
  have := congrArg List.length h
  simp at this
  omega
theorem cut_long {R : Str} {D : List Str} {k : Int} (h : Whole R D) (h3 : 3 ≤ k) : Txt.slice (Txt.slice R none (some k)) none (some 3) = Str.ofString "257" := by
  obtain ⟨⟨S, h1, _⟩, _⟩ := h
  rw [slice3, slice_cut R (by omega), cut_toList, List.take_take, h1]
  have : min 3 k.toNat = 3 := by omega
  rw [this]; rfl
theorem spoil_toList {R : Str} {k j : Int} (h0 : 0 ≤ k) (hj : j = k + 1) : (Txt.slice R none (some k) ++ Str.ofString "x" ++ Txt.slice R (some j) none).cps.toList = R.cps.toList.take k.toNat ++ 120 :: R.cps.toList.drop (k.toNat + 1) := by
  have e := slice_from R (k.toNat + 1)
  rw [show ((k.toNat + 1 : Nat) : Int) = j by omega] at e
  rw [toList_app, toList_app, slice_cut R h0, cut_toList, x_toList, e]
  simp
theorem spoil_code {R : Str} {D : List Str} {k j : Int} (h : Whole R D) (h0 : 0 ≤ k) (h3 : k < 3) (hj : j = k + 1) :
    Txt.slice (Txt.slice R none (some k) ++ Str.ofString "x" ++ Txt.slice R (some j) none) none (some 3) ≠ Str.ofString "257" := by
  intro hh
  rw [slice3, spoil_toList h0 hj] at hh
  obtain ⟨⟨S, h1, _⟩, _⟩ := h
  rw [h1] at hh
  have : k.toNat = 0 ∨ k.toNat = 1 ∨ k.toNat = 2 := by omega
  rcases this with e | e | e <;> rw [e] at hh <;> simp [opening] at hh
theorem spoil_ok {R : Str} {D : List Str} {k j : Int} (h : Whole R D) (h3 : 3 ≤ k) (h5 : k < 5) (hj : j = k + 1) :
    Txt.slice (Txt.slice R none (some k) ++ Str.ofString "x" ++ Txt.slice R (some j) none) none (some 3) = Str.ofString "257" := by
  rw [slice3, spoil_toList (by omega) hj]
  obtain ⟨⟨S, h1, _⟩, _⟩ := h
  rw [h1]
  have : k.toNat = 3 ∨ k.toNat = 4 := by omega
  rcases this with e | e <;> rw [e] <;> rfl
theorem spoil_read {R : Str} {D : List Str} {k j : Int} (h : Whole R D) (h3 : 3 ≤ k) (h5 : k < 5) (hj : j = k + 1) :
    readT (Txt.slice R none (some k) ++ Str.ofString "x" ++ Txt.slice R (some j) none) = Str.ofString "" := by
  refine readT_of ?_
  rw [spoil_toList (by omega) hj, show (Str.ofString "").cps.toList = [] by decide +kernel]
  obtain ⟨⟨S, h1, _⟩, _⟩ := h
  rw [h1]
  have : k.toNat = 3 ∨ k.toNat = 4 := by omega
  rcases this with e | e <;> rw [e] <;> unfold readL <;> exact if_neg (by simp [opening])
theorem ok_cut {R : Str} {k : Int} (h : PyData.strOk R = true) (h0 : 0 ≤ k) : PyData.strOk (Txt.slice R none (some k)) = true := by
  rw [ok_iff] at *
  rw [slice_cut R h0, cut_toList]
  exact fun c hc => h c (List.mem_of_mem_take hc)
theorem ok_from {R : Str} {j : Int} (h : PyData.strOk R = true) (h0 : 0 ≤ j) : PyData.strOk (Txt.slice R (some j) none) = true := by
  rw [ok_iff] at *
  have e := slice_from R j.toNat
  rw [Int.toNat_of_nonneg h0] at e
  rw [e]
  exact fun c hc => h c (List.mem_of_mem_drop hc)
theorem ok_spoil {R : Str} {k j : Int} (h : PyData.strOk R = true) (h0 : 0 ≤ k) (h1 : 0 ≤ j) : PyData.strOk (Txt.slice R none (some k) ++ Str.ofString "x" ++ Txt.slice R (some j) none) = true :=
  ok_app (ok_app (ok_cut h h0) (by decide +kernel)) (ok_from h h1)
theorem strs_replicate (s : Str) (t : Tok) : ∀ n, StrsAre (List.replicate n (.str s t)) (List.replicate n s)
  | 0 => .nil
  | n + 1 => .cons s t (strs_replicate s t n)
theorem not_long {vs : List Value} {b : Bool} {k : Nat} (h : vs.length + k ≤ 1000) : ¬ (b && Builtin.List.listTooLong (vs.toArray.size + k)) = true := by
  have : Builtin.List.listTooLong (vs.toArray.size + k) = false := by
    unfold Builtin.List.listTooLong
    simp [sizeLine]; omega
  rw [this]; simp
section
variable {prog : Program} {w : World} {A : Around} {E : Value → Shared → Prop} {s : Shared} {h₀ : Heap} {L : Addr} {m : Str → Option Value} {news news' : List (Addr × Obj)}
theorem extend_due {D b : Addr} {vs : List Value} {due : List Str} {reply name : Str} {t : Tok} {n n2 k : Nat} {Q : Value → Shared → Prop} (F : Fr h₀ L s.heap m) (N : News h₀ L s.heap news) (hb : (b, W.listOf (List.replicate 8 (Value.str name t)).toArray n2) ∈ news)
    (U : Upd D (W.listOf vs.toArray n) (W.listOf (vs ++ List.replicate 8 (Value.str name t)).toArray (n + 1)) news news') (hs : StrsAre vs due) (hk : k ≤ 20) (h1 : reply.length ≤ 5 + 2 * k) (h3 : due.length ≤ 3 + 2 * k) (h4 : PyData.strOk reply = true) (hB : Built reply name due)
    (h : ∀ h' D2, StrsAre (vs ++ List.replicate 8 (Value.str name t)) D2 → Whole (reply ++ Str.ofString "\" \"done\"") D2 → D2.length + 2 = (reply ++ Str.ofString "\" \"done\"").length → (reply ++ Str.ofString "\" \"done\"").length ≤ 53 → PyData.strOk (reply ++ Str.ofString "\" \"done\"") = true → Fr h₀ L h' m → News h₀ L h' news' → Q .none { s with heap := h' }) :
    wpAny (model prog w) A (call (.builtin "list.extend") [.ref D, .ref b]) Q E s := by
  have hl := hs.length
  have hW := whole_of hB
  have e : (Str.ofString "\" \"done\"").length = 8 := by decide +kernel
  refine kl_extend F N hb (l := vs ++ List.replicate 8 (Value.str name t)) (by simp) (by simp) U (by simpa using not_long (b := !vs.toArray.isEmpty) (vs := vs) (k := 8) (by omega)) ?_ ?_ (fun h' F' N' => h h' _ (hs.append' (strs_replicate name t 8)) hW (whole_len hW) (by rw [Str.length_append]; omega) (ok_app h4 (by decide +kernel)) F' N')
  · rw [sizeLine_eq]; simp; omega
  · rw [sizeLine_eq]; simp; omega
end
section
variable {prog : Program} {w : World} {A : Around} {E : Value → Shared → Prop} {s : Shared} {env : Env} {h₀ : Heap} {x : Str} {body : List Stmt} {Q : Flow → Shared → Prop}
/-- a loop over a range by ones, whose turns leave the ledger and all names but those that the body stores -/
theorem for_range {r : Addr} {a₀ b₀ : Int} {t₀ u₀ v₀ : Tok} {n : Nat} {m₀ : Str → Option Value} {news : List (Addr × Obj)} (stored : List Str)
    (hh : A.handled = none) (hr : IsRange s.heap r a₀ b₀ 1 t₀ u₀ v₀) (hsmall : Builtin.Range.small a₀ b₀ 1 = true) (hn : Builtin.Range.rangeSize a₀ b₀ 1 = (n : Int)) (F : Fr h₀ env.locals s.heap m₀) (N : News h₀ env.locals s.heap news)
    (turn : ∀ (k : Int) t (u : Str → Option Value) h tk own, a₀ ≤ k → k < a₀ + (n : Int) → OwnOff own (news.map (·.1)) → Fr h₀ env.locals h (fun y => if y = x then some (.int k t) else if stored.contains y then u y else m₀ y) → News h₀ env.locals h (news ++ own) →
      wpAny (model prog w) A (execs body env) (InvPost h₀ env.locals (fun m' => ∀ z, z ≠ x → stored.contains z = false → m' z = m₀ z) (news ++ own) { s with heap := h, toks := tk } Q) E { s with heap := h, toks := tk })
    (done : ∀ (u : Str → Option Value) h tk, Fr h₀ env.locals h (fun y => if y = x then u y else if stored.contains y then u y else m₀ y) → News h₀ env.locals h news → Q .next { s with heap := h, toks := tk }) :
    wpAny (model prog w) A (pyIter (.ref r)) (fun it s₂ => LoopAtV prog w A h₀ env x body Q E it s₂) E s := by
  refine kst_range (σ := Unit) (fun _ => news) (fun _ => []) (fun _ => True) stored (fun _ _ => True) () hh hr hsmall hn F N True.intro (fun _ hp => nomatch hp) True.intro ?_ ?_
  · intro c pre k t u h tk own hk hlt hoff _ _ F₁ N₁
    refine wpAny_mono (turn k t u h tk own (by omega) (by omega) hoff F₁ N₁) (fun f s₂ p => ?_) fun _ _ e => e
    have up : InvEnd h₀ env.locals (fun m' => ∀ z, z ≠ x → stored.contains z = false → m' z = m₀ z) (news ++ own) { s with heap := h, toks := tk } s₂ →
        InvEndN h₀ env.locals (KstS (fun _ : Unit => news) (fun _ => []) (fun _ => True) x stored m₀ (fun _ _ => True) (pre ++ [k])) own (news.map (·.1)) { s with heap := h, toks := tk } s₂ := by
      rintro ⟨h', tk', m', news', e, F', N', hn', hJ⟩
      exact ⟨h', tk', m', news', news, e, F', N', fun p hp => hn' p (List.mem_append.mpr (.inl hp)), fun p hp => hn' p (List.mem_append.mpr (.inr hp)), rfl, (), rfl, True.intro, (fun _ hp => nomatch hp), (fun z h1 _ h3 => hJ z h1 h3), True.intro⟩
    cases f with
    | ret v => exact p
    | brk => exact p
    | next => exact up p
    | cont => exact up p
  · intro c u h tk _ _ F₁ N₁
    exact done u h tk F₁ N₁
end
theorem ne_in {l : List Str} {z k : Str} (h : l.contains z = false) (hk : k ∈ l) : z ≠ k := by
  intro e
  subst e
  have : l.contains z = true := by simpa using hk
  rw [h] at this
  cases this
theorem not_in {l : List Str} {z : Str} (h : l.contains z = false) : ¬ l.contains z = true := by rw [h]; exact Bool.false_ne_true
theorem no_cut_short {R : Str} {k : Int} (hq : Txt.slice (Txt.slice R none (some k)) none (some 3) = Str.ofString "257") (h0 : 0 ≤ k) (h3 : k < 3) : False := cut_short h0 h3 hq
theorem no_spoil_code {R : Str} {D : List Str} {k j : Int} (hq : Txt.slice (Txt.slice R none (some k) ++ Str.ofString "x" ++ Txt.slice R (some j) none) none (some 3) = Str.ofString "257") (h : Whole R D) (h0 : 0 ≤ k) (h3 : k < 3) (hj : j = k + 1) : False := spoil_code h h0 h3 hj hq
theorem no_cut_long {R : Str} {D : List Str} {k : Int} (hq : Txt.slice (Txt.slice R none (some k)) none (some 3) ≠ Str.ofString "257") (h : Whole R D) (h3 : 3 ≤ k) : False := hq (cut_long h h3)
theorem no_spoil_ok {R : Str} {D : List Str} {k j : Int} (hq : Txt.slice (Txt.slice R none (some k) ++ Str.ofString "x" ++ Txt.slice R (some j) none) none (some 3) ≠ Str.ofString "257") (h : Whole R D) (h3 : 3 ≤ k) (h5 : k < 5) (hj : j = k + 1) : False := hq (spoil_ok h h3 h5 hj)
end Mine

end

section
open PySem PySem.W PyProof.Rows
namespace Mine
set_option maxHeartbeats 8000000 in
open_top hd for PySem.Challenge.rw_dv0008_02
end Mine
end

section
open PySem PySem.W PyProof.Rows
set_option maxHeartbeats 8000000
local macro_rules | `(tactic| walk_at "leaving ref") => `(tactic| (k_here; k_dflt (refine' leave_raiseS ?K ?X ?F ?N ?_; (case K => assumption); (case X => assumption); (case F => assumption); (case N => assumption)); intro h' t' S' R' U'))
namespace Mine
theorem parse_call {w : World} {loose : List Str} {mean : ExcName → Option Value} {mg mb : Str → Option Value} {news : List (Addr × Obj)} {r : Str} {t : Tok}
   {dp un : Nat} {gd : Option (List Code)} {cn : Str} {cs : Scope} {a : Addr} {ccd : Value} {cl : List (Str × Addr)} {outer : List Env} {A₀ : Around} {base h₀ : Heap} {L : Addr} {m : Str → Option Value} {s : Shared} {Q E : Value → Shared → Prop}
   (B : Below A₀ base outer h₀) (F : Fr h₀ L s.heap m) (X : (hd.heap_39 w.params).In h₀) (N : News h₀ L s.heap news) (T : Top hd.view_39 loose mean mg mb h₀) (hk : cs.kind = .function)
   (hl : r.length ≤ 200) (hdp : dp + 1 < recursionLimit)
   (hQ : Txt.slice r none (some 3) = Str.ofString "257" → ∀ t h' tk', Fr h₀ L h' m → News h₀ L h' news → Q (.str (readT r) t) { s with heap := h', toks := tk' })
   (hE : Txt.slice r none (some 3) ≠ Str.ofString "257" → ∀ e t' G h' tk', Fr h₀ L G m → RaisedS base G (envX cn cs L a ccd cl :: outer) e (.ref 37) t' [.str r t] news h' → G.UpToSlots h' → E (.ref e) { s with heap := h', toks := tk' }) :
   wpAny (model Challenge.rw_dv0008_02.row.prog w) (ktrTop dp un gd cn cs L a ccd cl outer) (call (.ref 46) [.str r t]) Q E s := by
  revert X; k_fill; intro X
  k_with_none
  k_with "exec While Compare cons nil" => k_while (fun _ i d => PWord r i d) (fun _ i _ => r.length - i.toNat) "i" "dirname"
  k_with "state" => first | exact pword (pinv_start (by assumption)) | exact w_one (by assumption) (by assumption) (by assumption) | exact w_two (by assumption) (by assumption) (by assumption) (by assumption)
  w_strict (refine wpAny_call ?_
            k_dflt cell_enter
            k_steps
            all_goals first
              | exact hE (bne_true (by assumption)) _ _ _ _ _ (by assumption) (by assumption) (by assumption)
              | exact cb_retS (hQ (bne_false (by assumption))) (read_none (by assumption)) (by assumption) (by assumption)
              | exact cb_retS (hQ (bne_false (by assumption))) (read_done (by assumption) (by assumption) (by assumption)) (by assumption) (by assumption)
              | exact cb_retS (hQ (bne_false (by assumption))) (read_brk1 (by assumption) (by assumption) (by assumption) (by assumption) (by assumption)) (by assumption) (by assumption)
              | exact cb_retS (hQ (bne_false (by assumption))) (read_brk2 (by assumption) (by assumption) (by assumption) (by assumption) (by assumption)) (by assumption) (by assumption)
              | trace_state)
  k_with_none
theorem got_news {g' : Heap} {L : Addr} {h' : Heap} {news₂ news : List (Addr × Obj)} {e t : Addr} {C : Value} {vs : List Value} (N₂ : News g' L h' news₂) (G : Got news₂ e t C vs) (N : News g' L h' news) :
    ∃ oe ot ws nt, oe.cls = C ∧ oe.data = .fields ws ∧ ws[0]? = some (.ref t) ∧ ot.cls = .type "tuple" ∧ ot.data = .seq vs.toArray nt ∧ News g' L h' ((e, oe) :: (t, ot) :: news) := by
  obtain ⟨oe, ot, ws, nt, h1, h2, h3, h4, h5, h6, h7⟩ := G
  refine ⟨oe, ot, ws, nt, h3, h4, h5, h6, h7, fun q hq => ?_⟩
  rcases List.mem_cons.mp hq with rfl | hq
  · exact N₂ _ h1
  · rcases List.mem_cons.mp hq with rfl | hq
    · exact N₂ _ h2
    · exact N q hq
end Mine

end

section
open PySem PySem.W PyProof.Rows
set_option maxHeartbeats 8000000
local macro_rules | `(tactic| walk_at "call ref") => `(tactic| (k_here; (with_reducible show wpAny _ _ (call (Value.ref 46) [Value.str _ _]) _ _ _); k_dflt (refine' Mine.parse_call ?k1 ?k2 ?k3 ?k4 ?k5 ?k6 ?k7 ?k8 ?_ ?_; (case k1 => k_asm); (case k2 => k_asm); (case k3 => k_asm); (case k4 => k_asm); (case k5 => k_asm); (case k6 => first | exact rfl | assumption); (case k7 => assumption); (case k8 => ktr_room)); (rotate_left; intro hq9 e9 t9 g9 h9 tk9 F9 R9 U9; rotate_left; intro hq9 t9 h9 tk9 F9 N9); (all_goals (try dsimp only)); all_goals (try k_fold)))
local macro_rules | `(tactic| walk_at "noteFrame ref") => `(tactic| (k_here; (rename RaisedS _ _ _ _ _ _ _ _ _ => rkX); k_dflt (refine' caught_SOB ?R ?F ?K ?U ?XB ?TB ?D ?T0 ?ex ?q ?_; (case R => exact rkX); (case F => assumption); (case K => assumption); (case U => assumption); (case XB => assumption); (case TB => assumption); (case D => assumption); (case T0 => exact KtsTurn.refl); (case ex => k_is); (case q => kts_isx); k_whole); intro h' g' n₂ tk' T' F' N₂ G' N' K' X' P' D'; (obtain ⟨oe', ot', ws', nt', oc', od', o0', tc', td', NN'⟩ := Mine.got_news N₂ G' N'); clear N₂ G' N'; (try k_sweep)))
local macro_rules | `(tactic| walk_at "getAttr ref") => `(tactic| (k_here; (with_reducible show wpAny _ _ (getAttr (Value.ref _) ("args" : Str) _) _ _ _); k_dflt (refine' Mine.args_X (newId := "Exception.__new__") (x := Str.ofString "error_reply") ?X ?T ?en ?q ?F ?N ?G ?hc ?hd ?h0 ?_; (case X => k_asm); (case T => k_asm); (case en => k_is); (case q => kernel_rfl); (case F => assumption); (case N => assumption); (case G => k_mem); (case hc => assumption); (case hd => assumption); (case h0 => assumption); k_whole); intro k9))
namespace Mine
theorem read_call {w : World} {loose : List Str} {mean : ExcName → Option Value} {mg mb : Str → Option Value} {news : List (Addr × Obj)} {r : Str} {t : Tok}
   {dp un : Nat} {gd : Option (List Code)} {cn : Str} {cs : Scope} {a : Addr} {ccd : Value} {A₀ : Around} {h₀ : Heap} {L : Addr} {m : Str → Option Value} {s : Shared} {Q E : Value → Shared → Prop}
   (B : Below A₀ h₀ [] h₀) (F : Fr h₀ L s.heap m) (X : (hd.heap_39 w.params).In h₀) (N : News h₀ L s.heap news) (T : Top hd.view_39 loose mean mg mb h₀) (hk : cs.kind = .function)
   (hl : r.length ≤ 200) (hdp : dp + 2 < recursionLimit)
   (hQ : Txt.slice r none (some 3) = Str.ofString "257" → ∀ t h' tk', Fr h₀ L h' m → News h₀ L h' news → Q (.str (readT r) t) { s with heap := h', toks := tk' })
   (hR : Txt.slice r none (some 3) ≠ Str.ofString "257" → ∀ l e t' oe ot nt t1 h' tk', Fr h₀ L h' m → ot.cls = .type "tuple" → ot.data = .seq [.str r t].toArray nt → News h₀ L h' ((l, W.listOf #[.str (Str.ofString "refused") t1, .ref t'] 0) :: (e, oe) :: (t', ot) :: news) → Q (.ref l) { s with heap := h', toks := tk' }) :
   wpAny (model Challenge.rw_dv0008_02.row.prog w) (ktrTop dp un gd cn cs L a ccd [] []) (call (.ref 53) [.str r t]) Q E s := by
  revert X; k_fill; intro X
  k_with_none
  w_strict (refine wpAny_call ?_
            k_dflt (refine' code_defS0 ?k1 ?k2 ?k3 ?k4 ?k5 ?kA ?k6 ?k7 ?k8 ?k9 ?kB ?_ ?kK ?c2 ?c3 ?c4 ?c5; (case kA => exact rfl); (case kK => assumption); (case k1 => k_asm); (case k2 => k_asm); (case k3 => k_asm); (case k4 => k_asm); (case k5 => k_asm); (case k6 => k_is); (case k7 => k_is); (case k8 => ktr_room); (case k9 => exact BindsTo.of_eq rfl); (case c5 => decide); (case kB => exact locs rfl); (case c2 => exact rfl); (case c3 => exact rfl); (case c4 => exact rfl); k_whole)
            intro g' L' h' FG' F' N' B' X' T' D'; (try dsimp only); (try k_lift B'); (try k_fold)
            k_steps
            all_goals first
              | exact hQ (by assumption) _ _ _ (by assumption) (by assumption)
              | exact hR (by assumption) _ _ _ _ _ _ _ _ _ (by assumption) (by assumption) (by assumption) (by assumption)
              | trace_state)
  k_with_none
end Mine

end

open PySem PySem.W PyProof.Rows
local macro_rules | `(tactic| kst_facts1) => `(tactic| exact PyProof.Rows.StrsAre.append' (PyProof.Rows.StrsAre.append' (by assumption) (.cons _ _ .nil)) (.cons _ _ .nil))
local macro_rules | `(tactic| walk_at "binaryOp Mult ref int") => `(tactic| (k_here; (with_reducible show wpAny _ _ (binaryOp Operator.Mult (Value.ref _) (Value.int _ _)) _ _ _); k_dflt (refine' KMa.mul (ws := List.replicate 8 _) ?F ?N ?l ?lo ?hi ?z ?e ?_; (case F => k_asm); (case N => k_asm); (case l => exact News.isList (by k_asm) (List.Mem.head _)); (case lo => decide); (case hi => decide); (case z => exact Nat.le_of_ble_eq_true rfl); (case e => exact rfl); k_whole); intro D' h' F' N' l1; (try k_lt l1); (try k_sweep)))
local macro_rules | `(tactic| walk_at "call builtin:list.extend") => `(tactic| (k_here; (with_reducible show wpAny _ _ (call (Value.builtin _) [Value.ref _, Value.ref _]) _ _ _); k_dflt (refine' Mine.extend_due ?F ?N ?b ?U ?hs ?hk ?h1 ?h3 ?h4 ?hB ?_; (case F => k_asm); (case N => k_asm); (case b => k_mem); (case U => k_upd); (case hs => assumption); (case hB => assumption); (case h1 => assumption); (case h3 => assumption); (case h4 => assumption); (case hk => omega); k_whole); intro h' D2' sA' hW' hLen' hLe' hOk' F' N'; (try k_sweep)))
local macro_rules | `(tactic| walk_at "pyIter ref") => `(tactic| (k_here; (rename Fr _ _ _ _ => lF'); (rename News _ _ _ _ => lN'); (rename IsRange _ _ _ _ _ _ _ _ => rgX); k_dflt (with_unfolding_all refine' Mine.for_range [Str.ofString "spoiled"] ?hh rgX ?hs ?hn lF' lN' ?_ ?_; (case hh => exact rfl); (case hs => first | exact small_one (by omega) (by omega) (by omega) (by omega) | decide); (case hn => first | exact rangeSize_nat _ _ | rfl)); (rotate_left; intro u' h' tk' F' N'; rotate_left; intro k' t' u' h' tk' own' lo' hi' off' F' N'); (all_goals (clear lF' lN' rgX)); (all_goals (try simp only [List.cons_append, List.nil_append] at N')); (all_goals (try dsimp only)); (all_goals (try k_fold))))
local macro_rules | `(tactic| walk_at "call ref") => `(tactic| (k_here; (with_reducible show wpAny _ _ (call (Value.ref 53) [Value.str _ _]) _ _ _); k_dflt (refine' Mine.read_call ?k1 ?k2 ?k3 ?k4 ?k5 ?k6 ?k7 ?k8 ?_ ?_; (case k1 => k_asm); (case k2 => k_asm); (case k3 => k_asm); (case k4 => k_asm); (case k5 => k_asm); (case k6 => first | exact rfl | assumption); (case k7 => kopn_len); (case k8 => ktr_room)); (rotate_left; intro hq9 l9 e9 t9 oe9 ot9 nt9 u9 h9 tk9 F9 tc9 td9 N9; (try (exfalso; first | ((with_reducible refine Mine.no_cut_long hq9 (by assumption) ?_) <;> omega) | ((with_reducible refine Mine.no_spoil_ok hq9 (by assumption) ?_ ?_ ?_) <;> omega))); rotate_left; intro hq9 t9 h9 tk9 F9 N9; (try (exfalso; first | ((with_reducible refine Mine.no_cut_short hq9 ?_ ?_) <;> omega) | ((with_reducible refine Mine.no_spoil_code hq9 (by assumption) ?_ ?_ ?_) <;> omega)))); (all_goals (try dsimp only)); all_goals (try k_fold)))
local macro_rules | `(tactic| walk_at "compareOp NotEq str str") => `(tactic| (k_here; (with_reducible show wpAny _ _ (compareOp CmpOp.NotEq (Value.str (Mine.readT _) _) (Value.str _ _)) _ _ _); (refine Mine.ne_same (by first | ((with_reducible refine Mine.spoil_read (by assumption) ?_ ?_ ?_) <;> omega) | ((with_reducible refine Mine.due_is (by assumption) ?_ ?_) <;> omega)) ?_)))
local macro_rules | `(tactic| walk_at "compareOp NotEq ref ref") => `(tactic| (k_here; (with_reducible show wpAny _ _ (compareOp CmpOp.NotEq (Value.ref _) (Value.ref _)) _ _ _); k_dflt (refine' Mine.ne_refused ?N ?ha ?hac ?had ?ht ?htc ?htd ?hb ?hbc ?hbd ?hu ?huc ?hud ?hx ?hr ?hun ?_; (case N => k_asm); (case ha => k_mem); (case hac => rfl); (case had => rfl); (case ht => k_mem); (case htc => assumption); (case htd => assumption); (case hb => k_mem); (case hbc => rfl); (case hbd => rfl); (case hu => k_mem); (case huc => rfl); (case hud => rfl); (case hx => decide +kernel); (case hr => first | ((with_reducible refine Mine.ok_cut (by assumption) ?_) <;> omega) | ((with_reducible refine Mine.ok_spoil (by assumption) ?_ ?_) <;> omega)); (case hun => ke_room); k_whole)))
local macro_rules | `(tactic| walk_at "subscriptTail Name BinOp ref int") => `(tactic| (k_here; k_dflt (refine' KTb.item_list ?l ?w ?lo ?hi ?fit ?_; (case l => exact News.isList (by k_asm) (by k_mem)); (case w => assumption); (case lo => omega); (case hi => omega); (case fit => omega)); intro t9 lt9))
local macro_rules | `(tactic| walk_at "InvEnd") => `(tactic| (k_dflt (refine' InvEnd.intro ?F ?N ?n ?_; (case F => assumption); (case N => k_asm); (case n => kst_inAny)); (intro z h1 h2; (have h7 := Mine.not_in h2); (have h3 := Mine.ne_in (k := Str.ofString "spoiled") h2 (by k_mem)); (repeat (first | with_reducible rfl | refine (if_neg h3).trans ?_ | refine (if_neg h1).trans ?_ | refine (if_neg h7).trans ?_)))))
set_option maxHeartbeats 8000000 in
theorem PySem.Challenge.cw_dv0008_02_holds : PySem.Challenge.rw_dv0008_02.Holds := by
  refine Mine.hd ?_
  k_with_none
  k_with "table" => skip
  k_with "pyIter ref" => k_state (fun pre reply name due => Mine.BWord pre.length reply name due) "reply" "name" "due"
  k_with "state" => first | exact Mine.bw_start | exact Mine.bw_quote (by assumption) (by assumption) (by assumption) (by assumption) (by assumption) | exact Mine.bw_sign (by assumption) (by assumption) (by assumption) (by assumption) (by assumption)
  w_strict k_go
