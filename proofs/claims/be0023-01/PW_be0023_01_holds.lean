import PyProof.Rows.All
import Wide.All
import OpenK.AllK
import Wide.FinOn
import PySem.Challenge.RW_be0023_01
open PySem PySem.W PyProof.Rows
set_option Elab.async false
set_option linter.all false
set_option maxRecDepth 100000
set_option maxHeartbeats 1000000
set_option compiler.extract_closed false
namespace Mine
section
noncomputable def unescL : List Nat → List Nat
 | [] => []
 | [c] => [c]
 | c :: d :: r => if c = 92 ∧ d ∈ [92, 44, 59, 58, 110, 78] then (if d ∈ [110, 78] then 10 else d) :: unescL r else c :: unescL (d :: r)
noncomputable def unescS (x : Str) : Str := ⟨(unescL x.cps.toList).toArray⟩
theorem unescL_len : ∀ l : List Nat, (unescL l).length ≤ l.length
 | [] => Nat.le_refl _
 | [c] => Nat.le_refl _
 | c :: d :: r => by
  have h1 := unescL_len r
  have h2 := unescL_len (d :: r)
  unfold unescL
  split <;> simp only [List.length_cons] at * <;> lia
noncomputable def cat (ls : List (Str × Tok)) : List Nat := ls.flatMap (·.1.cps.toList)
theorem cat_snoc (ls : List (Str × Tok)) (y : Str) (t : Tok) : cat (ls ++ [(y, t)]) = cat ls ++ y.cps.toList := by simp [cat]
theorem strValues_snoc (ls : List (Str × Tok)) (y : Str) (t : Tok) : (strValues ls).toArray.push (.str y t) = (strValues (ls ++ [(y, t)])).toArray := by simp [strValues]
theorem glued_foldl (l : List Str) : ∀ acc : Array Nat, (l.foldl (fun acc p => acc ++ (#[] : Array Nat) ++ p.cps) acc).toList = acc.toList ++ l.flatMap (·.cps.toList) := by
 induction l with
 | nil => intro acc; simp
 | cons a l ih => intro acc; rw [List.foldl_cons, ih]; simp
theorem join_nil (l : List Str) : Txt.join "" l = ⟨(l.flatMap (·.cps.toList)).toArray⟩ := by
 show Builtin.Str.glued "" l = _
 unfold Builtin.Str.glued
 have e : (Str.ofString "").cps = #[] := by decide
 rw [e]
 cases l with
 | nil => rfl
 | cons a l =>
  congr 1
  apply Array.ext'
  rw [List.drop_one, List.tail_cons, glued_foldl]
  simp
theorem joinTotal_nil (l : List Str) : ∀ n : Nat, l.foldl (fun a s => a + s.length + 0) n = n + (l.flatMap (·.cps.toList)).length := by
 induction l with
 | nil => intro n; simp
 | cons a l ih =>
  intro n
  rw [List.foldl_cons, ih]
  simp only [List.flatMap_cons, List.length_append, Array.length_toList]
  show n + a.cps.size + 0 + _ = _
  lia
theorem joinOk_nil (l : List Str) (h : (l.flatMap (·.cps.toList)).length ≤ 16777216) : JoinOk "" l = true := by
 unfold JoinOk
 rw [Bool.not_eq_true']
 unfold Builtin.Str.tooLong
 have e : (Str.ofString "").length = 0 := by decide
 rw [e, decide_eq_false_iff_not]
 rw [List.foldl_toArray]
 rw [joinTotal_nil]
 unfold sizeLine
 lia
theorem item_at {x : Str} {i : Nat} (h : i < x.length) : Txt.item x (i : Int) = ⟨#[x.cps[i]'h]⟩ :=
 item_meets (Int.natCast_nonneg i) (by show x.cps[i]? = _; exact Array.getElem?_eq_getElem h)
theorem drop_at {x : Str} {i : Nat} (h : i < x.length) : x.cps.toList.drop i = x.cps[i]'h :: x.cps.toList.drop (i + 1) := by
 have h' : i < x.cps.toList.length := by rw [Array.length_toList]; exact h
 rw [List.drop_eq_getElem_cons h', Array.getElem_toList]
 rfl
theorem one_eq (c d : Nat) : ((⟨#[c]⟩ : Str) == ⟨#[d]⟩) = decide (c = d) := by
 rw [Bool.eq_iff_iff]
 simp
theorem occ_one (y : Str) (c : Nat) : (Builtin.Str.occurrences y ⟨#[c]⟩ 0 y.length 1).isEmpty = !decide (c ∈ y.cps.toList) := by
 rw [← StrLaws.found_one, Bool.not_not]
theorem item_at1 {x : Str} {i : Nat} (h : i + 1 < x.length) : Txt.item x ((i : Int) + 1) = ⟨#[x.cps[i + 1]'h]⟩ := item_at (i := i + 1) h
theorem sv_len (ls : List (Str × Tok)) (p : Str × Tok) : (strValues (ls ++ [p])).length = (strValues ls).length + 1 := by simp [strValues]
theorem led_snoc (l : Addr) (ls : List (Str × Tok)) (y : Str) (t : Tok) (k : Nat) (news : List (Addr × Obj)) :
  ((l, W.listOf ((strValues ls).toArray.push (.str y t)) (k + 1)) :: news) = (l, W.listOf (strValues (ls ++ [(y, t)])).toArray (k + 1)) :: news := by rw [strValues_snoc]
theorem bs_is : Str.ofString "\\" = ⟨#[92]⟩ := by decide
theorem nl_is : Str.ofString "\n" = ⟨#[10]⟩ := by decide
theorem set_is : (Str.ofString "\\,;:nN").cps.toList = [92, 44, 59, 58, 110, 78] := by decide
theorem nN_is : (Str.ofString "nN").cps.toList = [110, 78] := by decide
theorem unescL_plain {c : Nat} {r : List Nat} (h : c ≠ 92 ∨ r = [] ∨ ∃ d r', r = d :: r' ∧ d ∉ [92, 44, 59, 58, 110, 78]) : unescL (c :: r) = c :: unescL r := by
 cases r with
 | nil => simp [unescL]
 | cons d r =>
  rw [unescL, if_neg]
  rintro ⟨h1, h2⟩
  rcases h with h | h | ⟨d', r', e, h⟩
  ·exact h h1
  ·cases h
  ·cases e; exact h h2
theorem unescL_two {d : Nat} {r : List Nat} (h : d ∈ [92, 44, 59, 58, 110, 78]) : unescL (92 :: d :: r) = (if d ∈ [110, 78] then 10 else d) :: unescL r := by
 rw [unescL, if_pos ⟨rfl, h⟩]
section
variable {x : Str} {i : Nat} {ls : List (Str × Tok)} {t : Tok}
theorem un5 (hcat : cat ls ++ unescL (x.cps.toList.drop i) = unescL x.cps.toList) (h : i < x.length) (c1 : (Txt.item x (i : Int) == Str.ofString "\\") = false) :
  cat (ls ++ [(Txt.item x (i : Int), t)]) ++ unescL (x.cps.toList.drop (i + 1)) = unescL x.cps.toList := by
 rw [item_at h, bs_is, one_eq, decide_eq_false_iff_not] at c1
 rw [drop_at h, unescL_plain (.inl c1)] at hcat
 rw [cat_snoc, item_at h, ← hcat]
 simp
theorem un4 (hcat : cat ls ++ unescL (x.cps.toList.drop i) = unescL x.cps.toList) (h : i < x.length) (h1 : ¬ i + 1 < x.length) :
  cat (ls ++ [(Txt.item x (i : Int), t)]) ++ unescL (x.cps.toList.drop (i + 1)) = unescL x.cps.toList := by
 have e : x.cps.toList.drop (i + 1) = [] := List.drop_eq_nil_of_le (by rw [Array.length_toList]; exact Nat.le_of_not_lt h1)
 rw [drop_at h, unescL_plain (.inr (.inl e))] at hcat
 rw [cat_snoc, item_at h, ← hcat]
 simp
theorem un1 (hcat : cat ls ++ unescL (x.cps.toList.drop i) = unescL x.cps.toList) (h : i + 1 < x.length)
  (c2 : (Builtin.Str.occurrences (Str.ofString "\\,;:nN") (Txt.item x ((i : Int) + 1)) 0 (Str.ofString "\\,;:nN").length 1).isEmpty = true) :
  cat (ls ++ [(Txt.item x (i : Int), t)]) ++ unescL (x.cps.toList.drop (i + 1)) = unescL x.cps.toList := by
 have h0 : i < x.length := by lia
 rw [item_at1 h, occ_one, set_is, Bool.not_eq_true', decide_eq_false_iff_not] at c2
 rw [drop_at h0, unescL_plain (.inr (.inr ⟨_, _, drop_at h, c2⟩))] at hcat
 rw [cat_snoc, item_at h0, ← hcat]
 simp
theorem un2 (hcat : cat ls ++ unescL (x.cps.toList.drop i) = unescL x.cps.toList) (h : i + 1 < x.length) (c1 : (Txt.item x (i : Int) == Str.ofString "\\") = true)
  (c2 : (Builtin.Str.occurrences (Str.ofString "\\,;:nN") (Txt.item x ((i : Int) + 1)) 0 (Str.ofString "\\,;:nN").length 1).isEmpty = false)
  (c3 : (Builtin.Str.occurrences (Str.ofString "nN") (Txt.item x ((i : Int) + 1)) 0 (Str.ofString "nN").length 1).isEmpty = true) :
  cat (ls ++ [(Txt.item x ((i : Int) + 1), t)]) ++ unescL (x.cps.toList.drop (i + 2)) = unescL x.cps.toList := by
 have h0 : i < x.length := by lia
 rw [item_at h0, bs_is, one_eq, decide_eq_true_eq] at c1
 rw [item_at1 h, occ_one, set_is, Bool.not_eq_false', decide_eq_true_eq] at c2
 rw [item_at1 h, occ_one, nN_is, Bool.not_eq_true', decide_eq_false_iff_not] at c3
 rw [drop_at h0, drop_at h, c1, unescL_two c2, if_neg c3] at hcat
 rw [cat_snoc, item_at1 h, ← hcat]
 simp
theorem un3 (hcat : cat ls ++ unescL (x.cps.toList.drop i) = unescL x.cps.toList) (h : i + 1 < x.length) (c1 : (Txt.item x (i : Int) == Str.ofString "\\") = true)
  (c2 : (Builtin.Str.occurrences (Str.ofString "\\,;:nN") (Txt.item x ((i : Int) + 1)) 0 (Str.ofString "\\,;:nN").length 1).isEmpty = false)
  (c3 : (Builtin.Str.occurrences (Str.ofString "nN") (Txt.item x ((i : Int) + 1)) 0 (Str.ofString "nN").length 1).isEmpty = false) :
  cat (ls ++ [(Str.ofString "\n", t)]) ++ unescL (x.cps.toList.drop (i + 2)) = unescL x.cps.toList := by
 have h0 : i < x.length := by lia
 rw [item_at h0, bs_is, one_eq, decide_eq_true_eq] at c1
 rw [item_at1 h, occ_one, set_is, Bool.not_eq_false', decide_eq_true_eq] at c2
 rw [item_at1 h, occ_one, nN_is, Bool.not_eq_false', decide_eq_true_eq] at c3
 rw [drop_at h0, drop_at h, c1, unescL_two c2, if_pos c3] at hcat
 rw [cat_snoc, nl_is, ← hcat]
 simp
theorem unEnd (hcat : cat ls ++ unescL (x.cps.toList.drop i) = unescL x.cps.toList) (h : ¬ i < x.length) : Txt.join "" (ls.map (·.1)) = unescS x ∧ (x.length ≤ 65536 → JoinOk "" (ls.map (·.1)) = true) := by
 rw [List.drop_eq_nil_of_le (by rw [Array.length_toList]; exact Nat.le_of_not_lt h)] at hcat
 have e : cat ls = unescL x.cps.toList := by rw [← hcat]; simp [unescL]
 have e2 : (ls.map (·.1)).flatMap (·.cps.toList) = cat ls := by simp [cat, List.flatMap_map]
 refine ⟨?_, fun hx => joinOk_nil _ ?_⟩
 ·rw [join_nil, e2, e]; rfl
 ·rw [e2, e]
  have h1 : (unescL x.cps.toList).length ≤ x.cps.toList.length := unescL_len x.cps.toList
  have h2 : x.cps.toList.length = x.cps.size := Array.length_toList
  have hx' : x.cps.size ≤ 65536 := hx
  lia
end
noncomputable def splitG (sep : Nat) : List Nat → List Nat → List (List Nat)
 | cur, [] => [cur]
 | cur, [c] => if c = sep then [cur, []] else [cur ++ [c]]
 | cur, c :: d :: r => if c = 92 then splitG sep (cur ++ [c, d]) r else if c = sep then cur :: splitG sep [] (d :: r) else splitG sep (cur ++ [c]) (d :: r)
termination_by structural _ l => l
noncomputable def strOf (l : List Nat) : Str := ⟨l.toArray⟩
noncomputable def splitS (sep : Nat) (x : Str) : List Str := (splitG sep [] x.cps.toList).map fun l => strOf (unescL l)
theorem splitG_nil (sep : Nat) (cur : List Nat) : splitG sep cur [] = [cur] := rfl
theorem splitG_bs (sep : Nat) (cur : List Nat) (d : Nat) (r : List Nat) : splitG sep cur (92 :: d :: r) = splitG sep (cur ++ [92, d]) r := if_pos rfl
theorem splitG_sep {sep c : Nat} (cur : List Nat) (r : List Nat) (h : c ≠ 92 ∨ r = []) (h2 : c = sep) : splitG sep cur (c :: r) = cur :: splitG sep [] r := by
 cases r with
 | nil => exact if_pos h2
 | cons d r => exact (if_neg (h.elim id (fun e => by cases e))).trans (if_pos h2)
theorem splitG_one {sep c : Nat} (cur : List Nat) (r : List Nat) (h : c ≠ 92 ∨ r = []) (h2 : c ≠ sep) : splitG sep cur (c :: r) = splitG sep (cur ++ [c]) r := by
 cases r with
 | nil => exact if_neg h2
 | cons d r => exact (if_neg (h.elim id (fun e => by cases e))).trans (if_neg h2)
noncomputable def readAll (ls : List (List Nat)) : List Str := ls.map fun l => strOf (unescL l)
theorem texts_snoc (ls : List (Str × Tok)) (y : Str) (t : Tok) : (ls ++ [(y, t)]).map (·.1) = ls.map (·.1) ++ [y] := by simp
theorem sp1 {x : Str} {i sep : Nat} {rl cl : List (Str × Tok)} {t t' : Tok} {S : List Str} (hcat : rl.map (·.1) ++ readAll (splitG sep (cat cl) (x.cps.toList.drop i)) = S) (h : i + 1 < x.length)
  (c1 : (Txt.item x (i : Int) == Str.ofString "\\") = true) : rl.map (·.1) ++ readAll (splitG sep (cat ((cl ++ [(Txt.item x (i : Int), t)]) ++ [(Txt.item x ((i : Int) + 1), t')])) (x.cps.toList.drop (i + 2))) = S := by
 have h0 : i < x.length := by lia
 rw [item_at h0, bs_is, one_eq, decide_eq_true_eq] at c1
 rw [drop_at h0, drop_at h, c1, splitG_bs] at hcat
 rw [cat_snoc, cat_snoc, item_at h0, item_at1 h, c1, ← hcat]
 simp
theorem sp2 {x : Str} {i sep : Nat} {rl cl : List (Str × Tok)} {t : Tok} {S : List Str} (hcat : rl.map (·.1) ++ readAll (splitG sep (cat cl) (x.cps.toList.drop i)) = S) (h : i < x.length)
  (c1 : (Txt.item x (i : Int) == Str.ofString "\\") = true → ¬ i + 1 < x.length) {o : Str} (ho : o = ⟨#[sep]⟩) (c2 : (Txt.item x (i : Int) == o) = true) {y : Str} (hy : y = strOf (unescL (cat cl))) :
  (rl ++ [(y, t)]).map (·.1) ++ readAll (splitG sep (cat []) (x.cps.toList.drop (i + 1))) = S := by
 subst ho
 rw [item_at h, bs_is, one_eq, decide_eq_true_eq] at c1
 rw [item_at h, one_eq, decide_eq_true_eq] at c2
 rw [drop_at h, splitG_sep _ _ _ c2] at hcat
 ·rw [texts_snoc, hy, ← hcat]
  simp [readAll, cat]
 ·by_cases q : x.cps[i]'h = 92
  ·exact .inr (List.drop_eq_nil_of_le (by rw [Array.length_toList]; exact Nat.le_of_not_lt (c1 q)))
  ·exact .inl q
theorem sp3 {x : Str} {i sep : Nat} {rl cl : List (Str × Tok)} {t : Tok} {S : List Str} (hcat : rl.map (·.1) ++ readAll (splitG sep (cat cl) (x.cps.toList.drop i)) = S) (h : i < x.length)
  (c1 : (Txt.item x (i : Int) == Str.ofString "\\") = true → ¬ i + 1 < x.length) {o : Str} (ho : o = ⟨#[sep]⟩) (c2 : (Txt.item x (i : Int) == o) = false) :
  rl.map (·.1) ++ readAll (splitG sep (cat (cl ++ [(Txt.item x (i : Int), t)])) (x.cps.toList.drop (i + 1))) = S := by
 subst ho
 rw [item_at h, bs_is, one_eq, decide_eq_true_eq] at c1
 rw [item_at h, one_eq, decide_eq_false_iff_not] at c2
 rw [drop_at h, splitG_one _ _ _ c2] at hcat
 ·rw [cat_snoc, item_at h, ← hcat]
 ·by_cases q : x.cps[i]'h = 92
  ·exact .inr (List.drop_eq_nil_of_le (by rw [Array.length_toList]; exact Nat.le_of_not_lt (c1 q)))
  ·exact .inl q
theorem spEnd {x : Str} {i sep : Nat} {rl cl : List (Str × Tok)} {t : Tok} {S : List Str} (hcat : rl.map (·.1) ++ readAll (splitG sep (cat cl) (x.cps.toList.drop i)) = S) (h : ¬ i < x.length) {y : Str} (hy : y = strOf (unescL (cat cl))) :
  (rl ++ [(y, t)]).map (·.1) = S := by
 rw [List.drop_eq_nil_of_le (by rw [Array.length_toList]; exact Nat.le_of_not_lt h), splitG_nil] at hcat
 rw [texts_snoc, hy, ← hcat]
 simp [readAll]
theorem comma_is : Str.ofString "," = ⟨#[44]⟩ := by decide
theorem semi_is : Str.ofString ";" = ⟨#[59]⟩ := by decide
theorem join_cat (cl : List (Str × Tok)) : Txt.join "" (cl.map (·.1)) = strOf (cat cl) := by rw [join_nil, strOf]; simp [cat, List.flatMap_map]
theorem joinOk_cat (cl : List (Str × Tok)) (h : (cat cl).length ≤ 65536) : JoinOk "" (cl.map (·.1)) = true := joinOk_nil _ (by
 have e : (cl.map (·.1)).flatMap (·.cps.toList) = cat cl := by simp [cat, List.flatMap_map]
 rw [e]; lia)
theorem len_strOf (l : List Nat) : (strOf l).length = l.length := by show (strOf l).cps.size = _; simp [strOf]
theorem unescS_strOf (l : List Nat) : unescS (strOf l) = strOf (unescL l) := by simp [unescS, strOf]
theorem cat_len_item (cl : List (Str × Tok)) (x : Str) (i : Int) (t : Tok) : (cat (cl ++ [(Txt.item x i, t)])).length = (cat cl).length + 1 := by rw [cat_snoc, List.length_append]; rfl
theorem led_snoc2 (l : Addr) (ls : List (Str × Tok)) (y y' : Str) (t t' : Tok) (k : Nat) (news : List (Addr × Obj)) :
  ((l, W.listOf (((strValues ls).toArray.push (.str y t)).push (.str y' t')) (k + 1 + 1)) :: news) = (l, W.listOf (strValues ((ls ++ [(y, t)]) ++ [(y', t')])).toArray (k + 1 + 1)) :: news := by rw [strValues_snoc, strValues_snoc]
theorem led_two (c r : Addr) (ls : List (Str × Tok)) (y : Str) (t : Tok) (k : Nat) (news : List (Addr × Obj)) :
  ((c, W.listOf #[] 0) :: (r, W.listOf ((strValues ls).toArray.push (.str y t)) (k + 1)) :: news) = (c, W.listOf (strValues []).toArray 0) :: (r, W.listOf (strValues (ls ++ [(y, t)])).toArray (k + 1)) :: news := by rw [strValues_snoc]; rfl
theorem splitS_nil {x : Str} (sep : Nat) (h : x.length = 0) : splitS sep x = [Str.ofString ""] := by
 have e : x.cps.toList = [] := List.eq_nil_of_length_eq_zero (by rw [Array.length_toList]; exact h)
 unfold splitS
 rw [e, splitG_nil]
 rfl
end
section
inductive Mb {α : Type} (a : α) : List α → Prop
 | head {l : List α} : Mb a (a :: l)
 | tail {b : α} {l : List α} : Mb a l → Mb a (b :: l)
 | right {q l : List α} : Mb a l → Mb a (q ++ l)
inductive Sb {α : Type} : List α → List α → Prop
 | refl {l : List α} : Sb l l
 | nil {l : List α} : Sb [] l
 | left {r q : List α} : Sb r (r ++ q)
 | cons {a : α} {r l : List α} : Mb a l → Sb r l → Sb (a :: r) l
 | app {r q l : List α} : Sb r l → Sb q l → Sb (r ++ q) l
 | skip {a : α} {r l : List α} : Sb r l → Sb r (a :: l)
 | right {r q l : List α} : Sb r l → Sb r (q ++ l)
theorem Mb.mem {α : Type} {a : α} {l : List α} (h : Mb a l) : a ∈ l := by
 induction h with
 | head => exact .head _
 | tail _ ih => exact .tail _ ih
 | right _ ih => exact List.mem_append_right _ ih
theorem Sb.mem {α : Type} {r l : List α} (h : Sb r l) : ∀ p ∈ r, p ∈ l := by
 induction h with
 | refl => exact fun u' h => h
 | nil => exact fun u' h => nomatch h
 | left => exact fun u' h => List.mem_append_left _ h
 | cons h _ ih => exact fun u' hp => (List.mem_cons.mp hp).elim (fun e => e ▸ h.mem) (ih _)
 | app _ _ i1 i2 => exact fun u' hp => (List.mem_append.mp hp).elim (i1 _) (i2 _)
 | skip _ ih => exact fun u' hp => .tail _ (ih _ hp)
 | right _ ih => exact fun u' hp => List.mem_append_right _ (ih _ hp)
theorem sub {α : Type} {r l : List α} {p : α} (hp : p ∈ r) (h : Sb r l := by repeat' constructor) : p ∈ l := h.mem p hp
theorem rm1 {a b c n : Nat} (h : a + b < n) (e : Nat.ble c b = true) : a + c < n := Nat.lt_of_le_of_lt (Nat.add_le_add_left (Nat.le_of_ble_eq_true e) a) h
theorem rm2 {a b c d n : Nat} (h : a + b < n) (e : Nat.ble (c + d) b = true) : a + c + d < n := Nat.add_assoc a c d ▸ rm1 h e
theorem rl1 {a b c n : Nat} (h : a + b < n) (e : Nat.ble c b = true) : a + c ≤ n := Nat.le_of_lt (rm1 h e)
theorem rl2 {a b c d n : Nat} (h : a + b < n) (e : Nat.ble (c + d) b = true) : a + c + d ≤ n := Nat.le_of_lt (rm2 h e)
section
variable {M : Model} {A : Around} {α : Type} {Q : α → Shared → Prop} {E : Value → Shared → Prop} {s : Shared} {c : Prop} [Decidable c] {x y : Sem α}
theorem w_if (h : c) (t : wpAny M A x Q E s) : wpAny M A (if c then x else y) Q E s := by rw [if_pos h]; exact t
theorem w_else (h : ¬ c) (t : wpAny M A y Q E s) : wpAny M A (if c then x else y) Q E s := by rw [if_neg h]; exact t
end
theorem mcons {α : Type} {P : α → Prop} {a : α} {l : List α} (h : P a) (t : ∀ p ∈ l, P p) : ∀ p ∈ a :: l, P p := List.forall_mem_cons.mpr ⟨h, t⟩
theorem lenS {α : Type} {n : Nat} : ∀ {l : List α}, l.length = n + 1 → ∃ a t, l = a :: t ∧ t.length = n
 | a :: t, h => ⟨a, t, rfl, Nat.succ.inj h⟩
theorem len5 {α : Type} {l : List α} (h : l.length = 5) : ∃ a b c d e, l = [a, b, c, d, e] := by
 obtain ⟨a, t1, rfl, h1⟩ := lenS h
 obtain ⟨b, t2, rfl, h2⟩ := lenS h1
 obtain ⟨c, t3, rfl, h3⟩ := lenS h2
 obtain ⟨d, t4, rfl, h4⟩ := lenS h3
 obtain ⟨e, t5, rfl, h5⟩ := lenS h4
 exact ⟨a, b, c, d, e, by rw [List.length_eq_zero_iff.mp h5]⟩
theorem len7 {α : Type} {l : List α} (h : l.length = 7) : ∃ a b c d e f g, l = [a, b, c, d, e, f, g] := by
 obtain ⟨a, t1, rfl, h1⟩ := lenS h
 obtain ⟨b, t2, rfl, h2⟩ := lenS h1
 obtain ⟨c, d, e, f, g, rfl⟩ := len5 h2
 exact ⟨a, b, c, d, e, f, g, rfl⟩
theorem all9 {P : Nat → Prop} (h0 : P 0) (h1 : P 1) (h2 : P 2) (h3 : P 3) (h4 : P 4) (h5 : P 5) (h6 : P 6) (h7 : P 7) (h8 : P 8) : ∀ d, d < 9 → P d
 | 0, _ => h0
 | 1, _ => h1
 | 2, _ => h2
 | 3, _ => h3
 | 4, _ => h4
 | 5, _ => h5
 | 6, _ => h6
 | 7, _ => h7
 | 8, _ => h8
 | n + 9, h => absurd h (Nat.not_lt.mpr (Nat.le_add_left 9 n))
theorem rc1 {a b c : Nat} (h : a + b < 500) (e : Nat.ble c 500 = true) : a + c < recursionLimit := by
 have := Nat.le_of_ble_eq_true e
 rw [show recursionLimit = 1000 from rfl]; lia
theorem ex8 {α0 : Sort _} {α1 : Sort _} {α2 : Sort _} {α3 : Sort _} {α4 : Sort _} {α5 : Sort _} {α6 : Sort _} {α7 : Sort _} {p : α0 → α1 → α2 → α3 → α4 → α5 → α6 → α7 → Prop} (a0 : α0) (a1 : α1) (a2 : α2) (a3 : α3) (a4 : α4) (a5 : α5) (a6 : α6) (a7 : α7) (h : p a0 a1 a2 a3 a4 a5 a6 a7) : ∃ a0 a1 a2 a3 a4 a5 a6 a7, p a0 a1 a2 a3 a4 a5 a6 a7 := ⟨a0, a1, a2, a3, a4, a5, a6, a7, h⟩
theorem ob0_3 {p0 p1 p2 : Prop} {G : Prop} (h : p0 ∧ p1 ∧ p2) (k : p0 → p1 → p2 → G) : G := by obtain ⟨h0, h1, h2⟩ := h; exact k h0 h1 h2
theorem ob0_4 {p0 p1 p2 p3 : Prop} {G : Prop} (h : p0 ∧ p1 ∧ p2 ∧ p3) (k : p0 → p1 → p2 → p3 → G) : G := by obtain ⟨h0, h1, h2, h3⟩ := h; exact k h0 h1 h2 h3
theorem ob1_2 {α0 : Sort _} {p0 p1 : α0 → Prop} {G : Prop} (h : ∃ a0, p0 a0 ∧ p1 a0) (k : ∀ a0, p0 a0 → p1 a0 → G) : G := by obtain ⟨a0, h0, h1⟩ := h; exact k a0 h0 h1
theorem ob1_3 {α0 : Sort _} {p0 p1 p2 : α0 → Prop} {G : Prop} (h : ∃ a0, p0 a0 ∧ p1 a0 ∧ p2 a0) (k : ∀ a0, p0 a0 → p1 a0 → p2 a0 → G) : G := by obtain ⟨a0, h0, h1, h2⟩ := h; exact k a0 h0 h1 h2
theorem ob2_2 {α0 : Sort _} {α1 : Sort _} {p0 p1 : α0 → α1 → Prop} {G : Prop} (h : ∃ a0 a1, p0 a0 a1 ∧ p1 a0 a1) (k : ∀ a0 a1, p0 a0 a1 → p1 a0 a1 → G) : G := by obtain ⟨a0, a1, h0, h1⟩ := h; exact k a0 a1 h0 h1
theorem ob2_3 {α0 : Sort _} {α1 : Sort _} {p0 p1 p2 : α0 → α1 → Prop} {G : Prop} (h : ∃ a0 a1, p0 a0 a1 ∧ p1 a0 a1 ∧ p2 a0 a1) (k : ∀ a0 a1, p0 a0 a1 → p1 a0 a1 → p2 a0 a1 → G) : G := by obtain ⟨a0, a1, h0, h1, h2⟩ := h; exact k a0 a1 h0 h1 h2
theorem ob2_5 {α0 : Sort _} {α1 : Sort _} {p0 p1 p2 p3 p4 : α0 → α1 → Prop} {G : Prop} (h : ∃ a0 a1, p0 a0 a1 ∧ p1 a0 a1 ∧ p2 a0 a1 ∧ p3 a0 a1 ∧ p4 a0 a1) (k : ∀ a0 a1, p0 a0 a1 → p1 a0 a1 → p2 a0 a1 → p3 a0 a1 → p4 a0 a1 → G) : G := by obtain ⟨a0, a1, h0, h1, h2, h3, h4⟩ := h; exact k a0 a1 h0 h1 h2 h3 h4
theorem ob2_6 {α0 : Sort _} {α1 : Sort _} {p0 p1 p2 p3 p4 p5 : α0 → α1 → Prop} {G : Prop} (h : ∃ a0 a1, p0 a0 a1 ∧ p1 a0 a1 ∧ p2 a0 a1 ∧ p3 a0 a1 ∧ p4 a0 a1 ∧ p5 a0 a1) (k : ∀ a0 a1, p0 a0 a1 → p1 a0 a1 → p2 a0 a1 → p3 a0 a1 → p4 a0 a1 → p5 a0 a1 → G) : G := by obtain ⟨a0, a1, h0, h1, h2, h3, h4, h5⟩ := h; exact k a0 a1 h0 h1 h2 h3 h4 h5
theorem ob3_2 {α0 : Sort _} {α1 : Sort _} {α2 : Sort _} {p0 p1 : α0 → α1 → α2 → Prop} {G : Prop} (h : ∃ a0 a1 a2, p0 a0 a1 a2 ∧ p1 a0 a1 a2) (k : ∀ a0 a1 a2, p0 a0 a1 a2 → p1 a0 a1 a2 → G) : G := by obtain ⟨a0, a1, a2, h0, h1⟩ := h; exact k a0 a1 a2 h0 h1
theorem ob3_5 {α0 : Sort _} {α1 : Sort _} {α2 : Sort _} {p0 p1 p2 p3 p4 : α0 → α1 → α2 → Prop} {G : Prop} (h : ∃ a0 a1 a2, p0 a0 a1 a2 ∧ p1 a0 a1 a2 ∧ p2 a0 a1 a2 ∧ p3 a0 a1 a2 ∧ p4 a0 a1 a2) (k : ∀ a0 a1 a2, p0 a0 a1 a2 → p1 a0 a1 a2 → p2 a0 a1 a2 → p3 a0 a1 a2 → p4 a0 a1 a2 → G) : G := by obtain ⟨a0, a1, a2, h0, h1, h2, h3, h4⟩ := h; exact k a0 a1 a2 h0 h1 h2 h3 h4
theorem ob3_7 {α0 : Sort _} {α1 : Sort _} {α2 : Sort _} {p0 p1 p2 p3 p4 p5 p6 : α0 → α1 → α2 → Prop} {G : Prop} (h : ∃ a0 a1 a2, p0 a0 a1 a2 ∧ p1 a0 a1 a2 ∧ p2 a0 a1 a2 ∧ p3 a0 a1 a2 ∧ p4 a0 a1 a2 ∧ p5 a0 a1 a2 ∧ p6 a0 a1 a2) (k : ∀ a0 a1 a2, p0 a0 a1 a2 → p1 a0 a1 a2 → p2 a0 a1 a2 → p3 a0 a1 a2 → p4 a0 a1 a2 → p5 a0 a1 a2 → p6 a0 a1 a2 → G) : G := by obtain ⟨a0, a1, a2, h0, h1, h2, h3, h4, h5, h6⟩ := h; exact k a0 a1 a2 h0 h1 h2 h3 h4 h5 h6
theorem ob4_2 {α0 : Sort _} {α1 : Sort _} {α2 : Sort _} {α3 : Sort _} {p0 p1 : α0 → α1 → α2 → α3 → Prop} {G : Prop} (h : ∃ a0 a1 a2 a3, p0 a0 a1 a2 a3 ∧ p1 a0 a1 a2 a3) (k : ∀ a0 a1 a2 a3, p0 a0 a1 a2 a3 → p1 a0 a1 a2 a3 → G) : G := by obtain ⟨a0, a1, a2, a3, h0, h1⟩ := h; exact k a0 a1 a2 a3 h0 h1
theorem ob4_7 {α0 : Sort _} {α1 : Sort _} {α2 : Sort _} {α3 : Sort _} {p0 p1 p2 p3 p4 p5 p6 : α0 → α1 → α2 → α3 → Prop} {G : Prop} (h : ∃ a0 a1 a2 a3, p0 a0 a1 a2 a3 ∧ p1 a0 a1 a2 a3 ∧ p2 a0 a1 a2 a3 ∧ p3 a0 a1 a2 a3 ∧ p4 a0 a1 a2 a3 ∧ p5 a0 a1 a2 a3 ∧ p6 a0 a1 a2 a3) (k : ∀ a0 a1 a2 a3, p0 a0 a1 a2 a3 → p1 a0 a1 a2 a3 → p2 a0 a1 a2 a3 → p3 a0 a1 a2 a3 → p4 a0 a1 a2 a3 → p5 a0 a1 a2 a3 → p6 a0 a1 a2 a3 → G) : G := by obtain ⟨a0, a1, a2, a3, h0, h1, h2, h3, h4, h5, h6⟩ := h; exact k a0 a1 a2 a3 h0 h1 h2 h3 h4 h5 h6
theorem ob5_3 {α0 : Sort _} {α1 : Sort _} {α2 : Sort _} {α3 : Sort _} {α4 : Sort _} {p0 p1 p2 : α0 → α1 → α2 → α3 → α4 → Prop} {G : Prop} (h : ∃ a0 a1 a2 a3 a4, p0 a0 a1 a2 a3 a4 ∧ p1 a0 a1 a2 a3 a4 ∧ p2 a0 a1 a2 a3 a4) (k : ∀ a0 a1 a2 a3 a4, p0 a0 a1 a2 a3 a4 → p1 a0 a1 a2 a3 a4 → p2 a0 a1 a2 a3 a4 → G) : G := by obtain ⟨a0, a1, a2, a3, a4, h0, h1, h2⟩ := h; exact k a0 a1 a2 a3 a4 h0 h1 h2
theorem ob5_6 {α0 : Sort _} {α1 : Sort _} {α2 : Sort _} {α3 : Sort _} {α4 : Sort _} {p0 p1 p2 p3 p4 p5 : α0 → α1 → α2 → α3 → α4 → Prop} {G : Prop} (h : ∃ a0 a1 a2 a3 a4, p0 a0 a1 a2 a3 a4 ∧ p1 a0 a1 a2 a3 a4 ∧ p2 a0 a1 a2 a3 a4 ∧ p3 a0 a1 a2 a3 a4 ∧ p4 a0 a1 a2 a3 a4 ∧ p5 a0 a1 a2 a3 a4) (k : ∀ a0 a1 a2 a3 a4, p0 a0 a1 a2 a3 a4 → p1 a0 a1 a2 a3 a4 → p2 a0 a1 a2 a3 a4 → p3 a0 a1 a2 a3 a4 → p4 a0 a1 a2 a3 a4 → p5 a0 a1 a2 a3 a4 → G) : G := by obtain ⟨a0, a1, a2, a3, a4, h0, h1, h2, h3, h4, h5⟩ := h; exact k a0 a1 a2 a3 a4 h0 h1 h2 h3 h4 h5
theorem ob9_3 {α0 : Sort _} {α1 : Sort _} {α2 : Sort _} {α3 : Sort _} {α4 : Sort _} {α5 : Sort _} {α6 : Sort _} {α7 : Sort _} {α8 : Sort _} {p0 p1 p2 : α0 → α1 → α2 → α3 → α4 → α5 → α6 → α7 → α8 → Prop} {G : Prop} (h : ∃ a0 a1 a2 a3 a4 a5 a6 a7 a8, p0 a0 a1 a2 a3 a4 a5 a6 a7 a8 ∧ p1 a0 a1 a2 a3 a4 a5 a6 a7 a8 ∧ p2 a0 a1 a2 a3 a4 a5 a6 a7 a8) (k : ∀ a0 a1 a2 a3 a4 a5 a6 a7 a8, p0 a0 a1 a2 a3 a4 a5 a6 a7 a8 → p1 a0 a1 a2 a3 a4 a5 a6 a7 a8 → p2 a0 a1 a2 a3 a4 a5 a6 a7 a8 → G) : G := by obtain ⟨a0, a1, a2, a3, a4, a5, a6, a7, a8, h0, h1, h2⟩ := h; exact k a0 a1 a2 a3 a4 a5 a6 a7 a8 h0 h1 h2
theorem ob9_6 {α0 : Sort _} {α1 : Sort _} {α2 : Sort _} {α3 : Sort _} {α4 : Sort _} {α5 : Sort _} {α6 : Sort _} {α7 : Sort _} {α8 : Sort _} {p0 p1 p2 p3 p4 p5 : α0 → α1 → α2 → α3 → α4 → α5 → α6 → α7 → α8 → Prop} {G : Prop} (h : ∃ a0 a1 a2 a3 a4 a5 a6 a7 a8, p0 a0 a1 a2 a3 a4 a5 a6 a7 a8 ∧ p1 a0 a1 a2 a3 a4 a5 a6 a7 a8 ∧ p2 a0 a1 a2 a3 a4 a5 a6 a7 a8 ∧ p3 a0 a1 a2 a3 a4 a5 a6 a7 a8 ∧ p4 a0 a1 a2 a3 a4 a5 a6 a7 a8 ∧ p5 a0 a1 a2 a3 a4 a5 a6 a7 a8) (k : ∀ a0 a1 a2 a3 a4 a5 a6 a7 a8, p0 a0 a1 a2 a3 a4 a5 a6 a7 a8 → p1 a0 a1 a2 a3 a4 a5 a6 a7 a8 → p2 a0 a1 a2 a3 a4 a5 a6 a7 a8 → p3 a0 a1 a2 a3 a4 a5 a6 a7 a8 → p4 a0 a1 a2 a3 a4 a5 a6 a7 a8 → p5 a0 a1 a2 a3 a4 a5 a6 a7 a8 → G) : G := by obtain ⟨a0, a1, a2, a3, a4, a5, a6, a7, a8, h0, h1, h2, h3, h4, h5⟩ := h; exact k a0 a1 a2 a3 a4 a5 a6 a7 a8 h0 h1 h2 h3 h4 h5
end
noncomputable def anyQ {α : Type} (as : Array α) (p : α → Bool) (i : Nat := 0) (n : Nat := as.size) : Bool :=
 bif Nat.beq i 0 && Nat.beq n as.size then as.toList.any p else as.any p i n
theorem any_eq : @Array.any.{0} = @anyQ := by
 funext α as p i n
 unfold anyQ
 cases h : (Nat.beq i 0 && Nat.beq n as.size) with
 | false => rfl
 | true =>
  obtain ⟨h1, h2⟩ := Bool.and_eq_true_iff.mp h
  have e1 := Nat.eq_of_beq_eq_true h1
  have e2 := Nat.eq_of_beq_eq_true h2
  subst e1 e2
  exact Array.any_toList.symm
set_option maxHeartbeats 0 in
noncomputable def tnewB : Builtin := by
 refine (fun (T : Builtin) (_ : True) => T) ?T ?u
 case u =>
  have h : PySem.W.Fast.tw4202317264376624991 = ?T := by
   delta PySem.W.Fast.tw4202317264376624991
   rw [any_eq]
  exact trivial
set_option maxHeartbeats 0 in
theorem tnewB_eq : PySem.W.Fast.tw4202317264376624991 = tnewB := by
 delta PySem.W.Fast.tw4202317264376624991
 rw [any_eq]
 rfl
noncomputable def kNew : Nat := 29827186395103491166823348853
noncomputable def litC : List Nat := [14, 95, 4, 1, 1, 10, 3, 16843008, 16843009, 16843009, 16843009, 16843009, 16843009, 16843009, 16843009, 16843010, 16843009, 16843009, 16843009, 16843009, 16843009, 16843009, 16843009, 16843009, 16843009, 16843009, 16843009, 16843009, 16843009, 16843009, 16843009, 16843009, 16843009, 16843009, 16843009, 16843009, 16843009, 16843009, 16843009, 16843009, 16843009, 16843009, 16843009, 16843009, 16843009, 16843009, 16843009, 16843009, 16843009, 16843009, 16843009, 16843009, 16843009, 16843009, 16843009, 16843009, 16843009, 16843009, 16843009, 16843009, 16843009, 16843009, 16843009, 16843009, 16843009, 16843009, 16843009, 16843009, 16843009, 16843009, 16843009, 0, 201330688, 0, 0, 0, 0, 0, 0, 0, 0, 0, 0, 0, 0, 0, 0, 33554432, 0, 0, 0, 0, 0, 0, 0, 0, 13, 92, 10, 3, 16843008, 16843009, 16843009, 16843009, 16843009, 16843009, 16843009, 16843009, 16843010, 16843009, 16843009, 16843009, 16843009, 16843009, 16843009, 16843009, 16843009, 16843009, 16843009, 16843009, 16843009, 16843009, 16843009, 16843009, 16843009, 16843009, 16843009, 16843009, 16843009, 16843009, 16843009, 16843009, 16843009, 16843009, 16843009, 16843009, 16843009, 16843009, 16843009, 16843009, 16843009, 16843009, 16843009, 16843009, 16843009, 16843009, 16843009, 16843009, 16843009, 16843009, 16843009, 16843009, 16843009, 16843009, 16843009, 16843009, 16843009, 16843009, 16843009, 16843009, 16843009, 16843009, 16843009, 16843009, 0, 201330688, 0, 0, 0, 0, 0, 0, 0, 0, 0, 0, 0, 0, 0, 0, 33554432, 0, 0, 0, 0, 0, 0, 0, 0, 1]
noncomputable def eqL (l : List Nat) : List Nat → Bool := List.rec (motive := fun _ => List Nat → Bool) (fun m => match m with | [] => true | _ :: _ => false) (fun a _ ih m => match m with | [] => false | b :: r => bif Nat.beq a b then ih r else false) l
theorem eqL_eq : ∀ {l m : List Nat}, eqL l m = true → l = m
 | [], [], _ => rfl
 | [], _ :: _, h => by cases h
 | _ :: _, [], h => by cases h
 | a :: l, b :: m, h => by
  have h : (bif Nat.beq a b then eqL l m else false) = true := h
  cases q : Nat.beq a b with
  | false => rw [q] at h; cases h
  | true => rw [q] at h; rw [Nat.eq_of_beq_eq_true q, eqL_eq h]
noncomputable def wfQ (c : Array Nat) (g : Nat) : Bool := bif eqL litC c.toList && Nat.beq g 0 then true else PySem.W.Fast.tw3018943357349503271 c g
theorem wf_lit : PySem.W.Fast.tw3018943357349503271 ⟨litC⟩ 0 = true := by kernel_rfl
theorem wf_eq : PySem.W.Fast.tw3018943357349503271 = wfQ := by
 funext c g
 unfold wfQ
 cases h : (eqL litC c.toList && Nat.beq g 0) with
 | false => rfl
 | true =>
  obtain ⟨h1, h2⟩ := Bool.and_eq_true_iff.mp h
  cases c with
  | mk l =>
   have e1 : litC = l := eqL_eq h1
   have e2 := Nat.eq_of_beq_eq_true h2
   subst e1 e2
   exact wf_lit
set_option maxHeartbeats 0 in
noncomputable def sreB : Builtin := by
 refine (fun (T : Builtin) (_ : True) => T) ?T ?u
 case u =>
  have h : PySem.W.Fast.tw17745834655568101797 = ?T := by
   delta PySem.W.Fast.tw17745834655568101797
   rw [wf_eq]
  exact trivial
set_option maxHeartbeats 0 in
theorem sreB_eq : PySem.W.Fast.tw17745834655568101797 = sreB := by
 delta PySem.W.Fast.tw17745834655568101797
 rw [wf_eq]
 rfl
noncomputable def kSre : Nat := 31699746579402426797851374688
noncomputable def tb (id : String) : Option Builtin :=
 bif Nat.beq (PySem.W.Fast.tw13482112738370960269 id) kNew then some tnewB else bif Nat.beq (PySem.W.Fast.tw13482112738370960269 id) kSre then some sreB else PySem.W.Fast.tw14364793385576792824 id
theorem tb_eq : treeTable = tb := by
 funext id
 unfold tb
 rw [← PySem.W.Fast.te13482112738370960269, ← PySem.W.Fast.te14364793385576792824]
 cases h : Nat.beq (code id) kNew with
 | false =>
  cases h2 : Nat.beq (code id) kSre with
  | false => rfl
  | true =>
   have e := Nat.eq_of_beq_eq_true h2
   show entriesT.find (code id) = some sreB
   rw [e, ← sreB_eq, ← PySem.W.Fast.te17745834655568101797]
   show treeTable "_sre.compile" = some Builtin.«_sre.compile»
   kernel_rfl
 | true =>
  have e := Nat.eq_of_beq_eq_true h
  show entriesT.find (code id) = some tnewB
  rw [e, ← tnewB_eq, ← PySem.W.Fast.te4202317264376624991]
  show treeTable "type.__new__" = some Builtin.«type.__new__»
  kernel_rfl
noncomputable abbrev pw : Program := PySem.Challenge.pw_be0023_01
noncomputable def ofL (l : List Nat) : Str := Str.ofString (String.ofList (l.map Char.ofNat))
noncomputable def mkM (l : List Nat) : Str := ⟨⟨(l.map Char.ofNat).map Char.toNat⟩⟩
noncomputable def mkL (l : List Nat) : Str := ⟨⟨l⟩⟩
theorem ofL_eq : ofL = mkM := funext fun l => PySem.W.Fast.ofString_ofList _
noncomputable def cnt : List Char → Nat → Nat
 | [], n => n
 | _ :: r, n => cnt r (n + 1)
theorem cnt_nil (n : Nat) : cnt [] n = n := rfl
theorem cnt_cons (c : Char) (r : List Char) (n : Nat) : cnt (c :: r) n = cnt r (n + 1) := rfl
theorem ofs (s : String) (_h : cnt s.toList 0 < 61 ∨ cnt s.toList 0 = 124 ∨ cnt s.toList 0 = 133 ∨ cnt s.toList 0 = 298 ∨ cnt s.toList 0 = 723 ∨ cnt s.toList 0 = 954 ∨ cnt s.toList 0 = 1167 ∨ cnt s.toList 0 = 1199 ∨ cnt s.toList 0 = 2276) : Str.ofString s = ofL (s.toList.map Char.toNat) := by
 unfold ofL
 rw [List.map_map, show Char.ofNat ∘ Char.toNat = id from funext Char.ofNat_toNat, List.map_id, String.ofList_toList]
theorem chN (n : Nat) (h : n.isValidChar) : (Char.ofNat n).toNat = n := by
 unfold Char.ofNat
 rw [dif_pos h]
 rfl
set_option maxHeartbeats 0 in
noncomputable def pwG : (List Nat → Str) → Program := by
 refine (fun (G : (List Nat → Str) → Program) (_ : ∀ P : Program → Prop, (∀ x, P x → True) → P PySem.Challenge.pw_be0023_01 → True) => G) ?G ?u
 case u =>
  intro P q h
  delta PySem.Challenge.pw_be0023_01 at h
  simp (config := {maxSteps := 100000000, decide := true}) only [ofs, String.reduceToList, cnt_nil, cnt_cons, Nat.reduceAdd, Nat.reduceLT, Nat.reduceEqDiff, true_or, or_true, false_or, or_false, List.map_cons, List.map_nil, chN] at h
  generalize ofL = f at h
  specialize q (?G f) h
  exact trivial
theorem pwG_eq : pw = pwG ofL := by kernel_rfl
noncomputable def pwT : Program := pwG mkL
theorem pwM_eq : pwG mkM = pwT := by kernel_rfl
theorem pwT_eq : pw = pwT := (pwG_eq.trans (congrArg pwG ofL_eq)).trans pwM_eq
noncomputable def at1 (p : Program) (i : Nat) : Stmt := (behindTheImports p).getD i (.Pass default)
noncomputable def clsB : Stmt → List Stmt
 | .ClassDef _ _ _ b _ _ _ _ _ _ _ => b
 | _ => []
noncomputable def at2 (p : Program) (i j : Nat) : Stmt := (clsB (at1 p i)).getD j (.Pass default)
noncomputable def fn (s : Stmt) (name qual : Str) (g : Addr) (cl : List (Str × Addr)) (d k doc pm : Value) (an : Option Addr) (cd ct : Value) (bi : Addr) : Data := match s with
 | .FunctionDef _ a b _ _ _ sc _ _ _ => .func { name := name, qualname := qual, params := a, body := .stmts b, scope := sc, globals := g, closure := cl, defaults := d, kwdefaults := k, doc := doc, pyModule := pm, annotations := an, code := cd, closureTuple := ct, builtins := bi }
 | _ => .plain
noncomputable def dc : Stmt → Str
 | .FunctionDef _ _ (.Expr (.Constant (.str x) _ _) _ :: _) _ _ _ _ _ _ _ => x
 | .ClassDef _ _ _ (.Expr (.Constant (.str x) _ _) _ :: _) _ _ _ _ _ _ _ => x
 | _ => ""
noncomputable def cl (name : Str) (bases mro : List Value) (ns : Addr) (qual : Str) (hd : Bool) (sl : List Str) (sub : List Value) (ab : Bool) (co : Option Bool) (de : Bool) : Data :=
 .cls { name := name, bases := bases, mro := mro, ns := ns, qualname := qual, hasDict := hd, slotNames := sl, subclasses := sub, abstract := ab, collection := co, hasDel := de }
noncomputable def e (P : Params) (x : Str) (t : Tok) (v : Value) : DictEntry := ⟨PyData.keyHash P x, .str x t, v⟩
noncomputable def o0zE13 (p : Program) (P : Params) : List DictEntry := e P "credits" 157 (.builtin "builtins.credits#opaque") :: e P "license" 158 (.builtin "builtins.license#opaque") :: e P "help" 159 (.builtin "builtins.help#opaque") :: []
noncomputable def o0zE12 (p : Program) (P : Params) : List DictEntry := e P "ConnectionResetError" 145 (.type "ConnectionResetError") :: e P "TabError" 146 (.type "TabError") :: e P "UnicodeDecodeError" 147 (.type "UnicodeDecodeError") :: e P "UnicodeEncodeError" 148 (.type "UnicodeEncodeError") :: e P "UnicodeTranslateError" 149 (.type "UnicodeTranslateError") :: e P "ExceptionGroup" 150 (.type "ExceptionGroup") :: e P "EnvironmentError" 151 (.type "OSError") :: e P "IOError" 152 (.type "OSError") :: e P "open" 153 (.builtin "open") :: e P "quit" 154 (.builtin "builtins.quit#opaque") :: e P "exit" 155 (.builtin "builtins.exit#opaque") :: e P "copyright" 156 (.builtin "builtins.copyright#opaque") :: o0zE13 p P
noncomputable def o0zE11 (p : Program) (P : Params) : List DictEntry := e P "_IncompleteInputError" 133 (.type "_IncompleteInputError") :: e P "IndexError" 134 (.type "IndexError") :: e P "KeyError" 135 (.type "KeyError") :: e P "ModuleNotFoundError" 136 (.type "ModuleNotFoundError") :: e P "NotImplementedError" 137 (.type "NotImplementedError") :: e P "PythonFinalizationError" 138 (.type "PythonFinalizationError") :: e P "RecursionError" 139 (.type "RecursionError") :: e P "UnboundLocalError" 140 (.type "UnboundLocalError") :: e P "UnicodeError" 141 (.type "UnicodeError") :: e P "BrokenPipeError" 142 (.type "BrokenPipeError") :: e P "ConnectionAbortedError" 143 (.type "ConnectionAbortedError") :: e P "ConnectionRefusedError" 144 (.type "ConnectionRefusedError") :: o0zE12 p P
noncomputable def o0zE10 (p : Program) (P : Params) : List DictEntry := e P "BlockingIOError" 121 (.type "BlockingIOError") :: e P "ChildProcessError" 122 (.type "ChildProcessError") :: e P "ConnectionError" 123 (.type "ConnectionError") :: e P "FileExistsError" 124 (.type "FileExistsError") :: e P "FileNotFoundError" 125 (.type "FileNotFoundError") :: e P "InterruptedError" 126 (.type "InterruptedError") :: e P "IsADirectoryError" 127 (.type "IsADirectoryError") :: e P "NotADirectoryError" 128 (.type "NotADirectoryError") :: e P "PermissionError" 129 (.type "PermissionError") :: e P "ProcessLookupError" 130 (.type "ProcessLookupError") :: e P "TimeoutError" 131 (.type "TimeoutError") :: e P "IndentationError" 132 (.type "IndentationError") :: o0zE11 p P
noncomputable def o0zE9 (p : Program) (P : Params) : List DictEntry := e P "ZeroDivisionError" 109 (.type "ZeroDivisionError") :: e P "BytesWarning" 110 (.type "BytesWarning") :: e P "DeprecationWarning" 111 (.type "DeprecationWarning") :: e P "EncodingWarning" 112 (.type "EncodingWarning") :: e P "FutureWarning" 113 (.type "FutureWarning") :: e P "ImportWarning" 114 (.type "ImportWarning") :: e P "PendingDeprecationWarning" 115 (.type "PendingDeprecationWarning") :: e P "ResourceWarning" 116 (.type "ResourceWarning") :: e P "RuntimeWarning" 117 (.type "RuntimeWarning") :: e P "SyntaxWarning" 118 (.type "SyntaxWarning") :: e P "UnicodeWarning" 119 (.type "UnicodeWarning") :: e P "UserWarning" 120 (.type "UserWarning") :: o0zE10 p P
noncomputable def o0zE8 (p : Program) (P : Params) : List DictEntry := e P "OSError" 97 (.type "OSError") :: e P "ReferenceError" 98 (.type "ReferenceError") :: e P "RuntimeError" 99 (.type "RuntimeError") :: e P "StopAsyncIteration" 100 (.type "StopAsyncIteration") :: e P "StopIteration" 101 (.type "StopIteration") :: e P "SyntaxError" 102 (.type "SyntaxError") :: e P "SystemError" 103 (.type "SystemError") :: e P "TypeError" 104 (.type "TypeError") :: e P "ValueError" 105 (.type "ValueError") :: e P "Warning" 106 (.type "Warning") :: e P "FloatingPointError" 107 (.type "FloatingPointError") :: e P "OverflowError" 108 (.type "OverflowError") :: o0zE9 p P
noncomputable def o0zE7 (p : Program) (P : Params) : List DictEntry := e P "GeneratorExit" 85 (.type "GeneratorExit") :: e P "KeyboardInterrupt" 86 (.type "KeyboardInterrupt") :: e P "SystemExit" 87 (.type "SystemExit") :: e P "ArithmeticError" 88 (.type "ArithmeticError") :: e P "AssertionError" 89 (.type "AssertionError") :: e P "AttributeError" 90 (.type "AttributeError") :: e P "BufferError" 91 (.type "BufferError") :: e P "EOFError" 92 (.type "EOFError") :: e P "ImportError" 93 (.type "ImportError") :: e P "LookupError" 94 (.type "LookupError") :: e P "MemoryError" 95 (.type "MemoryError") :: e P "NameError" 96 (.type "NameError") :: o0zE8 p P
noncomputable def o0zE6 (p : Program) (P : Params) : List DictEntry := e P "set" 73 (.type "set") :: e P "slice" 74 (.type "slice") :: e P "staticmethod" 75 (.type "staticmethod") :: e P "str" 76 (.type "str") :: e P "super" 77 (.type "super") :: e P "tuple" 78 (.type "tuple") :: e P "type" 79 (.type "type") :: e P "zip" 80 (.type "zip") :: e P "__debug__" 81 (.bool true) :: e P "BaseException" 82 (.type "BaseException") :: e P "BaseExceptionGroup" 83 (.type "BaseExceptionGroup") :: e P "Exception" 84 (.type "Exception") :: o0zE7 p P
noncomputable def o0zE5 (p : Program) (P : Params) : List DictEntry := e P "dict" 61 (.type "dict") :: e P "enumerate" 62 (.type "enumerate") :: e P "filter" 63 (.type "filter") :: e P "float" 64 (.type "float") :: e P "frozenset" 65 (.type "frozenset") :: e P "property" 66 (.type "property") :: e P "int" 67 (.type "int") :: e P "list" 68 (.type "list") :: e P "map" 69 (.type "map") :: e P "object" 70 (.type "object") :: e P "range" 71 (.type "range") :: e P "reversed" 72 (.type "reversed") :: o0zE6 p P
noncomputable def o0zE4 (p : Program) (P : Params) : List DictEntry := e P "vars" 49 (.builtin "vars") :: e P "None" 50 .none :: e P "Ellipsis" 51 .ellipsis :: e P "NotImplemented" 52 .notImplemented :: e P "False" 53 (.bool false) :: e P "True" 54 (.bool true) :: e P "bool" 55 (.type "bool") :: e P "memoryview" 56 (.type "memoryview") :: e P "bytearray" 57 (.type "bytearray") :: e P "bytes" 58 (.type "bytes") :: e P "classmethod" 59 (.type "classmethod") :: e P "complex" 60 (.type "complex") :: o0zE5 p P
noncomputable def o0zE3 (p : Program) (P : Params) : List DictEntry := e P "min" 37 (.builtin "min") :: e P "next" 38 (.builtin "next") :: e P "anext" 39 (.builtin "anext") :: e P "oct" 40 (.builtin "oct") :: e P "ord" 41 (.builtin "ord") :: e P "pow" 42 (.builtin "pow") :: e P "print" 43 (.builtin "print") :: e P "repr" 44 (.builtin "repr") :: e P "round" 45 (.builtin "round") :: e P "setattr" 46 (.builtin "setattr") :: e P "sorted" 47 (.builtin "sorted") :: e P "sum" 48 (.builtin "sum") :: o0zE4 p P
noncomputable def o0zE2 (p : Program) (P : Params) : List DictEntry := e P "hasattr" 25 (.builtin "hasattr") :: e P "hash" 26 (.builtin "hash") :: e P "hex" 27 (.builtin "hex") :: e P "id" 28 (.builtin "id") :: e P "input" 29 (.builtin "input") :: e P "isinstance" 30 (.builtin "isinstance") :: e P "issubclass" 31 (.builtin "issubclass") :: e P "iter" 32 (.builtin "iter") :: e P "aiter" 33 (.builtin "aiter") :: e P "len" 34 (.builtin "len") :: e P "locals" 35 (.builtin "locals") :: e P "max" 36 (.builtin "max") :: o0zE3 p P
noncomputable def o0zE1 (p : Program) (P : Params) : List DictEntry := e P "breakpoint" 13 (.builtin "breakpoint") :: e P "callable" 14 (.builtin "callable") :: e P "chr" 15 (.builtin "chr") :: e P "compile" 16 (.builtin "compile") :: e P "delattr" 17 (.builtin "delattr") :: e P "dir" 18 (.builtin "dir") :: e P "divmod" 19 (.builtin "divmod") :: e P "eval" 20 (.builtin "eval") :: e P "exec" 21 (.builtin "exec") :: e P "format" 22 (.builtin "format") :: e P "getattr" 23 (.builtin "getattr") :: e P "globals" 24 (.builtin "globals") :: o0zE2 p P
noncomputable def o0zE0 (p : Program) (P : Params) : List DictEntry := e P "__name__" 1 (.str "builtins" 160) :: e P "__doc__" 2 (.builtin "builtins.__doc__:str#opaque") :: e P "__package__" 3 (.builtin "builtins.__package__:str#opaque") :: e P "__loader__" 4 (.builtin "builtins.__loader__:shared#opaque") :: e P "__spec__" 5 (.builtin "builtins.__spec__#opaque") :: e P "__build_class__" 6 (.builtin "__build_class__") :: e P "__import__" 7 (.builtin "__import__") :: e P "abs" 8 (.builtin "abs") :: e P "all" 9 (.builtin "all") :: e P "any" 10 (.builtin "any") :: e P "ascii" 11 (.builtin "ascii") :: e P "bin" 12 (.builtin "bin") :: o0zE1 p P
noncomputable def o0z (p : Program) (P : Params) : Obj := ⟨.type "dict", none, .dict ⟨o0zE0 p P⟩ 159, #[]⟩
noncomputable def o1z (p : Program) (P : Params) : Obj := ⟨.type "dict", none, .dict #[e P "builtins" 162 (.ref 4), e P "__main__" 163 (.ref 5), e P "_sre" 244 (.ref 12)] 3, #[]⟩
noncomputable def o2z (p : Program) (P : Params) : Obj := ⟨.none, none, .dict #[e P ⟨#[105, 109, 112, 111, 114, 116, 46, 108, 111, 97, 100, 101, 100, 46, 95, 115, 114, 101]⟩ 183 (.bool true), e P "class._frozen_importlib.BuiltinImporter" 185 (.ref 14), e P ⟨#[119, 97, 116, 99, 104, 101, 100, 46, 105, 109, 112, 111, 114, 116]⟩ 206 (.ref 18), e P "class._frozen_importlib.ModuleSpec" 216 (.ref 22), e P "sys.modules.booked-epoch" 245 (.int 3 0), e P ⟨#[105, 109, 112, 111, 114, 116, 46, 108, 97, 116, 101, 114, 45, 108, 97, 105, 100, 46, 95, 115, 114, 101]⟩ 270 (.bool true), e P "watched.library" 272 (.ref 27), e P "watched.library-objects" 0 (.str ⟨#[12]⟩ 0), e P "watched.library-deep._sre" 273 (.str ⟨#[4, 0, 0, 11, 4, 0, 0, 11, 4, 0, 0, 3, 4, 0, 0, 11, 8, 4, 100, 105, 99, 116, 2]⟩ 0)] 9, #[]⟩
noncomputable def o3z (p : Program) (P : Params) : Obj := ⟨.type "dict", none, .dict #[e P "__name__" 165 (.str "__main__" 164), e P "__doc__" 166 .none, e P "__package__" 167 .none, e P "__loader__" 168 (.builtin "__main__.__loader__#opaque"), e P "__spec__" 169 .none, e P "__annotations__" 170 (.ref 6), e P "__builtins__" 171 (.ref 4), e P "__file__" 173 (.str "/claim/cut.py" 172), e P "__cached__" 174 .none, e P "_sre" 275 (.ref 12)] 10, #[]⟩
noncomputable def o4z (p : Program) (P : Params) : Obj := ⟨.type "module", some 0, .plain, #[]⟩
noncomputable def o5z (p : Program) (P : Params) : Obj := ⟨.type "module", some 3, .plain, #[]⟩
noncomputable def o6z (p : Program) (P : Params) : Obj := ⟨.type "dict", none, .dict #[] 0, #[]⟩
noncomputable def o7z (p : Program) (P : Params) : Obj := ⟨.type "tuple", none, .seq #[] 0, #[]⟩
noncomputable def o8z (p : Program) (P : Params) : Obj := ⟨.none, none, .fields #[], #[]⟩
noncomputable def o9z (p : Program) (P : Params) : Obj := ⟨.type "code", none, .fields #[.str "<module>" 176, .str "<module>" 177, .str "/claim/cut.py" 178, .int 1 0, .int 0 0, .int 0 0, .int 0 0, .int 0 0, .ref 7, .bool false, .int 175 0, .ref 8, .none, .none, .none, .none, .int 179 0, .int 1 0, .str "/claim/cut.py" 180], #[]⟩
noncomputable def o10z (p : Program) (P : Params) : Obj := ⟨.type "frame", none, .plain, #[some (.ref 9), some (.ref 3), some (.ref 3), none, some (.str "__main__" 164), none, some (.ref 0)]⟩
noncomputable def o11z (p : Program) (P : Params) : Obj := ⟨.type "dict", none, .dict #[e P "__name__" 247 (.str "_sre" 246), e P "__doc__" 248 .none, e P "__package__" 250 (.str "" 249), e P "__loader__" 251 (.builtin "off-the-table:_sre.__loader__:shared#opaque"), e P "__spec__" 252 (.builtin "off-the-table:_sre.__spec__:shared#opaque"), e P "compile" 253 (.builtin "_sre.compile"), e P "template" 254 (.builtin "off-the-table:_sre.template:shared#opaque"), e P "getcodesize" 255 (.builtin "off-the-table:_sre.getcodesize:shared#opaque"), e P "ascii_iscased" 256 (.builtin "off-the-table:_sre.ascii_iscased:shared#opaque"), e P "unicode_iscased" 257 (.builtin "off-the-table:_sre.unicode_iscased:shared#opaque"), e P "ascii_tolower" 258 (.builtin "off-the-table:_sre.ascii_tolower:shared#opaque"), e P "unicode_tolower" 259 (.builtin "off-the-table:_sre.unicode_tolower:shared#opaque"), e P "MAGIC" 261 (.int 20230612 260), e P "CODESIZE" 263 (.int 4 262), e P "MAXREPEAT" 265 (.int 4294967295 264), e P "MAXGROUPS" 267 (.int 1073741823 266), e P "copyright" 269 (.str " SRE 2.2.2 Copyright (c) 1997-2002 by Secret Labs AB " 268)] 17, #[]⟩
noncomputable def o12z (p : Program) (P : Params) : Obj := ⟨.type "module", some 11, .plain, #[]⟩
noncomputable def o13z (p : Program) (P : Params) : Obj := ⟨.type "dict", none, .dict #[e P "__module__" 189 (.str "_frozen_importlib" 186), e P "__firstlineno__" 190 (.int 971 187), e P "__doc__" 191 (.builtin "_frozen_importlib.BuiltinImporter.__doc__:str#opaque"), e P "_ORIGIN" 192 (.str "built-in" 188), e P "find_spec" 193 (.builtin "_frozen_importlib.BuiltinImporter.find_spec#opaque"), e P "create_module" 194 (.builtin "_frozen_importlib.BuiltinImporter.create_module#opaque"), e P "exec_module" 195 (.builtin "_frozen_importlib.BuiltinImporter.exec_module#opaque"), e P "get_code" 196 (.builtin "_frozen_importlib.BuiltinImporter.get_code#opaque"), e P "get_source" 197 (.builtin "_frozen_importlib.BuiltinImporter.get_source#opaque"), e P "is_package" 198 (.builtin "_frozen_importlib.BuiltinImporter.is_package#opaque"), e P "load_module" 199 (.builtin "_frozen_importlib.BuiltinImporter.load_module#opaque"), e P "__static_attributes__" 200 (.ref 15), e P "__dict__" 202 (.ref 16), e P "__weakref__" 204 (.ref 17)] 14, #[]⟩
noncomputable def o14z (p : Program) (P : Params) : Obj := ⟨.type "type", none, cl "BuiltinImporter" [.type "object"] [.ref 14, .type "object"] 13 "BuiltinImporter" true [] [] false none false, #[]⟩
noncomputable def o15z (p : Program) (P : Params) : Obj := ⟨.type "tuple", none, .seq #[] 0, #[]⟩
noncomputable def o16z (p : Program) (P : Params) : Obj := ⟨.type "getset_descriptor", none, .fields #[.str "__dict__" 201, .ref 14, .builtin "function.__dict__", .builtin "function.__dict__#set"], #[]⟩
noncomputable def o17z (p : Program) (P : Params) : Obj := ⟨.type "getset_descriptor", none, .fields #[.str "__weakref__" 203, .ref 14, .builtin "ExceptionGroup.__weakref__", .none], #[]⟩
noncomputable def o18z (p : Program) (P : Params) : Obj := ⟨.none, none, .seq #[.int 13 0, .str ⟨#[6, 189, 10, 95, 95, 109, 111, 100, 117, 108, 101, 95, 95, 6, 186, 17, 95, 102, 114, 111, 122, 101, 110, 95, 105, 109, 112, 111, 114, 116, 108, 105, 98, 6, 190, 15, 95, 95, 102, 105, 114, 115, 116, 108, 105, 110, 101, 110, 111, 95, 95, 4, 187, 0, 971, 6, 191, 7, 95, 95, 100, 111, 99, 95, 95, 9, 52, 95, 102, 114, 111, 122, 101, 110, 95, 105, 109, 112, 111, 114, 116, 108, 105, 98, 46, 66, 117, 105, 108, 116, 105, 110, 73, 109, 112, 111, 114, 116, 101, 114, 46, 95, 95, 100, 111, 99, 95, 95, 58, 115, 116, 114, 35, 111, 112, 97, 113, 117, 101, 6, 192, 7, 95, 79, 82, 73, 71, 73, 78, 6, 188, 8, 98, 117, 105, 108, 116, 45, 105, 110, 6, 193, 9, 102, 105, 110, 100, 95, 115, 112, 101, 99, 9, 50, 95, 102, 114, 111, 122, 101, 110, 95, 105, 109, 112, 111, 114, 116, 108, 105, 98, 46, 66, 117, 105, 108, 116, 105, 110, 73, 109, 112, 111, 114, 116, 101, 114, 46, 102, 105, 110, 100, 95, 115, 112, 101, 99, 35, 111, 112, 97, 113, 117, 101, 6, 194, 13, 99, 114, 101, 97, 116, 101, 95, 109, 111, 100, 117, 108, 101, 9, 54, 95, 102, 114, 111, 122, 101, 110, 95, 105, 109, 112, 111, 114, 116, 108, 105, 98, 46, 66, 117, 105, 108, 116, 105, 110, 73, 109, 112, 111, 114, 116, 101, 114, 46, 99, 114, 101, 97, 116, 101, 95, 109, 111, 100, 117, 108, 101, 35, 111, 112, 97, 113, 117, 101, 6, 195, 11, 101, 120, 101, 99, 95, 109, 111, 100, 117, 108, 101, 9, 52, 95, 102, 114, 111, 122, 101, 110, 95, 105, 109, 112, 111, 114, 116, 108, 105, 98, 46, 66, 117, 105, 108, 116, 105, 110, 73, 109, 112, 111, 114, 116, 101, 114, 46, 101, 120, 101, 99, 95, 109, 111, 100, 117, 108, 101, 35, 111, 112, 97, 113, 117, 101, 6, 196, 8, 103, 101, 116, 95, 99, 111, 100, 101, 9, 49, 95, 102, 114, 111, 122, 101, 110, 95, 105, 109, 112, 111, 114, 116, 108, 105, 98, 46, 66, 117, 105, 108, 116, 105, 110, 73, 109, 112, 111, 114, 116, 101, 114, 46, 103, 101, 116, 95, 99, 111, 100, 101, 35, 111, 112, 97, 113, 117, 101, 6, 197, 10, 103, 101, 116, 95, 115, 111, 117, 114, 99, 101, 9, 51, 95, 102, 114, 111, 122, 101, 110, 95, 105, 109, 112, 111, 114, 116, 108, 105, 98, 46, 66, 117, 105, 108, 116, 105, 110, 73, 109, 112, 111, 114, 116, 101, 114, 46, 103, 101, 116, 95, 115, 111, 117, 114, 99, 101, 35, 111, 112, 97, 113, 117, 101, 6, 198, 10, 105, 115, 95, 112, 97, 99, 107, 97, 103, 101, 9, 51, 95, 102, 114, 111, 122, 101, 110, 95, 105, 109, 112, 111, 114, 116, 108, 105, 98, 46, 66, 117, 105, 108, 116, 105, 110, 73, 109, 112, 111, 114, 116, 101, 114, 46, 105, 115, 95, 112, 97, 99, 107, 97, 103, 101, 35, 111, 112, 97, 113, 117, 101, 6, 199, 11, 108, 111, 97, 100, 95, 109, 111, 100, 117, 108, 101, 9, 52, 95, 102, 114, 111, 122, 101, 110, 95, 105, 109, 112, 111, 114, 116, 108, 105, 98, 46, 66, 117, 105, 108, 116, 105, 110, 73, 109, 112, 111, 114, 116, 101, 114, 46, 108, 111, 97, 100, 95, 109, 111, 100, 117, 108, 101, 35, 111, 112, 97, 113, 117, 101, 6, 200, 21, 95, 95, 115, 116, 97, 116, 105, 99, 95, 97, 116, 116, 114, 105, 98, 117, 116, 101, 115, 95, 95, 4, 0, 0, 15, 6, 202, 8, 95, 95, 100, 105, 99, 116, 95, 95, 4, 0, 0, 16, 6, 204, 11, 95, 95, 119, 101, 97, 107, 114, 101, 102, 95, 95, 4, 0, 0, 17]⟩ 0, .bool true, .bool true, .str "" 205, .int 21 0, .str ⟨#[6, 227, 10, 95, 95, 109, 111, 100, 117, 108, 101, 95, 95, 6, 217, 17, 95, 102, 114, 111, 122, 101, 110, 95, 105, 109, 112, 111, 114, 116, 108, 105, 98, 6, 228, 15, 95, 95, 102, 105, 114, 115, 116, 108, 105, 110, 101, 110, 111, 95, 95, 4, 218, 0, 562, 6, 229, 7, 95, 95, 100, 111, 99, 95, 95, 9, 47, 95, 102, 114, 111, 122, 101, 110, 95, 105, 109, 112, 111, 114, 116, 108, 105, 98, 46, 77, 111, 100, 117, 108, 101, 83, 112, 101, 99, 46, 95, 95, 100, 111, 99, 95, 95, 58, 115, 116, 114, 35, 111, 112, 97, 113, 117, 101, 6, 230, 8, 95, 95, 105, 110, 105, 116, 95, 95, 9, 44, 95, 102, 114, 111, 122, 101, 110, 95, 105, 109, 112, 111, 114, 116, 108, 105, 98, 46, 77, 111, 100, 117, 108, 101, 83, 112, 101, 99, 46, 95, 95, 105, 110, 105, 116, 95, 95, 35, 111, 112, 97, 113, 117, 101, 6, 231, 8, 95, 95, 114, 101, 112, 114, 95, 95, 9, 44, 95, 102, 114, 111, 122, 101, 110, 95, 105, 109, 112, 111, 114, 116, 108, 105, 98, 46, 77, 111, 100, 117, 108, 101, 83, 112, 101, 99, 46, 95, 95, 114, 101, 112, 114, 95, 95, 35, 111, 112, 97, 113, 117, 101, 6, 232, 6, 95, 95, 101, 113, 95, 95, 9, 42, 95, 102, 114, 111, 122, 101, 110, 95, 105, 109, 112, 111, 114, 116, 108, 105, 98, 46, 77, 111, 100, 117, 108, 101, 83, 112, 101, 99, 46, 95, 95, 101, 113, 95, 95, 35, 111, 112, 97, 113, 117, 101, 6, 233, 6, 99, 97, 99, 104, 101, 100, 9, 42, 95, 102, 114, 111, 122, 101, 110, 95, 105, 109, 112, 111, 114, 116, 108, 105, 98, 46, 77, 111, 100, 117, 108, 101, 83, 112, 101, 99, 46, 99, 97, 99, 104, 101, 100, 35, 111, 112, 97, 113, 117, 101, 6, 234, 6, 112, 97, 114, 101, 110, 116, 9, 42, 95, 102, 114, 111, 122, 101, 110, 95, 105, 109, 112, 111, 114, 116, 108, 105, 98, 46, 77, 111, 100, 117, 108, 101, 83, 112, 101, 99, 46, 112, 97, 114, 101, 110, 116, 35, 111, 112, 97, 113, 117, 101, 6, 235, 12, 104, 97, 115, 95, 108, 111, 99, 97, 116, 105, 111, 110, 9, 48, 95, 102, 114, 111, 122, 101, 110, 95, 105, 109, 112, 111, 114, 116, 108, 105, 98, 46, 77, 111, 100, 117, 108, 101, 83, 112, 101, 99, 46, 104, 97, 115, 95, 108, 111, 99, 97, 116, 105, 111, 110, 35, 111, 112, 97, 113, 117, 101, 6, 236, 21, 95, 95, 115, 116, 97, 116, 105, 99, 95, 97, 116, 116, 114, 105, 98, 117, 116, 101, 115, 95, 95, 4, 0, 0, 23, 6, 238, 8, 95, 95, 100, 105, 99, 116, 95, 95, 4, 0, 0, 24, 6, 240, 11, 95, 95, 119, 101, 97, 107, 114, 101, 102, 95, 95, 4, 0, 0, 25, 6, 241, 8, 95, 95, 104, 97, 115, 104, 95, 95, 0]⟩ 0, .bool true, .bool true, .str "" 242] 1, #[]⟩
noncomputable def o19z (p : Program) (P : Params) : Obj := ⟨.type "list", none, .seq #[] 0, #[]⟩
noncomputable def o20z (p : Program) (P : Params) : Obj := ⟨.type "dict", none, .dict #[e P "name" 208 (.str "_sre" 207), e P "loader" 209 (.ref 14), e P "origin" 210 (.str "built-in" 184), e P "loader_state" 211 .none, e P "submodule_search_locations" 212 .none, e P "_uninitialized_submodules" 213 (.ref 19), e P "_set_fileattr" 214 (.bool false), e P "_cached" 215 .none, e P "_initializing" 243 (.bool false)] 9, #[]⟩
noncomputable def o21z (p : Program) (P : Params) : Obj := ⟨.type "dict", none, .dict #[e P "__module__" 227 (.str "_frozen_importlib" 217), e P "__firstlineno__" 228 (.int 562 218), e P "__doc__" 229 (.builtin "_frozen_importlib.ModuleSpec.__doc__:str#opaque"), e P "__init__" 230 (.builtin "_frozen_importlib.ModuleSpec.__init__#opaque"), e P "__repr__" 231 (.builtin "_frozen_importlib.ModuleSpec.__repr__#opaque"), e P "__eq__" 232 (.builtin "_frozen_importlib.ModuleSpec.__eq__#opaque"), e P "cached" 233 (.builtin "_frozen_importlib.ModuleSpec.cached#opaque"), e P "parent" 234 (.builtin "_frozen_importlib.ModuleSpec.parent#opaque"), e P "has_location" 235 (.builtin "_frozen_importlib.ModuleSpec.has_location#opaque"), e P "__static_attributes__" 236 (.ref 23), e P "__dict__" 238 (.ref 24), e P "__weakref__" 240 (.ref 25), e P "__hash__" 241 .none] 13, #[]⟩
noncomputable def o22z (p : Program) (P : Params) : Obj := ⟨.type "type", none, cl "ModuleSpec" [.type "object"] [.ref 22, .type "object"] 21 "ModuleSpec" true [] [] false none false, #[]⟩
noncomputable def o23z (p : Program) (P : Params) : Obj := ⟨.type "tuple", none, .seq #[.str "_cached" 219, .str "_set_fileattr" 220, .str "_uninitialized_submodules" 221, .str "loader" 222, .str "loader_state" 223, .str "name" 224, .str "origin" 225, .str "submodule_search_locations" 226] 0, #[]⟩
noncomputable def o24z (p : Program) (P : Params) : Obj := ⟨.type "getset_descriptor", none, .fields #[.str "__dict__" 237, .ref 22, .builtin "function.__dict__", .builtin "function.__dict__#set"], #[]⟩
noncomputable def o25z (p : Program) (P : Params) : Obj := ⟨.type "getset_descriptor", none, .fields #[.str "__weakref__" 239, .ref 22, .builtin "ExceptionGroup.__weakref__", .none], #[]⟩
noncomputable def o26z (p : Program) (P : Params) : Obj := ⟨.ref 22, some 20, .plain, #[]⟩
noncomputable def o27z (p : Program) (P : Params) : Obj := ⟨.none, none, .seq #[.int 11 0, .str ⟨#[6, 247, 8, 95, 95, 110, 97, 109, 101, 95, 95, 6, 246, 4, 95, 115, 114, 101, 6, 248, 7, 95, 95, 100, 111, 99, 95, 95, 0, 6, 250, 11, 95, 95, 112, 97, 99, 107, 97, 103, 101, 95, 95, 6, 249, 0, 6, 251, 10, 95, 95, 108, 111, 97, 100, 101, 114, 95, 95, 4, 0, 0, 14, 6, 252, 8, 95, 95, 115, 112, 101, 99, 95, 95, 4, 0, 0, 26, 6, 253, 7, 99, 111, 109, 112, 105, 108, 101, 9, 12, 95, 115, 114, 101, 46, 99, 111, 109, 112, 105, 108, 101, 6, 254, 8, 116, 101, 109, 112, 108, 97, 116, 101, 9, 13, 95, 115, 114, 101, 46, 116, 101, 109, 112, 108, 97, 116, 101, 6, 255, 11, 103, 101, 116, 99, 111, 100, 101, 115, 105, 122, 101, 9, 16, 95, 115, 114, 101, 46, 103, 101, 116, 99, 111, 100, 101, 115, 105, 122, 101, 6, 256, 13, 97, 115, 99, 105, 105, 95, 105, 115, 99, 97, 115, 101, 100, 9, 18, 95, 115, 114, 101, 46, 97, 115, 99, 105, 105, 95, 105, 115, 99, 97, 115, 101, 100, 6, 257, 15, 117, 110, 105, 99, 111, 100, 101, 95, 105, 115, 99, 97, 115, 101, 100, 9, 20, 95, 115, 114, 101, 46, 117, 110, 105, 99, 111, 100, 101, 95, 105, 115, 99, 97, 115, 101, 100, 6, 258, 13, 97, 115, 99, 105, 105, 95, 116, 111, 108, 111, 119, 101, 114, 9, 18, 95, 115, 114, 101, 46, 97, 115, 99, 105, 105, 95, 116, 111, 108, 111, 119, 101, 114, 6, 259, 15, 117, 110, 105, 99, 111, 100, 101, 95, 116, 111, 108, 111, 119, 101, 114, 9, 20, 95, 115, 114, 101, 46, 117, 110, 105, 99, 111, 100, 101, 95, 116, 111, 108, 111, 119, 101, 114, 6, 261, 5, 77, 65, 71, 73, 67, 4, 260, 0, 20230612, 6, 263, 8, 67, 79, 68, 69, 83, 73, 90, 69, 4, 262, 0, 4, 6, 265, 9, 77, 65, 88, 82, 69, 80, 69, 65, 84, 4, 264, 0, 4294967295, 6, 267, 9, 77, 65, 88, 71, 82, 79, 85, 80, 83, 4, 266, 0, 1073741823, 6, 269, 9, 99, 111, 112, 121, 114, 105, 103, 104, 116, 6, 268, 53, 32, 83, 82, 69, 32, 50, 46, 50, 46, 50, 32, 67, 111, 112, 121, 114, 105, 103, 104, 116, 32, 40, 99, 41, 32, 49, 57, 57, 55, 45, 50, 48, 48, 50, 32, 98, 121, 32, 83, 101, 99, 114, 101, 116, 32, 76, 97, 98, 115, 32, 65, 66, 32]⟩ 0, .bool true, .bool false, .str "_sre" 271] 0, #[]⟩
noncomputable def o28a (p : Program) (P : Params) : Obj := ⟨.type "tuple", none, .seq #[] 0, #[]⟩
noncomputable def o29a (p : Program) (P : Params) : Obj := ⟨.none, none, .fields #[], #[]⟩
noncomputable def o30a (p : Program) (P : Params) : Obj := ⟨.type "code", none, .fields #[.str "<module>" 277, .str "<module>" 278, .str "/claim/cut.py" 279, .int 1 0, .int 0 0, .int 0 0, .int 0 0, .int 0 0, .ref 28, .bool false, .int 276 0, .ref 29, .none, .none, .none, .none, .int 280 0, .int 1 0, .str "/claim/cut.py" 281], #[]⟩
noncomputable def o31a (p : Program) (P : Params) : Obj := ⟨.type "frame", none, .plain, #[some (.ref 30), some (.ref 3), some (.ref 3), none, some (.str "__main__" 164), none, some (.ref 0)]⟩
noncomputable def o2f (p : Program) (P : Params) : Obj := ⟨.none, none, .dict #[e P ⟨#[105, 109, 112, 111, 114, 116, 46, 108, 111, 97, 100, 101, 100, 46, 95, 115, 114, 101]⟩ 183 (.bool true), e P ⟨#[99, 108, 97, 115, 115, 46, 95, 102, 114, 111, 122, 101, 110, 95, 105, 109, 112, 111, 114, 116, 108, 105, 98, 46, 66, 117, 105, 108, 116, 105, 110, 73, 109, 112, 111, 114, 116, 101, 114]⟩ 185 (.ref 14), e P ⟨#[119, 97, 116, 99, 104, 101, 100, 46, 105, 109, 112, 111, 114, 116]⟩ 206 (.ref 18), e P ⟨#[99, 108, 97, 115, 115, 46, 95, 102, 114, 111, 122, 101, 110, 95, 105, 109, 112, 111, 114, 116, 108, 105, 98, 46, 77, 111, 100, 117, 108, 101, 83, 112, 101, 99]⟩ 216 (.ref 22), e P ⟨#[115, 121, 115, 46, 109, 111, 100, 117, 108, 101, 115, 46, 98, 111, 111, 107, 101, 100, 45, 101, 112, 111, 99, 104]⟩ 245 (.int 3 0), e P ⟨#[105, 109, 112, 111, 114, 116, 46, 108, 97, 116, 101, 114, 45, 108, 97, 105, 100, 46, 95, 115, 114, 101]⟩ 270 (.bool true), e P ⟨#[119, 97, 116, 99, 104, 101, 100, 46, 108, 105, 98, 114, 97, 114, 121]⟩ 272 (.ref 27), e P ⟨#[119, 97, 116, 99, 104, 101, 100, 46, 108, 105, 98, 114, 97, 114, 121, 45, 111, 98, 106, 101, 99, 116, 115]⟩ 0 (.str ⟨#[12]⟩ 0), e P ⟨#[119, 97, 116, 99, 104, 101, 100, 46, 108, 105, 98, 114, 97, 114, 121, 45, 100, 101, 101, 112, 46, 95, 115, 114, 101]⟩ 273 (.str ⟨#[4, 0, 0, 11, 4, 0, 0, 11, 4, 0, 0, 3, 4, 0, 0, 11, 8, 4, 100, 105, 99, 116, 2]⟩ 0), e P ⟨#[116, 121, 112, 101, 46, 95, 95, 115, 117, 98, 99, 108, 97, 115, 115, 101, 115, 95, 95, 46, 115, 116, 114, 46, 48]⟩ 1086 (.int 387 0), e P ⟨#[116, 121, 112, 101, 46, 95, 95, 115, 117, 98, 99, 108, 97, 115, 115, 101, 115, 95, 95, 46, 115, 116, 114, 46, 110]⟩ 1087 (.int 1 0)] 11, #[]⟩
noncomputable def o3f (p : Program) (P : Params) : Obj := ⟨.type "dict", none, .dict #[e P "__name__" 165 (.str "law_be0023_01" 1905), e P "__doc__" 166 .none, e P "__package__" 167 .none, e P "__loader__" 168 (.builtin "__main__.__loader__#opaque"), e P "__spec__" 169 .none, e P "__annotations__" 170 (.ref 6), e P "__builtins__" 171 (.ref 4), e P "__file__" 173 (.str "/claim/cut.py" 172), e P "__cached__" 174 .none, e P "_sre" 275 (.ref 12), e P "_wall" 288 (.ref 38), e P "unescape_backslash" 300 (.ref 45), e P "split_on_unescaped_comma" 311 (.ref 52), e P "split_on_unescaped_semicolon" 322 (.ref 59), e P "SEQUENCE_TYPES" 325 (.ref 60), e P "DEFAULT_ENCODING" 327 (.str "utf-8" 326), e P "to_unicode" 337 (.ref 68), e P "CaselessDict" 510 (.ref 195), e P "_escape_char" 520 (.ref 206), e P "NAME" 545 (.ref 211), e P "validate_token" 554 (.ref 218), e P "param_value" 563 (.ref 224), e P "UNSAFE_CHAR" 597 (.ref 229), e P "QUNSAFE_CHAR" 631 (.ref 234), e P "validate_param_value" 641 (.ref 242), e P "QUOTABLE" 837 (.ref 247), e P "dquote" 846 (.ref 255), e P "q_split" 866 (.ref 263), e P "q_join" 878 (.ref 271), e P "Parameters" 984 (.ref 324), e P "rfc_6868_unescape" 996 (.ref 333), e P "rfc_6868_escape" 1007 (.ref 340), e P "vText" 1089 (.ref 387), e P "_tuplegetter" 1148 (.ref 669), e P "tuplegetter_adr" 1149 (.ref 431), e P "AdrFields" 1336 (.ref 518), e P "vAdr" 1418 (.ref 569), e P "vCategory" 1501 (.ref 626), e P "tuplegetter_n" 1561 (.ref 669), e P "NFields" 1720 (.ref 750), e P "vN" 1802 (.ref 801), e P "vOrg" 1904 (.ref 869), e P "_law_signs" 1916 (.ref 874), e P "_law_escaped" 1926 (.ref 875), e P "_law_digits" 1934 (.ref 882), e P "_law_refused" 1940 (.ref 887), e P "law" 1946 (.ref 892)] 47, #[]⟩
noncomputable def o37f (p : Program) (P : Params) : Obj := ⟨.type "code", none, .fields #[.str "_wall" 282, .str "_wall" 283, .str "/claim/cut.py" 284, .int 2 0, .int 1 0, .int 0 0, .int 0 0, .int 3 0, .ref 32, .bool true, .int 276 0, .ref 33, .none, .ref 34, .ref 35, .ref 36, .int 286 0, .int 2 0, .str "/claim/cut.py" 287], #[]⟩
noncomputable def o38f (p : Program) (P : Params) : Obj := ⟨.type "function", none, fn (at1 p 0) "_wall" "_wall" 3 [] .none .none .none (.str "__main__" 164) none (.ref 37) .none 0, #[]⟩
noncomputable def o44f (p : Program) (P : Params) : Obj := ⟨.type "code", none, .fields #[.str "unescape_backslash" 291, .str "unescape_backslash" 292, .str "/claim/cut.py" 293, .int 6 0, .int 1 0, .int 0 0, .int 0 0, .int 3 0, .ref 39, .bool true, .int 276 0, .ref 40, .none, .ref 41, .ref 42, .ref 43, .int 297 0, .int 6 0, .str "/claim/cut.py" 298], #[]⟩
noncomputable def o45f (p : Program) (P : Params) : Obj := ⟨.type "function", none, fn (at1 p 2) "unescape_backslash" "unescape_backslash" 3 [] .none .none (.str (dc (at1 p 2)) 299) (.str "icalendar.parser.property" 289) none (.ref 44) .none 0, #[]⟩
noncomputable def o51f (p : Program) (P : Params) : Obj := ⟨.type "code", none, .fields #[.str "split_on_unescaped_comma" 301, .str "split_on_unescaped_comma" 302, .str "/claim/cut.py" 303, .int 25 0, .int 1 0, .int 0 0, .int 0 0, .int 3 0, .ref 46, .bool true, .int 276 0, .ref 47, .none, .ref 48, .ref 49, .ref 50, .int 308 0, .int 25 0, .str "/claim/cut.py" 309], #[]⟩
noncomputable def o52f (p : Program) (P : Params) : Obj := ⟨.type "function", none, fn (at1 p 3) "split_on_unescaped_comma" "split_on_unescaped_comma" 3 [] .none .none (.str (dc (at1 p 3)) 310) (.str "icalendar.parser.property" 289) none (.ref 51) .none 0, #[]⟩
noncomputable def o58f (p : Program) (P : Params) : Obj := ⟨.type "code", none, .fields #[.str "split_on_unescaped_semicolon" 312, .str "split_on_unescaped_semicolon" 313, .str "/claim/cut.py" 314, .int 69 0, .int 1 0, .int 0 0, .int 0 0, .int 3 0, .ref 53, .bool true, .int 276 0, .ref 54, .none, .ref 55, .ref 56, .ref 57, .int 319 0, .int 69 0, .str "/claim/cut.py" 320], #[]⟩
noncomputable def o59f (p : Program) (P : Params) : Obj := ⟨.type "function", none, fn (at1 p 4) "split_on_unescaped_semicolon" "split_on_unescaped_semicolon" 3 [] .none .none (.str (dc (at1 p 4)) 321) (.str "icalendar.parser.property" 289) none (.ref 58) .none 0, #[]⟩
noncomputable def o61f (p : Program) (P : Params) : Obj := ⟨.type "tuple", none, .seq #[.str "utf-8-sig" 328] 0, #[]⟩
noncomputable def o67f (p : Program) (P : Params) : Obj := ⟨.type "code", none, .fields #[.str "to_unicode" 329, .str "to_unicode" 330, .str "/claim/cut.py" 331, .int 117 0, .int 2 0, .int 0 0, .int 0 0, .int 3 0, .ref 62, .bool true, .int 276 0, .ref 63, .none, .ref 64, .ref 65, .ref 66, .int 334 0, .int 117 0, .str "/claim/cut.py" 335], #[]⟩
noncomputable def o68f (p : Program) (P : Params) : Obj := ⟨.type "function", none, fn (at1 p 8) "to_unicode" "to_unicode" 3 [] (.ref 61) .none (.str (dc (at1 p 8)) 336) (.str "icalendar.parser_tools" 323) none (.ref 67) .none 0, #[]⟩
noncomputable def o72f (p : Program) (P : Params) : Obj := ⟨.type "cell", none, .cell (some (.ref 195)), #[]⟩
noncomputable def o83f (p : Program) (P : Params) : Obj := ⟨.type "code", none, .fields #[.str "__init__" 355, .str "CaselessDict.__init__" 356, .str "/claim/cut.py" 357, .int 140 0, .int 1 0, .int 0 0, .int 0 0, .int 15 0, .ref 78, .bool true, .int 276 0, .ref 79, .none, .ref 80, .ref 81, .ref 82, .int 362 0, .int 140 0, .str "/claim/cut.py" 363], #[]⟩
noncomputable def o84f (p : Program) (P : Params) : Obj := ⟨.type "function", none, fn (at2 p 10 1) "__init__" "CaselessDict.__init__" 3 [("__class__", 72)] .none .none (.str (dc (at2 p 10 1)) 364) (.str "icalendar.caselessdict" 338) none (.ref 83) (.ref 77) 0, #[]⟩
noncomputable def o163f (p : Program) (P : Params) : Obj := ⟨.type "code", none, .fields #[.str "update" 455, .str "CaselessDict.update" 456, .str "/claim/cut.py" 457, .int 258 0, .int 1 0, .int 0 0, .int 0 0, .int 15 0, .ref 158, .bool true, .int 276 0, .ref 159, .none, .ref 160, .ref 161, .ref 162, .int 465 0, .int 258 0, .str "/claim/cut.py" 466], #[]⟩
noncomputable def o164f (p : Program) (P : Params) : Obj := ⟨.type "function", none, fn (at2 p 10 11) "update" "CaselessDict.update" 3 [] .none .none (.str (dc (at2 p 10 11)) 467) (.str "icalendar.caselessdict" 338) none (.ref 163) .none 0, #[]⟩
noncomputable def o194f (p : Program) (P : Params) : Obj := ⟨.type "dict", none, .dict #[e P ⟨#[95, 95, 109, 111, 100, 117, 108, 101, 95, 95]⟩ 347 (.str ⟨#[105, 99, 97, 108, 101, 110, 100, 97, 114, 46, 99, 97, 115, 101, 108, 101, 115, 115, 100, 105, 99, 116]⟩ 338), e P ⟨#[95, 95, 102, 105, 114, 115, 116, 108, 105, 110, 101, 110, 111, 95, 95]⟩ 351 (.int 131 350), e P ⟨#[95, 95, 100, 111, 99, 95, 95]⟩ 353 (.str (dc (at1 p 10)) 352), e P ⟨#[95, 95, 105, 110, 105, 116, 95, 95]⟩ 365 (.ref 84), e P ⟨#[95, 95, 103, 101, 116, 105, 116, 101, 109, 95, 95]⟩ 375 (.ref 92), e P ⟨#[95, 95, 115, 101, 116, 105, 116, 101, 109, 95, 95]⟩ 386 (.ref 100), e P ⟨#[95, 95, 100, 101, 108, 105, 116, 101, 109, 95, 95]⟩ 396 (.ref 108), e P ⟨#[95, 95, 99, 111, 110, 116, 97, 105, 110, 115, 95, 95]⟩ 406 (.ref 116), e P ⟨#[103, 101, 116]⟩ 417 (.ref 125), e P ⟨#[115, 101, 116, 100, 101, 102, 97, 117, 108, 116]⟩ 428 (.ref 134), e P ⟨#[112, 111, 112]⟩ 439 (.ref 143), e P ⟨#[112, 111, 112, 105, 116, 101, 109]⟩ 446 (.ref 150), e P ⟨#[104, 97, 115, 95, 107, 101, 121]⟩ 454 (.ref 157), e P ⟨#[117, 112, 100, 97, 116, 101]⟩ 468 (.ref 164), e P ⟨#[95, 95, 101, 113, 95, 95]⟩ 477 (.ref 171), e P ⟨#[95, 95, 110, 101, 95, 95]⟩ 486 (.ref 178), e P ⟨#[99, 97, 110, 111, 110, 105, 99, 97, 108, 95, 111, 114, 100, 101, 114]⟩ 487 .none, e P ⟨#[115, 111, 114, 116, 101, 100, 95, 107, 101, 121, 115]⟩ 494 (.ref 185), e P ⟨#[115, 111, 114, 116, 101, 100, 95, 105, 116, 101, 109, 115]⟩ 501 (.ref 192), e P ⟨#[95, 95, 115, 116, 97, 116, 105, 99, 95, 97, 116, 116, 114, 105, 98, 117, 116, 101, 115, 95, 95]⟩ 502 (.ref 193), e P ⟨#[95, 95, 100, 105, 99, 116, 95, 95]⟩ 505 (.ref 196), e P ⟨#[95, 95, 119, 101, 97, 107, 114, 101, 102, 95, 95]⟩ 507 (.ref 197), e P ⟨#[95, 95, 104, 97, 115, 104, 95, 95]⟩ 508 .none] 5, #[]⟩
noncomputable def o195f (p : Program) (P : Params) : Obj := ⟨.type "type", none, cl "CaselessDict" [.type "dict"] [.ref 195, .type "dict", .type "object"] 194 "CaselessDict" true [] [.ref 324] false none false, #[some (.ref 69), none, some (.str "CaselessDict" 340), some (.str "CaselessDict" 348), some (.builtin "dict.__new__"), some (.bool true)]⟩
noncomputable def o205f (p : Program) (P : Params) : Obj := ⟨.type "code", none, .fields #[.str "_escape_char" 513, .str "_escape_char" 514, .str "/claim/cut.py" 515, .int 310 0, .int 1 0, .int 0 0, .int 0 0, .int 3 0, .ref 200, .bool true, .int 276 0, .ref 201, .none, .ref 202, .ref 203, .ref 204, .int 517 0, .int 310 0, .str "/claim/cut.py" 518], #[]⟩
noncomputable def o206f (p : Program) (P : Params) : Obj := ⟨.type "function", none, fn (at1 p 12) "_escape_char" "_escape_char" 3 [] .none .none (.str (dc (at1 p 12)) 519) (.str "icalendar.parser.string" 511) none (.ref 205) .none 0, #[]⟩
noncomputable def o217f (p : Program) (P : Params) : Obj := ⟨.type "code", none, .fields #[.str "validate_token" 546, .str "validate_token" 547, .str "/claim/cut.py" 548, .int 345 0, .int 1 0, .int 0 0, .int 0 0, .int 3 0, .ref 212, .bool true, .int 276 0, .ref 213, .none, .ref 214, .ref 215, .ref 216, .int 551 0, .int 345 0, .str "/claim/cut.py" 552], #[]⟩
noncomputable def o218f (p : Program) (P : Params) : Obj := ⟨.type "function", none, fn (at1 p 14) "validate_token" "validate_token" 3 [] .none .none (.str (dc (at1 p 14)) 553) (.str "icalendar.parser.string" 511) none (.ref 217) .none 0, #[]⟩
noncomputable def o275f (p : Program) (P : Params) : Obj := ⟨.type "cell", none, .cell (some (.ref 324)), #[]⟩
noncomputable def o284f (p : Program) (P : Params) : Obj := ⟨.type "code", none, .fields #[.str "__init__" 894, .str "Parameters.__init__" 895, .str "/claim/cut.py" 896, .int 532 0, .int 1 0, .int 0 0, .int 0 0, .int 15 0, .ref 281, .bool true, .int 276 0, .ref 282, .none, .none, .none, .ref 283, .int 898 0, .int 532 0, .str "/claim/cut.py" 899], #[]⟩
noncomputable def o285f (p : Program) (P : Params) : Obj := ⟨.type "function", none, fn (at2 p 24 1) "__init__" "Parameters.__init__" 3 [("__class__", 275)] .none .none (.str (dc (at2 p 24 1)) 900) (.str "icalendar.parser.parameter" 555) none (.ref 284) (.ref 280) 0, #[]⟩
noncomputable def o312f (p : Program) (P : Params) : Obj := ⟨.type "classmethod", some 311, .fields #[.ref 310, .bool false], #[]⟩
noncomputable def o321f (p : Program) (P : Params) : Obj := ⟨.type "property", none, .fields #[.ref 320, .none, .none, .str (dc (at2 p 24 7)) 978, .str "value" 980, .bool true], #[]⟩
noncomputable def o323f (p : Program) (P : Params) : Obj := ⟨.type "dict", none, .dict #[e P ⟨#[95, 95, 109, 111, 100, 117, 108, 101, 95, 95]⟩ 886 (.str ⟨#[105, 99, 97, 108, 101, 110, 100, 97, 114, 46, 112, 97, 114, 115, 101, 114, 46, 112, 97, 114, 97, 109, 101, 116, 101, 114]⟩ 555), e P ⟨#[95, 95, 102, 105, 114, 115, 116, 108, 105, 110, 101, 110, 111, 95, 95]⟩ 890 (.int 494 889), e P ⟨#[95, 95, 100, 111, 99, 95, 95]⟩ 892 (.str (dc (at1 p 24)) 891), e P ⟨#[95, 95, 105, 110, 105, 116, 95, 95]⟩ 901 (.ref 285), e P ⟨#[97, 108, 119, 97, 121, 115, 95, 113, 117, 111, 116, 101, 100]⟩ 911 (.ref 286), e P ⟨#[113, 117, 111, 116, 101, 95, 97, 108, 115, 111]⟩ 915 (.ref 287), e P ⟨#[112, 97, 114, 97, 109, 115]⟩ 923 (.ref 294), e P ⟨#[116, 111, 95, 105, 99, 97, 108]⟩ 940 (.ref 302), e P ⟨#[102, 114, 111, 109, 95, 105, 99, 97, 108]⟩ 970 (.ref 312), e P ⟨#[118, 97, 108, 117, 101]⟩ 980 (.ref 321), e P ⟨#[95, 95, 115, 116, 97, 116, 105, 99, 95, 97, 116, 116, 114, 105, 98, 117, 116, 101, 115, 95, 95]⟩ 981 (.ref 322)] 2, #[]⟩
noncomputable def o324f (p : Program) (P : Params) : Obj := ⟨.type "type", none, cl "Parameters" [.ref 195] [.ref 324, .ref 195, .type "dict", .type "object"] 323 "Parameters" true [] [] false none false, #[some (.ref 272), none, some (.str "Parameters" 879), some (.str "Parameters" 887), some (.builtin "dict.__new__"), some (.bool true)]⟩
noncomputable def o332f (p : Program) (P : Params) : Obj := ⟨.type "code", none, .fields #[.str "rfc_6868_unescape" 985, .str "rfc_6868_unescape" 986, .str "/claim/cut.py" 987, .int 637 0, .int 1 0, .int 0 0, .int 0 0, .int 3 0, .ref 327, .bool true, .int 276 0, .ref 328, .none, .ref 329, .ref 330, .ref 331, .int 993 0, .int 637 0, .str "/claim/cut.py" 994], #[]⟩
noncomputable def o333f (p : Program) (P : Params) : Obj := ⟨.type "function", none, fn (at1 p 25) "rfc_6868_unescape" "rfc_6868_unescape" 3 [] .none .none (.str (dc (at1 p 25)) 995) (.str "icalendar.parser.parameter" 555) none (.ref 332) .none 0, #[]⟩
noncomputable def o339f (p : Program) (P : Params) : Obj := ⟨.type "code", none, .fields #[.str "rfc_6868_escape" 997, .str "rfc_6868_escape" 998, .str "/claim/cut.py" 999, .int 653 0, .int 1 0, .int 0 0, .int 0 0, .int 3 0, .ref 334, .bool true, .int 276 0, .ref 335, .none, .ref 336, .ref 337, .ref 338, .int 1004 0, .int 653 0, .str "/claim/cut.py" 1005], #[]⟩
noncomputable def o340f (p : Program) (P : Params) : Obj := ⟨.type "function", none, fn (at1 p 26) "rfc_6868_escape" "rfc_6868_escape" 3 [] .none .none (.str (dc (at1 p 26)) 1006) (.str "icalendar.parser.parameter" 555) none (.ref 339) .none 0, #[]⟩
noncomputable def o344f (p : Program) (P : Params) : Obj := ⟨.type "cell", none, .cell (some (.ref 387)), #[]⟩
noncomputable def o350f (p : Program) (P : Params) : Obj := ⟨.type "tuple", none, .seq #[.str "utf-8" 326, .none] 0, #[]⟩
noncomputable def o357f (p : Program) (P : Params) : Obj := ⟨.type "code", none, .fields #[.str "__new__" 1030, .str "vText.__new__" 1031, .str "/claim/cut.py" 1032, .int 732 0, .int 4 0, .int 0 0, .int 0 0, .int 3 0, .ref 352, .bool true, .int 276 0, .ref 353, .none, .ref 354, .ref 355, .ref 356, .int 1039 0, .int 732 0, .str "/claim/cut.py" 1040], #[]⟩
noncomputable def o358f (p : Program) (P : Params) : Obj := ⟨.type "function", none, fn (at2 p 28 3) "__new__" "vText.__new__" 3 [("__class__", 344)] (.ref 350) .none .none (.str "icalendar.prop.text" 1008) none (.ref 357) (.ref 351) 0, #[]⟩
noncomputable def o364f (p : Program) (P : Params) : Obj := ⟨.type "code", none, .fields #[.str "to_ical" 1042, .str "vText.to_ical" 1043, .str "/claim/cut.py" 1044, .int 739 0, .int 1 0, .int 0 0, .int 0 0, .int 3 0, .ref 359, .bool true, .int 276 0, .ref 360, .none, .ref 361, .ref 362, .ref 363, .int 1046 0, .int 739 0, .str "/claim/cut.py" 1047], #[]⟩
noncomputable def o365f (p : Program) (P : Params) : Obj := ⟨.type "function", none, fn (at2 p 28 4) "to_ical" "vText.to_ical" 3 [] .none .none .none (.str "icalendar.prop.text" 1008) none (.ref 364) .none 0, #[]⟩
noncomputable def o374f (p : Program) (P : Params) : Obj := ⟨.type "classmethod", some 373, .fields #[.ref 372, .bool false], #[]⟩
noncomputable def o383f (p : Program) (P : Params) : Obj := ⟨.type "property", none, .fields #[.ref 382, .none, .none, .none, .str "ical_value" 1076, .bool false], #[]⟩
noncomputable def o386f (p : Program) (P : Params) : Obj := ⟨.type "dict", none, .dict #[e P ⟨#[95, 95, 109, 111, 100, 117, 108, 101, 95, 95]⟩ 1017 (.str ⟨#[105, 99, 97, 108, 101, 110, 100, 97, 114, 46, 112, 114, 111, 112, 46, 116, 101, 120, 116]⟩ 1008), e P ⟨#[95, 95, 102, 105, 114, 115, 116, 108, 105, 110, 101, 110, 111, 95, 95]⟩ 1021 (.int 666 1020), e P ⟨#[95, 95, 100, 111, 99, 95, 95]⟩ 1023 (.str (dc (at1 p 28)) 1022), e P ⟨#[100, 101, 102, 97, 117, 108, 116, 95, 118, 97, 108, 117, 101]⟩ 1026 (.str ⟨#[84, 69, 88, 84]⟩ 1025), e P ⟨#[95, 95, 115, 108, 111, 116, 115, 95, 95]⟩ 1029 (.ref 349), e P ⟨#[95, 95, 110, 101, 119, 95, 95]⟩ 1041 (.ref 388), e P ⟨#[116, 111, 95, 105, 99, 97, 108]⟩ 1048 (.ref 365), e P ⟨#[102, 114, 111, 109, 95, 105, 99, 97, 108]⟩ 1068 (.ref 374), e P ⟨#[105, 99, 97, 108, 95, 118, 97, 108, 117, 101]⟩ 1076 (.ref 383), e P ⟨#[95, 95, 115, 116, 97, 116, 105, 99, 95, 97, 116, 116, 114, 105, 98, 117, 116, 101, 115, 95, 95]⟩ 1079 (.ref 384), e P ⟨#[101, 110, 99, 111, 100, 105, 110, 103]⟩ 1083 (.ref 389), e P ⟨#[112, 97, 114, 97, 109, 115]⟩ 1085 (.ref 390)] 4, #[]⟩
noncomputable def o387f (p : Program) (P : Params) : Obj := ⟨.type "type", none, cl "vText" [.type "str"] [.ref 387, .type "str", .type "object"] 386 "vText" false ["encoding", "params"] [] false none false, #[some (.ref 341), none, some (.str "vText" 1010), some (.str "vText" 1018), some .none, some (.bool false)]⟩
noncomputable def o388f (p : Program) (P : Params) : Obj := ⟨.type "staticmethod", none, .fields #[.ref 358], #[]⟩
noncomputable def o389f (p : Program) (P : Params) : Obj := ⟨.type "member_descriptor", none, .fields #[.str "encoding" 1082, .ref 387, .builtin "proto.slot", .builtin "proto.slot#set", .int 1 0], #[]⟩
noncomputable def o390f (p : Program) (P : Params) : Obj := ⟨.type "member_descriptor", none, .fields #[.str "params" 1084, .ref 387, .builtin "proto.slot", .builtin "proto.slot#set", .int 0 0], #[]⟩
noncomputable def o452f (p : Program) (P : Params) : Obj := ⟨.type "code", none, .fields #[.str "__new__" 1182, .str "AdrFields.__new__" 1183, .str "/claim/cut.py" 1184, .int 785 0, .int 8 0, .int 0 0, .int 0 0, .int 3 0, .ref 447, .bool true, .int 276 0, .ref 448, .none, .ref 449, .ref 450, .ref 451, .int 1193 0, .int 785 0, .str "/claim/cut.py" 1194], #[]⟩
noncomputable def o453f (p : Program) (P : Params) : Obj := ⟨.type "function", none, fn (at2 p 32 11) "__new__" "AdrFields.__new__" 3 [] .none .none (.str (dc (at2 p 32 11)) 1195) (.str "icalendar.prop.adr" 1090) none (.ref 452) .none 0, #[]⟩
noncomputable def o462f (p : Program) (P : Params) : Obj := ⟨.type "classmethod", some 461, .fields #[.ref 460, .bool false], #[]⟩
noncomputable def o517f (p : Program) (P : Params) : Obj := ⟨.type "dict", none, .dict #[e P ⟨#[95, 95, 109, 111, 100, 117, 108, 101, 95, 95]⟩ 1157 (.str ⟨#[105, 99, 97, 108, 101, 110, 100, 97, 114, 46, 112, 114, 111, 112, 46, 97, 100, 114]⟩ 1090), e P ⟨#[95, 95, 102, 105, 114, 115, 116, 108, 105, 110, 101, 110, 111, 95, 95]⟩ 1161 (.int 769 1160), e P ⟨#[95, 95, 100, 111, 99, 95, 95]⟩ 1163 (.str (dc (at1 p 32)) 1162), e P ⟨#[95, 95, 115, 108, 111, 116, 115, 95, 95]⟩ 1172 (.ref 444), e P ⟨#[95, 102, 105, 101, 108, 100, 115]⟩ 1180 (.ref 445), e P ⟨#[95, 102, 105, 101, 108, 100, 95, 100, 101, 102, 97, 117, 108, 116, 115]⟩ 1181 (.ref 446), e P ⟨#[95, 95, 110, 101, 119, 95, 95]⟩ 1196 (.ref 519), e P ⟨#[95, 109, 97, 107, 101]⟩ 1218 (.ref 462), e P ⟨#[95, 114, 101, 112, 108, 97, 99, 101]⟩ 1229 (.ref 471), e P ⟨#[95, 95, 114, 101, 112, 108, 97, 99, 101, 95, 95]⟩ 1230 (.ref 471), e P ⟨#[95, 95, 114, 101, 112, 114, 95, 95]⟩ 1238 (.ref 478), e P ⟨#[95, 97, 115, 100, 105, 99, 116]⟩ 1245 (.ref 485), e P ⟨#[95, 95, 103, 101, 116, 110, 101, 119, 97, 114, 103, 115, 95, 95]⟩ 1253 (.ref 492), e P ⟨#[95, 95, 109, 97, 116, 99, 104, 95, 97, 114, 103, 115, 95, 95]⟩ 1261 (.ref 493), e P ⟨#[112, 111, 95, 98, 111, 120]⟩ 1271 (.ref 495), e P ⟨#[101, 120, 116, 101, 110, 100, 101, 100]⟩ 1281 (.ref 498), e P ⟨#[115, 116, 114, 101, 101, 116]⟩ 1291 (.ref 501), e P ⟨#[108, 111, 99, 97, 108, 105, 116, 121]⟩ 1301 (.ref 504), e P ⟨#[114, 101, 103, 105, 111, 110]⟩ 1311 (.ref 507), e P ⟨#[112, 111, 115, 116, 97, 108, 95, 99, 111, 100, 101]⟩ 1321 (.ref 510), e P ⟨#[99, 111, 117, 110, 116, 114, 121]⟩ 1331 (.ref 513), e P ⟨#[95, 95, 115, 116, 97, 116, 105, 99, 95, 97, 116, 116, 114, 105, 98, 117, 116, 101, 115, 95, 95]⟩ 1332 (.ref 515)] 2, #[]⟩
noncomputable def o518f (p : Program) (P : Params) : Obj := ⟨.type "type", none, cl "AdrFields" [.type "tuple"] [.ref 518, .type "tuple", .type "object"] 517 "AdrFields" false [] [] false none false, #[some (.ref 436), none, some (.str "AdrFields" 1150), some (.str "AdrFields" 1158), some .none, some (.bool false)]⟩
noncomputable def o519f (p : Program) (P : Params) : Obj := ⟨.type "staticmethod", none, .fields #[.ref 453], #[]⟩
noncomputable def o529f (p : Program) (P : Params) : Obj := ⟨.type "tuple", none, .seq #[.none] 0, #[]⟩
noncomputable def o535f (p : Program) (P : Params) : Obj := ⟨.type "code", none, .fields #[.str "__init__" 1354, .str "vAdr.__init__" 1355, .str "/claim/cut.py" 1356, .int 859 0, .int 3 0, .int 0 0, .int 0 0, .int 3 0, .ref 530, .bool true, .int 276 0, .ref 531, .none, .ref 532, .ref 533, .ref 534, .int 1360 0, .int 859 0, .str "/claim/cut.py" 1361], #[]⟩
noncomputable def o536f (p : Program) (P : Params) : Obj := ⟨.type "function", none, fn (at2 p 33 2) "__init__" "vAdr.__init__" 3 [] (.ref 529) .none (.str (dc (at2 p 33 2)) 1362) (.str "icalendar.prop.adr" 1090) none (.ref 535) .none 0, #[]⟩
noncomputable def o540f (p : Program) (P : Params) : Obj := ⟨.type "code", none, .fields #[.str "to_ical" 1364, .str "vAdr.to_ical" 1365, .str "/claim/cut.py" 1366, .int 877 0, .int 1 0, .int 0 0, .int 0 0, .int 3 0, .ref 537, .bool true, .int 276 0, .ref 538, .none, .none, .none, .ref 539, .int 1367 0, .int 877 0, .str "/claim/cut.py" 1368], #[]⟩
noncomputable def o541f (p : Program) (P : Params) : Obj := ⟨.type "function", none, fn (at2 p 33 3) "to_ical" "vAdr.to_ical" 3 [] .none .none (.str (dc (at2 p 33 3)) 1369) (.str "icalendar.prop.adr" 1090) none (.ref 540) .none 0, #[]⟩
noncomputable def o547f (p : Program) (P : Params) : Obj := ⟨.type "code", none, .fields #[.str "from_ical" 1371, .str "vAdr.from_ical" 1372, .str "/claim/cut.py" 1373, .int 882 0, .int 1 0, .int 0 0, .int 0 0, .int 3 0, .ref 542, .bool true, .int 276 0, .ref 543, .none, .ref 544, .ref 545, .ref 546, .int 1376 0, .int 882 0, .str "/claim/cut.py" 1377], #[]⟩
noncomputable def o548f (p : Program) (P : Params) : Obj := ⟨.type "function", none, fn (at2 p 33 4) "from_ical" "vAdr.from_ical" 3 [] .none .none (.str (dc (at2 p 33 4)) 1378) (.str "icalendar.prop.adr" 1090) (some 551) (.ref 547) .none 0, #[]⟩
noncomputable def o550f (p : Program) (P : Params) : Obj := ⟨.type "staticmethod", some 549, .fields #[.ref 548, .bool false], #[]⟩
noncomputable def o557f (p : Program) (P : Params) : Obj := ⟨.type "code", none, .fields #[.str "__eq__" 1392, .str "vAdr.__eq__" 1393, .str "/claim/cut.py" 1394, .int 898 0, .int 2 0, .int 0 0, .int 0 0, .int 3 0, .ref 552, .bool true, .int 276 0, .ref 553, .none, .ref 554, .ref 555, .ref 556, .int 1397 0, .int 898 0, .str "/claim/cut.py" 1398], #[]⟩
noncomputable def o558f (p : Program) (P : Params) : Obj := ⟨.type "function", none, fn (at2 p 33 5) "__eq__" "vAdr.__eq__" 3 [] .none .none (.str (dc (at2 p 33 5)) 1399) (.str "icalendar.prop.adr" 1090) none (.ref 557) .none 0, #[]⟩
noncomputable def o566f (p : Program) (P : Params) : Obj := ⟨.type "property", none, .fields #[.ref 565, .none, .none, .none, .str "ical_value" 1408, .bool false], #[]⟩
noncomputable def o568f (p : Program) (P : Params) : Obj := ⟨.type "dict", none, .dict #[e P "__module__" 1344 (.str "icalendar.prop.adr" 1090), e P "__firstlineno__" 1348 (.int 826 1347), e P "__doc__" 1350 (.str (dc (at1 p 33)) 1349), e P "default_value" 1353 (.str "TEXT" 1352), e P "__init__" 1363 (.ref 536), e P "to_ical" 1370 (.ref 541), e P "from_ical" 1391 (.ref 550), e P "__eq__" 1400 (.ref 558), e P "ical_value" 1408 (.ref 566), e P "__static_attributes__" 1411 (.ref 567), e P "__dict__" 1413 (.ref 570), e P "__weakref__" 1415 (.ref 571), e P "__hash__" 1416 .none] 4, #[]⟩
noncomputable def o569f (p : Program) (P : Params) : Obj := ⟨.type "type", none, cl "vAdr" [.type "object"] [.ref 569, .type "object"] 568 "vAdr" true [] [] false none false, #[none, none, some (.str "vAdr" 1337), some (.str "vAdr" 1345), some (.builtin "object.__new__"), some (.bool true)]⟩
noncomputable def o581f (p : Program) (P : Params) : Obj := ⟨.type "tuple", none, .seq #[.none] 0, #[]⟩
noncomputable def o585f (p : Program) (P : Params) : Obj := ⟨.type "code", none, .fields #[.str "__init__" 1435, .str "vCategory.__init__" 1436, .str "/claim/cut.py" 1437, .int 909 0, .int 3 0, .int 0 0, .int 0 0, .int 3 0, .ref 582, .bool true, .int 276 0, .ref 583, .none, .none, .none, .ref 584, .int 1438 0, .int 909 0, .str "/claim/cut.py" 1439], #[]⟩
noncomputable def o586f (p : Program) (P : Params) : Obj := ⟨.type "function", none, fn (at2 p 35 1) "__init__" "vCategory.__init__" 3 [] (.ref 581) .none .none (.str "icalendar.prop.categories" 1419) none (.ref 585) .none 0, #[]⟩
noncomputable def o592f (p : Program) (P : Params) : Obj := ⟨.type "code", none, .fields #[.str "__iter__" 1441, .str "vCategory.__iter__" 1442, .str "/claim/cut.py" 1443, .int 915 0, .int 1 0, .int 0 0, .int 0 0, .int 3 0, .ref 587, .bool true, .int 276 0, .ref 588, .none, .ref 589, .ref 590, .ref 591, .int 1445 0, .int 915 0, .str "/claim/cut.py" 1446], #[]⟩
noncomputable def o593f (p : Program) (P : Params) : Obj := ⟨.type "function", none, fn (at2 p 35 2) "__iter__" "vCategory.__iter__" 3 [] .none .none .none (.str "icalendar.prop.categories" 1419) none (.ref 592) .none 0, #[]⟩
noncomputable def o597f (p : Program) (P : Params) : Obj := ⟨.type "code", none, .fields #[.str "to_ical" 1448, .str "vCategory.to_ical" 1449, .str "/claim/cut.py" 1450, .int 918 0, .int 1 0, .int 0 0, .int 0 0, .int 3 0, .ref 594, .bool true, .int 276 0, .ref 595, .none, .none, .none, .ref 596, .int 1451 0, .int 918 0, .str "/claim/cut.py" 1452], #[]⟩
noncomputable def o598f (p : Program) (P : Params) : Obj := ⟨.type "function", none, fn (at2 p 35 3) "to_ical" "vCategory.to_ical" 3 [] .none .none .none (.str "icalendar.prop.categories" 1419) none (.ref 597) .none 0, #[]⟩
noncomputable def o607f (p : Program) (P : Params) : Obj := ⟨.type "staticmethod", some 606, .fields #[.ref 605, .bool false], #[]⟩
noncomputable def o614f (p : Program) (P : Params) : Obj := ⟨.type "code", none, .fields #[.str "__eq__" 1474, .str "vCategory.__eq__" 1475, .str "/claim/cut.py" 1476, .int 946 0, .int 2 0, .int 0 0, .int 0 0, .int 3 0, .ref 609, .bool true, .int 276 0, .ref 610, .none, .ref 611, .ref 612, .ref 613, .int 1479 0, .int 946 0, .str "/claim/cut.py" 1480], #[]⟩
noncomputable def o615f (p : Program) (P : Params) : Obj := ⟨.type "function", none, fn (at2 p 35 5) "__eq__" "vCategory.__eq__" 3 [] .none .none (.str (dc (at2 p 33 5)) 1481) (.str "icalendar.prop.categories" 1419) none (.ref 614) .none 0, #[]⟩
noncomputable def o623f (p : Program) (P : Params) : Obj := ⟨.type "property", none, .fields #[.ref 622, .none, .none, .none, .str "ical_value" 1490, .bool false], #[]⟩
noncomputable def o625f (p : Program) (P : Params) : Obj := ⟨.type "dict", none, .dict #[e P "__module__" 1428 (.str "icalendar.prop.categories" 1419), e P "__firstlineno__" 1432 (.int 906 1431), e P "default_value" 1434 (.str "TEXT" 1433), e P "__init__" 1440 (.ref 586), e P "__iter__" 1447 (.ref 593), e P "to_ical" 1453 (.ref 598), e P "from_ical" 1473 (.ref 607), e P "__eq__" 1482 (.ref 615), e P "ical_value" 1490 (.ref 623), e P "__static_attributes__" 1493 (.ref 624), e P "__dict__" 1495 (.ref 627), e P "__weakref__" 1497 (.ref 628), e P "__doc__" 1498 .none, e P "__hash__" 1499 .none] 5, #[]⟩
noncomputable def o626f (p : Program) (P : Params) : Obj := ⟨.type "type", none, cl "vCategory" [.type "object"] [.ref 626, .type "object"] 625 "vCategory" true [] [] false none false, #[none, none, some (.str "vCategory" 1421), some (.str "vCategory" 1429), some (.builtin "object.__new__"), some (.bool true)]⟩
noncomputable def o690f (p : Program) (P : Params) : Obj := ⟨.type "code", none, .fields #[.str "__new__" 1590, .str "NFields.__new__" 1591, .str "/claim/cut.py" 1592, .int 987 0, .int 6 0, .int 0 0, .int 0 0, .int 3 0, .ref 685, .bool true, .int 276 0, .ref 686, .none, .ref 687, .ref 688, .ref 689, .int 1599 0, .int 987 0, .str "/claim/cut.py" 1600], #[]⟩
noncomputable def o691f (p : Program) (P : Params) : Obj := ⟨.type "function", none, fn (at2 p 39 9) "__new__" "NFields.__new__" 3 [] .none .none (.str (dc (at2 p 39 9)) 1601) (.str "icalendar.prop.n" 1502) none (.ref 690) .none 0, #[]⟩
noncomputable def o700f (p : Program) (P : Params) : Obj := ⟨.type "classmethod", some 699, .fields #[.ref 698, .bool false], #[]⟩
noncomputable def o749f (p : Program) (P : Params) : Obj := ⟨.type "dict", none, .dict #[e P ⟨#[95, 95, 109, 111, 100, 117, 108, 101, 95, 95]⟩ 1569 (.str ⟨#[105, 99, 97, 108, 101, 110, 100, 97, 114, 46, 112, 114, 111, 112, 46, 110]⟩ 1502), e P ⟨#[95, 95, 102, 105, 114, 115, 116, 108, 105, 110, 101, 110, 111, 95, 95]⟩ 1573 (.int 973 1572), e P ⟨#[95, 95, 100, 111, 99, 95, 95]⟩ 1575 (.str (dc (at1 p 39)) 1574), e P ⟨#[95, 95, 115, 108, 111, 116, 115, 95, 95]⟩ 1582 (.ref 682), e P ⟨#[95, 102, 105, 101, 108, 100, 115]⟩ 1588 (.ref 683), e P ⟨#[95, 102, 105, 101, 108, 100, 95, 100, 101, 102, 97, 117, 108, 116, 115]⟩ 1589 (.ref 684), e P ⟨#[95, 95, 110, 101, 119, 95, 95]⟩ 1602 (.ref 751), e P ⟨#[95, 109, 97, 107, 101]⟩ 1624 (.ref 700), e P ⟨#[95, 114, 101, 112, 108, 97, 99, 101]⟩ 1635 (.ref 709), e P ⟨#[95, 95, 114, 101, 112, 108, 97, 99, 101, 95, 95]⟩ 1636 (.ref 709), e P ⟨#[95, 95, 114, 101, 112, 114, 95, 95]⟩ 1644 (.ref 716), e P ⟨#[95, 97, 115, 100, 105, 99, 116]⟩ 1651 (.ref 723), e P ⟨#[95, 95, 103, 101, 116, 110, 101, 119, 97, 114, 103, 115, 95, 95]⟩ 1659 (.ref 730), e P ⟨#[95, 95, 109, 97, 116, 99, 104, 95, 97, 114, 103, 115, 95, 95]⟩ 1665 (.ref 731), e P ⟨#[102, 97, 109, 105, 108, 121]⟩ 1675 (.ref 733), e P ⟨#[103, 105, 118, 101, 110]⟩ 1685 (.ref 736), e P ⟨#[97, 100, 100, 105, 116, 105, 111, 110, 97, 108]⟩ 1695 (.ref 739), e P ⟨#[112, 114, 101, 102, 105, 120]⟩ 1705 (.ref 742), e P ⟨#[115, 117, 102, 102, 105, 120]⟩ 1715 (.ref 745), e P ⟨#[95, 95, 115, 116, 97, 116, 105, 99, 95, 97, 116, 116, 114, 105, 98, 117, 116, 101, 115, 95, 95]⟩ 1716 (.ref 747)] 2, #[]⟩
noncomputable def o750f (p : Program) (P : Params) : Obj := ⟨.type "type", none, cl "NFields" [.type "tuple"] [.ref 750, .type "tuple", .type "object"] 749 "NFields" false [] [] false none false, #[some (.ref 674), none, some (.str "NFields" 1562), some (.str "NFields" 1570), some .none, some (.bool false)]⟩
noncomputable def o751f (p : Program) (P : Params) : Obj := ⟨.type "staticmethod", none, .fields #[.ref 691], #[]⟩
noncomputable def o761f (p : Program) (P : Params) : Obj := ⟨.type "tuple", none, .seq #[.none] 0, #[]⟩
noncomputable def o767f (p : Program) (P : Params) : Obj := ⟨.type "code", none, .fields #[.str "__init__" 1738, .str "vN.__init__" 1739, .str "/claim/cut.py" 1740, .int 1057 0, .int 3 0, .int 0 0, .int 0 0, .int 3 0, .ref 762, .bool true, .int 276 0, .ref 763, .none, .ref 764, .ref 765, .ref 766, .int 1744 0, .int 1057 0, .str "/claim/cut.py" 1745], #[]⟩
noncomputable def o768f (p : Program) (P : Params) : Obj := ⟨.type "function", none, fn (at2 p 40 2) "__init__" "vN.__init__" 3 [] (.ref 761) .none (.str (dc (at2 p 40 2)) 1746) (.str "icalendar.prop.n" 1502) none (.ref 767) .none 0, #[]⟩
noncomputable def o772f (p : Program) (P : Params) : Obj := ⟨.type "code", none, .fields #[.str "to_ical" 1748, .str "vN.to_ical" 1749, .str "/claim/cut.py" 1750, .int 1075 0, .int 1 0, .int 0 0, .int 0 0, .int 3 0, .ref 769, .bool true, .int 276 0, .ref 770, .none, .none, .none, .ref 771, .int 1751 0, .int 1075 0, .str "/claim/cut.py" 1752], #[]⟩
noncomputable def o773f (p : Program) (P : Params) : Obj := ⟨.type "function", none, fn (at2 p 40 3) "to_ical" "vN.to_ical" 3 [] .none .none (.str (dc (at2 p 33 3)) 1753) (.str "icalendar.prop.n" 1502) none (.ref 772) .none 0, #[]⟩
noncomputable def o779f (p : Program) (P : Params) : Obj := ⟨.type "code", none, .fields #[.str "from_ical" 1755, .str "vN.from_ical" 1756, .str "/claim/cut.py" 1757, .int 1080 0, .int 1 0, .int 0 0, .int 0 0, .int 3 0, .ref 774, .bool true, .int 276 0, .ref 775, .none, .ref 776, .ref 777, .ref 778, .int 1760 0, .int 1080 0, .str "/claim/cut.py" 1761], #[]⟩
noncomputable def o780f (p : Program) (P : Params) : Obj := ⟨.type "function", none, fn (at2 p 40 4) "from_ical" "vN.from_ical" 3 [] .none .none (.str (dc (at2 p 40 4)) 1762) (.str "icalendar.prop.n" 1502) (some 783) (.ref 779) .none 0, #[]⟩
noncomputable def o782f (p : Program) (P : Params) : Obj := ⟨.type "staticmethod", some 781, .fields #[.ref 780, .bool false], #[]⟩
noncomputable def o789f (p : Program) (P : Params) : Obj := ⟨.type "code", none, .fields #[.str "__eq__" 1776, .str "vN.__eq__" 1777, .str "/claim/cut.py" 1778, .int 1096 0, .int 2 0, .int 0 0, .int 0 0, .int 3 0, .ref 784, .bool true, .int 276 0, .ref 785, .none, .ref 786, .ref 787, .ref 788, .int 1781 0, .int 1096 0, .str "/claim/cut.py" 1782], #[]⟩
noncomputable def o790f (p : Program) (P : Params) : Obj := ⟨.type "function", none, fn (at2 p 40 5) "__eq__" "vN.__eq__" 3 [] .none .none (.str (dc (at2 p 33 5)) 1783) (.str "icalendar.prop.n" 1502) none (.ref 789) .none 0, #[]⟩
noncomputable def o798f (p : Program) (P : Params) : Obj := ⟨.type "property", none, .fields #[.ref 797, .none, .none, .none, .str "ical_value" 1792, .bool false], #[]⟩
noncomputable def o800f (p : Program) (P : Params) : Obj := ⟨.type "dict", none, .dict #[e P "__module__" 1728 (.str "icalendar.prop.n" 1502), e P "__firstlineno__" 1732 (.int 1026 1731), e P "__doc__" 1734 (.str (dc (at1 p 40)) 1733), e P "default_value" 1737 (.str "TEXT" 1736), e P "__init__" 1747 (.ref 768), e P "to_ical" 1754 (.ref 773), e P "from_ical" 1775 (.ref 782), e P "__eq__" 1784 (.ref 790), e P "ical_value" 1792 (.ref 798), e P "__static_attributes__" 1795 (.ref 799), e P "__dict__" 1797 (.ref 802), e P "__weakref__" 1799 (.ref 803), e P "__hash__" 1800 .none] 4, #[]⟩
noncomputable def o801f (p : Program) (P : Params) : Obj := ⟨.type "type", none, cl "vN" [.type "object"] [.ref 801, .type "object"] 800 "vN" true [] [] false none false, #[none, none, some (.str "vN" 1721), some (.str "vN" 1729), some (.builtin "object.__new__"), some (.bool true)]⟩
noncomputable def o813f (p : Program) (P : Params) : Obj := ⟨.type "tuple", none, .seq #[.none] 0, #[]⟩
noncomputable def o819f (p : Program) (P : Params) : Obj := ⟨.type "code", none, .fields #[.str "__init__" 1822, .str "vOrg.__init__" 1823, .str "/claim/cut.py" 1824, .int 1142 0, .int 3 0, .int 0 0, .int 0 0, .int 3 0, .ref 814, .bool true, .int 276 0, .ref 815, .none, .ref 816, .ref 817, .ref 818, .int 1828 0, .int 1142 0, .str "/claim/cut.py" 1829], #[]⟩
noncomputable def o820f (p : Program) (P : Params) : Obj := ⟨.type "function", none, fn (at2 p 42 2) "__init__" "vOrg.__init__" 3 [] (.ref 813) .none (.str (dc (at2 p 42 2)) 1830) (.str "icalendar.prop.org" 1803) none (.ref 819) .none 0, #[]⟩
noncomputable def o824f (p : Program) (P : Params) : Obj := ⟨.type "code", none, .fields #[.str "to_ical" 1832, .str "vOrg.to_ical" 1833, .str "/claim/cut.py" 1834, .int 1157 0, .int 1 0, .int 0 0, .int 0 0, .int 3 0, .ref 821, .bool true, .int 276 0, .ref 822, .none, .none, .none, .ref 823, .int 1835 0, .int 1157 0, .str "/claim/cut.py" 1836], #[]⟩
noncomputable def o825f (p : Program) (P : Params) : Obj := ⟨.type "function", none, fn (at2 p 42 3) "to_ical" "vOrg.to_ical" 3 [] .none .none (.str (dc (at2 p 33 3)) 1837) (.str "icalendar.prop.org" 1803) none (.ref 824) .none 0, #[]⟩
noncomputable def o831f (p : Program) (P : Params) : Obj := ⟨.type "code", none, .fields #[.str "from_ical" 1839, .str "vOrg.from_ical" 1840, .str "/claim/cut.py" 1841, .int 1162 0, .int 1 0, .int 0 0, .int 0 0, .int 3 0, .ref 826, .bool true, .int 276 0, .ref 827, .none, .ref 828, .ref 829, .ref 830, .int 1844 0, .int 1162 0, .str "/claim/cut.py" 1845], #[]⟩
noncomputable def o832f (p : Program) (P : Params) : Obj := ⟨.type "function", none, fn (at2 p 42 4) "from_ical" "vOrg.from_ical" 3 [] .none .none (.str (dc (at2 p 42 4)) 1846) (.str "icalendar.prop.org" 1803) (some 835) (.ref 831) .none 0, #[]⟩
noncomputable def o834f (p : Program) (P : Params) : Obj := ⟨.type "staticmethod", some 833, .fields #[.ref 832, .bool false], #[]⟩
noncomputable def o841f (p : Program) (P : Params) : Obj := ⟨.type "code", none, .fields #[.str "__eq__" 1860, .str "vOrg.__eq__" 1861, .str "/claim/cut.py" 1862, .int 1176 0, .int 2 0, .int 0 0, .int 0 0, .int 3 0, .ref 836, .bool true, .int 276 0, .ref 837, .none, .ref 838, .ref 839, .ref 840, .int 1865 0, .int 1176 0, .str "/claim/cut.py" 1866], #[]⟩
noncomputable def o842f (p : Program) (P : Params) : Obj := ⟨.type "function", none, fn (at2 p 42 5) "__eq__" "vOrg.__eq__" 3 [] .none .none (.str (dc (at2 p 33 5)) 1867) (.str "icalendar.prop.org" 1803) none (.ref 841) .none 0, #[]⟩
noncomputable def o848f (p : Program) (P : Params) : Obj := ⟨.type "code", none, .fields #[.str "name" 1869, .str "vOrg.name" 1870, .str "/claim/cut.py" 1871, .int 1180 0, .int 1 0, .int 0 0, .int 0 0, .int 3 0, .ref 843, .bool true, .int 276 0, .ref 844, .none, .ref 845, .ref 846, .ref 847, .int 1873 0, .int 1180 0, .str "/claim/cut.py" 1874], #[]⟩
noncomputable def o849f (p : Program) (P : Params) : Obj := ⟨.type "function", none, fn (at2 p 42 6) "name" "vOrg.name" 3 [] .none .none (.str (dc (at2 p 42 6)) 1875) (.str "icalendar.prop.org" 1803) none (.ref 848) .none 0, #[]⟩
noncomputable def o850f (p : Program) (P : Params) : Obj := ⟨.type "property", none, .fields #[.ref 849, .none, .none, .str (dc (at2 p 42 6)) 1875, .str "name" 1877, .bool true], #[]⟩
noncomputable def o856f (p : Program) (P : Params) : Obj := ⟨.type "code", none, .fields #[.str "units" 1878, .str "vOrg.units" 1879, .str "/claim/cut.py" 1880, .int 1185 0, .int 1 0, .int 0 0, .int 0 0, .int 3 0, .ref 851, .bool true, .int 276 0, .ref 852, .none, .ref 853, .ref 854, .ref 855, .int 1882 0, .int 1185 0, .str "/claim/cut.py" 1883], #[]⟩
noncomputable def o857f (p : Program) (P : Params) : Obj := ⟨.type "function", none, fn (at2 p 42 7) "units" "vOrg.units" 3 [] .none .none (.str (dc (at2 p 42 7)) 1884) (.str "icalendar.prop.org" 1803) none (.ref 856) .none 0, #[]⟩
noncomputable def o858f (p : Program) (P : Params) : Obj := ⟨.type "property", none, .fields #[.ref 857, .none, .none, .str (dc (at2 p 42 7)) 1884, .str "units" 1886, .bool true], #[]⟩
noncomputable def o866f (p : Program) (P : Params) : Obj := ⟨.type "property", none, .fields #[.ref 865, .none, .none, .none, .str "ical_value" 1894, .bool false], #[]⟩
noncomputable def o868f (p : Program) (P : Params) : Obj := ⟨.type "dict", none, .dict #[e P "__module__" 1812 (.str "icalendar.prop.org" 1803), e P "__firstlineno__" 1816 (.int 1104 1815), e P "__doc__" 1818 (.str (dc (at1 p 42)) 1817), e P "default_value" 1821 (.str "TEXT" 1820), e P "__init__" 1831 (.ref 820), e P "to_ical" 1838 (.ref 825), e P "from_ical" 1859 (.ref 834), e P "__eq__" 1868 (.ref 842), e P "name" 1877 (.ref 850), e P "units" 1886 (.ref 858), e P "ical_value" 1894 (.ref 866), e P "__static_attributes__" 1897 (.ref 867), e P "__dict__" 1899 (.ref 870), e P "__weakref__" 1901 (.ref 871), e P "__hash__" 1902 .none] 4, #[]⟩
noncomputable def o869f (p : Program) (P : Params) : Obj := ⟨.type "type", none, cl "vOrg" [.type "object"] [.ref 869, .type "object"] 868 "vOrg" true [] [] false none false, #[none, none, some (.str "vOrg" 1805), some (.str "vOrg" 1813), some (.builtin "object.__new__"), some (.bool true)]⟩
noncomputable def o874f (p : Program) (P : Params) : Obj := ⟨.type "list", none, .seq #[.str "a" 1907, .str "," 1908, .str ";" 1909, .str "\\" 1910, .str ":" 1911, .str "n" 1912, .str " " 1913, .str "\n" 1914, .str "Z" 1915] 0, #[]⟩
noncomputable def o875f (p : Program) (P : Params) : Obj := ⟨.type "list", none, .seq #[.str "a" 1917, .str "\\," 1918, .str "\\;" 1919, .str "\\\\" 1920, .str ":" 1921, .str "n" 1922, .str " " 1923, .str "\\n" 1924, .str "Z" 1925] 0, #[]⟩
noncomputable def o881f (p : Program) (P : Params) : Obj := ⟨.type "code", none, .fields #[.str "_law_digits" 1927, .str "_law_digits" 1928, .str "/claim/cut.py" 1929, .int 1196 0, .int 1 0, .int 0 0, .int 0 0, .int 3 0, .ref 876, .bool true, .int 276 0, .ref 877, .none, .ref 878, .ref 879, .ref 880, .int 1932 0, .int 1196 0, .str "/claim/cut.py" 1933], #[]⟩
noncomputable def o882f (p : Program) (P : Params) : Obj := ⟨.type "function", none, fn (at1 p 46) "_law_digits" "_law_digits" 3 [] .none .none .none (.str "law_be0023_01" 1905) none (.ref 881) .none 0, #[]⟩
noncomputable def o886f (p : Program) (P : Params) : Obj := ⟨.type "code", none, .fields #[.str "_law_refused" 1935, .str "_law_refused" 1936, .str "/claim/cut.py" 1937, .int 1202 0, .int 2 0, .int 0 0, .int 0 0, .int 3 0, .ref 883, .bool true, .int 276 0, .ref 884, .none, .none, .none, .ref 885, .int 1938 0, .int 1202 0, .str "/claim/cut.py" 1939], #[]⟩
noncomputable def o887f (p : Program) (P : Params) : Obj := ⟨.type "function", none, fn (at1 p 47) "_law_refused" "_law_refused" 3 [] .none .none .none (.str "law_be0023_01" 1905) none (.ref 886) .none 0, #[]⟩
noncomputable def o891f (p : Program) (P : Params) : Obj := ⟨.type "code", none, .fields #[.str "law" 1941, .str "law" 1942, .str "/claim/cut.py" 1943, .int 1212 0, .int 1 0, .int 0 0, .int 0 0, .int 3 0, .ref 888, .bool true, .int 276 0, .ref 889, .none, .none, .none, .ref 890, .int 1944 0, .int 1212 0, .str "/claim/cut.py" 1945], #[]⟩
noncomputable def o892f (p : Program) (P : Params) : Obj := ⟨.type "function", none, fn (at1 p 48) "law" "law" 3 [] .none .none .none (.str "law_be0023_01" 1905) none (.ref 891) .none 0, #[]⟩
noncomputable def o531f (p : Program) (P : Params) : Obj := ⟨.none, none, .fields #[], #[]⟩
noncomputable def o763f (p : Program) (P : Params) : Obj := ⟨.none, none, .fields #[], #[]⟩
noncomputable def o815f (p : Program) (P : Params) : Obj := ⟨.none, none, .fields #[], #[]⟩
noncomputable def Lz1 (p : Program) (P : Params) : List Obj := o20z p P :: o21z p P :: o22z p P :: o23z p P :: o24z p P :: o25z p P :: o26z p P :: o27z p P :: []
noncomputable def Lz (p : Program) (P : Params) : List Obj := o0z p P :: o1z p P :: o2z p P :: o3z p P :: o4z p P :: o5z p P :: o6z p P :: o7z p P :: o8z p P :: o9z p P :: o10z p P :: o11z p P :: o12z p P :: o13z p P :: o14z p P :: o15z p P :: o16z p P :: o17z p P :: o18z p P :: o19z p P :: Lz1 p P
noncomputable def La1 (p : Program) (P : Params) : List Obj := o20z p P :: o21z p P :: o22z p P :: o23z p P :: o24z p P :: o25z p P :: o26z p P :: o27z p P :: o28a p P :: o29a p P :: o30a p P :: o31a p P :: []
noncomputable def La (p : Program) (P : Params) : List Obj := o0z p P :: o1z p P :: o2z p P :: o3z p P :: o4z p P :: o5z p P :: o6z p P :: o7z p P :: o8z p P :: o9z p P :: o10z p P :: o11z p P :: o12z p P :: o13z p P :: o14z p P :: o15z p P :: o16z p P :: o17z p P :: o18z p P :: o19z p P :: La1 p P
noncomputable abbrev n := BT.node
noncomputable abbrev l := BT.nil
noncomputable def Ta (p : Program) (P : Params) : BT := (n (o0z p P) (n (o1z p P) (n (o3z p P) (n (o7z p P) (n (o15z p P) (n (o31a p P) l l) l) (n (o23z p P) l l)) (n (o11z p P) (n (o19z p P) l l) (n (o27z p P) l l))) (n (o5z p P) (n (o9z p P) (n (o17z p P) l l) (n (o25z p P) l l)) (n (o13z p P) (n (o21z p P) l l) (n (o29a p P) l l)))) (n (o2z p P) (n (o4z p P) (n (o8z p P) (n (o16z p P) l l) (n (o24z p P) l l)) (n (o12z p P) (n (o20z p P) l l) (n (o28a p P) l l))) (n (o6z p P) (n (o10z p P) (n (o18z p P) l l) (n (o26z p P) l l)) (n (o14z p P) (n (o22z p P) l l) (n (o30a p P) l l)))))
noncomputable def KS (p : Program) (P : Params) : Frag := (nat_lit 1, o1z p P) :: (nat_lit 2, o2f p P) :: (nat_lit 3, o3f p P) :: (nat_lit 37, o37f p P) :: (nat_lit 38, o38f p P) :: (nat_lit 44, o44f p P) :: (nat_lit 45, o45f p P) :: (nat_lit 51, o51f p P) :: (nat_lit 52, o52f p P) :: (nat_lit 58, o58f p P) :: (nat_lit 59, o59f p P) :: (nat_lit 61, o61f p P) :: (nat_lit 67, o67f p P) :: (nat_lit 68, o68f p P) :: (nat_lit 72, o72f p P) :: (nat_lit 83, o83f p P) :: (nat_lit 84, o84f p P) :: (nat_lit 163, o163f p P) :: (nat_lit 164, o164f p P) :: (nat_lit 194, o194f p P) :: (nat_lit 195, o195f p P) :: (nat_lit 205, o205f p P) :: (nat_lit 206, o206f p P) :: (nat_lit 217, o217f p P) :: (nat_lit 218, o218f p P) :: (nat_lit 275, o275f p P) :: (nat_lit 284, o284f p P) :: (nat_lit 285, o285f p P) :: (nat_lit 312, o312f p P) :: (nat_lit 321, o321f p P) :: (nat_lit 323, o323f p P) :: (nat_lit 324, o324f p P) :: (nat_lit 332, o332f p P) :: (nat_lit 333, o333f p P) :: (nat_lit 339, o339f p P) :: (nat_lit 340, o340f p P) :: (nat_lit 344, o344f p P) :: (nat_lit 350, o350f p P) :: (nat_lit 357, o357f p P) :: (nat_lit 358, o358f p P) :: (nat_lit 364, o364f p P) :: (nat_lit 365, o365f p P) :: (nat_lit 374, o374f p P) :: (nat_lit 383, o383f p P) :: (nat_lit 386, o386f p P) :: (nat_lit 387, o387f p P) :: (nat_lit 388, o388f p P) :: (nat_lit 389, o389f p P) :: (nat_lit 390, o390f p P) :: (nat_lit 452, o452f p P) :: (nat_lit 453, o453f p P) :: (nat_lit 462, o462f p P) :: (nat_lit 517, o517f p P) :: (nat_lit 518, o518f p P) :: (nat_lit 519, o519f p P) :: (nat_lit 529, o529f p P) :: (nat_lit 535, o535f p P) :: (nat_lit 536, o536f p P) :: (nat_lit 540, o540f p P) :: (nat_lit 541, o541f p P) :: (nat_lit 547, o547f p P) :: (nat_lit 548, o548f p P) :: (nat_lit 550, o550f p P) :: (nat_lit 557, o557f p P) :: (nat_lit 558, o558f p P) :: (nat_lit 566, o566f p P) :: (nat_lit 568, o568f p P) :: (nat_lit 569, o569f p P) :: (nat_lit 581, o581f p P) :: (nat_lit 585, o585f p P) :: (nat_lit 586, o586f p P) :: (nat_lit 592, o592f p P) :: (nat_lit 593, o593f p P) :: (nat_lit 597, o597f p P) :: (nat_lit 598, o598f p P) :: (nat_lit 607, o607f p P) :: (nat_lit 614, o614f p P) :: (nat_lit 615, o615f p P) :: (nat_lit 623, o623f p P) :: (nat_lit 625, o625f p P) :: (nat_lit 626, o626f p P) :: (nat_lit 690, o690f p P) :: (nat_lit 691, o691f p P) :: (nat_lit 700, o700f p P) :: (nat_lit 749, o749f p P) :: (nat_lit 750, o750f p P) :: (nat_lit 751, o751f p P) :: (nat_lit 761, o761f p P) :: (nat_lit 767, o767f p P) :: (nat_lit 768, o768f p P) :: (nat_lit 772, o772f p P) :: (nat_lit 773, o773f p P) :: (nat_lit 779, o779f p P) :: (nat_lit 780, o780f p P) :: (nat_lit 782, o782f p P) :: (nat_lit 789, o789f p P) :: (nat_lit 790, o790f p P) :: (nat_lit 798, o798f p P) :: (nat_lit 800, o800f p P) :: (nat_lit 801, o801f p P) :: (nat_lit 813, o813f p P) :: (nat_lit 819, o819f p P) :: (nat_lit 820, o820f p P) :: (nat_lit 824, o824f p P) :: (nat_lit 825, o825f p P) :: (nat_lit 831, o831f p P) :: (nat_lit 832, o832f p P) :: (nat_lit 834, o834f p P) :: (nat_lit 841, o841f p P) :: (nat_lit 842, o842f p P) :: (nat_lit 848, o848f p P) :: (nat_lit 849, o849f p P) :: (nat_lit 850, o850f p P) :: (nat_lit 856, o856f p P) :: (nat_lit 857, o857f p P) :: (nat_lit 858, o858f p P) :: (nat_lit 866, o866f p P) :: (nat_lit 868, o868f p P) :: (nat_lit 869, o869f p P) :: (nat_lit 874, o874f p P) :: (nat_lit 875, o875f p P) :: (nat_lit 881, o881f p P) :: (nat_lit 882, o882f p P) :: (nat_lit 886, o886f p P) :: (nat_lit 887, o887f p P) :: (nat_lit 891, o891f p P) :: (nat_lit 892, o892f p P) :: []
noncomputable def K (P : Params) : Frag := (nat_lit 1, o1z pw P) :: (nat_lit 2, o2f pw P) :: (nat_lit 3, o3f pw P) :: (nat_lit 37, o37f pw P) :: (nat_lit 38, o38f pw P) :: (nat_lit 44, o44f pw P) :: (nat_lit 45, o45f pw P) :: (nat_lit 51, o51f pw P) :: (nat_lit 52, o52f pw P) :: (nat_lit 58, o58f pw P) :: (nat_lit 59, o59f pw P) :: (nat_lit 61, o61f pw P) :: (nat_lit 67, o67f pw P) :: (nat_lit 68, o68f pw P) :: (nat_lit 72, o72f pw P) :: (nat_lit 83, o83f pw P) :: (nat_lit 84, o84f pw P) :: (nat_lit 163, o163f pw P) :: (nat_lit 164, o164f pw P) :: (nat_lit 194, o194f pw P) :: (nat_lit 195, o195f pw P) :: (nat_lit 205, o205f pw P) :: (nat_lit 206, o206f pw P) :: (nat_lit 217, o217f pw P) :: (nat_lit 218, o218f pw P) :: (nat_lit 275, o275f pw P) :: (nat_lit 284, o284f pw P) :: (nat_lit 285, o285f pw P) :: (nat_lit 312, o312f pw P) :: (nat_lit 321, o321f pw P) :: (nat_lit 323, o323f pw P) :: (nat_lit 324, o324f pw P) :: (nat_lit 332, o332f pw P) :: (nat_lit 333, o333f pw P) :: (nat_lit 339, o339f pw P) :: (nat_lit 340, o340f pw P) :: (nat_lit 344, o344f pw P) :: (nat_lit 350, o350f pw P) :: (nat_lit 357, o357f pw P) :: (nat_lit 358, o358f pw P) :: (nat_lit 364, o364f pw P) :: (nat_lit 365, o365f pw P) :: (nat_lit 374, o374f pw P) :: (nat_lit 383, o383f pw P) :: (nat_lit 386, o386f pw P) :: (nat_lit 387, o387f pw P) :: (nat_lit 388, o388f pw P) :: (nat_lit 389, o389f pw P) :: (nat_lit 390, o390f pw P) :: (nat_lit 452, o452f pw P) :: (nat_lit 453, o453f pw P) :: (nat_lit 462, o462f pw P) :: (nat_lit 517, o517f pw P) :: (nat_lit 518, o518f pw P) :: (nat_lit 519, o519f pw P) :: (nat_lit 529, o529f pw P) :: (nat_lit 535, o535f pw P) :: (nat_lit 536, o536f pw P) :: (nat_lit 540, o540f pw P) :: (nat_lit 541, o541f pw P) :: (nat_lit 547, o547f pw P) :: (nat_lit 548, o548f pw P) :: (nat_lit 550, o550f pw P) :: (nat_lit 557, o557f pw P) :: (nat_lit 558, o558f pw P) :: (nat_lit 566, o566f pw P) :: (nat_lit 568, o568f pw P) :: (nat_lit 569, o569f pw P) :: (nat_lit 581, o581f pw P) :: (nat_lit 585, o585f pw P) :: (nat_lit 586, o586f pw P) :: (nat_lit 592, o592f pw P) :: (nat_lit 593, o593f pw P) :: (nat_lit 597, o597f pw P) :: (nat_lit 598, o598f pw P) :: (nat_lit 607, o607f pw P) :: (nat_lit 614, o614f pw P) :: (nat_lit 615, o615f pw P) :: (nat_lit 623, o623f pw P) :: (nat_lit 625, o625f pw P) :: (nat_lit 626, o626f pw P) :: (nat_lit 690, o690f pw P) :: (nat_lit 691, o691f pw P) :: (nat_lit 700, o700f pw P) :: (nat_lit 749, o749f pw P) :: (nat_lit 750, o750f pw P) :: (nat_lit 751, o751f pw P) :: (nat_lit 761, o761f pw P) :: (nat_lit 767, o767f pw P) :: (nat_lit 768, o768f pw P) :: (nat_lit 772, o772f pw P) :: (nat_lit 773, o773f pw P) :: (nat_lit 779, o779f pw P) :: (nat_lit 780, o780f pw P) :: (nat_lit 782, o782f pw P) :: (nat_lit 789, o789f pw P) :: (nat_lit 790, o790f pw P) :: (nat_lit 798, o798f pw P) :: (nat_lit 800, o800f pw P) :: (nat_lit 801, o801f pw P) :: (nat_lit 813, o813f pw P) :: (nat_lit 819, o819f pw P) :: (nat_lit 820, o820f pw P) :: (nat_lit 824, o824f pw P) :: (nat_lit 825, o825f pw P) :: (nat_lit 831, o831f pw P) :: (nat_lit 832, o832f pw P) :: (nat_lit 834, o834f pw P) :: (nat_lit 841, o841f pw P) :: (nat_lit 842, o842f pw P) :: (nat_lit 848, o848f pw P) :: (nat_lit 849, o849f pw P) :: (nat_lit 850, o850f pw P) :: (nat_lit 856, o856f pw P) :: (nat_lit 857, o857f pw P) :: (nat_lit 858, o858f pw P) :: (nat_lit 866, o866f pw P) :: (nat_lit 868, o868f pw P) :: (nat_lit 869, o869f pw P) :: (nat_lit 874, o874f pw P) :: (nat_lit 875, o875f pw P) :: (nat_lit 881, o881f pw P) :: (nat_lit 882, o882f pw P) :: (nat_lit 886, o886f pw P) :: (nat_lit 887, o887f pw P) :: (nat_lit 891, o891f pw P) :: (nat_lit 892, o892f pw P) :: []
noncomputable def KTS (p : Program) (P : Params) : Frag := [(nat_lit 531, o531f p P), (nat_lit 763, o763f p P), (nat_lit 815, o815f p P)]
noncomputable def KT (P : Params) : Frag := KTS pw P
noncomputable def KAS (p : Program) (P : Params) : Frag := KS p P ++ KTS p P
noncomputable def KA (P : Params) : Frag := K P ++ KT P
noncomputable def envP (p : Program) : Env := { scope := p.main.scope, locals := mainNs, globals := mainNs, cells := [], code := .ref 30, frame := some 31 }
noncomputable def cP (p : Program) : Code := .body (behindTheImports p) (envP p)
noncomputable def p0 : Pos := ⟨0, 0, 0, 0⟩
noncomputable def pZ : Pos := ⟨1212, 0, 1241, 46⟩
noncomputable def ann0 : Option Value := some (.ref 6)
noncomputable def LopenA (tb : String → Option Builtin) (p : Program) (w : World) := (fencedOpening tb p w 21000).map fun s => (s.heap, s.gens, s.drawn, s.toks)
noncomputable def LpreA (tb : String → Option Builtin) (p : Program) (w : World) (H : Heap) (os : OsState) := topGo tb p w 28 ann0 12 ⟨H, #[], {}, 276, os⟩ (topStub p)
noncomputable def RpreA (tb : String → Option Builtin) (p : Program) (H : Heap) (os : OsState) : Option (Shared × Thread) := some (⟨H, #[], {}, 282, os⟩, ⟨denote tb (cP p), cP p, p0, [topFrame p0]⟩)
noncomputable def stA (T : BT) (os : OsState) : SharedT := ⟨T, 32, {}, #[], {}, 282, os⟩
noncomputable def LblkA (tb : String → Option Builtin) (p : Program) (w : World) (H : Heap) (os : OsState) := segRun tb p w 28 ann0 1 1 ⟨H, #[], {}, 282, os⟩ (blockOf (behindTheImports p) (envP p) (cP p) p0 [topFrame p0])
noncomputable def RblkA (p : Program) (T : BT) (os : OsState) : Option (Flow × Shared × Code × Pos) := some (.next, (stA T os).abs, cP p, p0)
noncomputable def XtP (q : Program) (recs : WRecords) (s : Shared) : Bool := xlAt q [] s && recOk recs s
noncomputable def endS (T : BT) (os : OsState) : Shared := ⟨absHeap T 893 {}, #[], {}, 1947, os⟩
noncomputable def lookF (p q : Program) (loose mods : List Str) (recs : WRecords) (H : Heap) (as : List Addr) (T : BT) (os : OsState) :=
 ((staticsOk mods H (absHeap T 893 {}) && namesBound p (absHeap T 893 {}) && gensDone (endS T os) && laidKept H (absHeap T 893 {})), openSeen q loose mods (XtP q recs) true (endS T os), as.map fun a => T.get a)
noncomputable def runF (tb : String → Option Builtin) (p : Program) (w : World) (T : BT) (os : OsState) := segRunT tb p w 28 ann0 1 9276 (stA T os) (piecesOf (behindTheImports p) (envP p) (cP p) p0 [topFrame p0])
noncomputable def LrunA (tb : String → Option Builtin) (p q : Program) (loose mods : List Str) (recs : WRecords) (w : World) (H : Heap) (as : List Addr) (T : BT) (os : OsState) :=
 (runF tb p w T os).map fun r => ((r.1, r.2.1.n, r.2.1.life, r.2.1.gens, r.2.1.drawn, r.2.1.toks, r.2.1.os, r.2.2), lookF p q loose mods recs H as r.2.1.tree os)
noncomputable def RrunA (p q : Program) (loose : List Str) (os : OsState) (l : List (Option Obj)) := some (((.next : Flow), 893, ({} : Life), (#[] : Array GenState), ({} : Drawn), 1947, os, cP p, pZ), true, openGood q loose, l)
noncomputable def Lsize (H : Heap) := (H.isNs mainGlobals && (#[] : Array GenState).size == 0, H.objs.size, H.nsMap mainGlobals "__annotations__")
noncomputable def LwsA (l : OpenLaw) : Bool := l.wellSaid
noncomputable def LokA (q : Program) (r : RowW) : Bool := chainsOk q && opensWell r.prog && (frees r && r.within.isEmpty)
lay_quick Mine.LwsA Mine.LopenA Mine.LpreA Mine.RpreA Mine.LblkA Mine.RblkA Mine.LrunA Mine.RrunA Mine.Lsize
noncomputable def Hz (P : Params) : Heap := ⟨⟨Lz pwT P⟩, {}⟩
noncomputable def Ha (P : Params) : Heap := ⟨⟨La pwT P⟩, {}⟩
theorem openA (w : World) : LopenA treeTable pwT w = some (Hz w.params, #[], {}, 276) := by
 rw [tb_eq, PySem.W.Fast.te5299634927204783478]
 kernel_rfl
theorem preA (w : World) (os : OsState) : LpreA treeTable pwT w (Hz w.params) os = RpreA treeTable pwT (Ha w.params) os := by
 rw [tb_eq, PySem.W.Fast.te3721401362061949101, PySem.W.Fast.te12035501255036386742]
 kernel_rfl
theorem blkA (w : World) (os : OsState) : LblkA treeTable pwT w (Ha w.params) os = RblkA pwT (Ta pwT w.params) os := by
 rw [tb_eq, PySem.W.Fast.te6772445882884409681, PySem.W.Fast.te4378326022373389775]
 kernel_rfl
noncomputable def vw (p : Program) : Program := view p [0, 1, 3, 4, 5, 7, 8, 11, 13, 25, 29, 31, 32, 33, 34, 36, 38, 39, 40, 41, 43, 45, 46, 47, 48, 49]
noncomputable def loose0 : List Str := ["SEQUENCE_TYPES", "to_unicode", "CaselessDict", "NAME", "param_value", "UNSAFE_CHAR", "QUNSAFE_CHAR", "validate_param_value", "QUOTABLE", "dquote", "q_split", "q_join", "Parameters", "vText", "_tuplegetter", "tuplegetter_adr", "AdrFields", "vAdr", "vCategory", "tuplegetter_n", "NFields", "vN", "vOrg", "_law_signs", "_law_escaped", "validate_token", "rfc_6868_unescape", "rfc_6868_escape"]
noncomputable abbrev rw0 : RowW := (OpenLaw.row PySem.Challenge.rw_be0023_01).toRowW
noncomputable def modsT : List Str := importedModules pwT.main.body
noncomputable def asK : List Addr := [nat_lit 1, nat_lit 2, nat_lit 3, nat_lit 37, nat_lit 38, nat_lit 44, nat_lit 45, nat_lit 51, nat_lit 52, nat_lit 58, nat_lit 59, nat_lit 61, nat_lit 67, nat_lit 68, nat_lit 72, nat_lit 83, nat_lit 84, nat_lit 163, nat_lit 164, nat_lit 194, nat_lit 195, nat_lit 205, nat_lit 206, nat_lit 217, nat_lit 218, nat_lit 275, nat_lit 284, nat_lit 285, nat_lit 312, nat_lit 321, nat_lit 323, nat_lit 324, nat_lit 332, nat_lit 333, nat_lit 339, nat_lit 340, nat_lit 344, nat_lit 350, nat_lit 357, nat_lit 358, nat_lit 364, nat_lit 365, nat_lit 374, nat_lit 383, nat_lit 386, nat_lit 387, nat_lit 388, nat_lit 389, nat_lit 390, nat_lit 452, nat_lit 453, nat_lit 462, nat_lit 517, nat_lit 518, nat_lit 519, nat_lit 529, nat_lit 535, nat_lit 536, nat_lit 540, nat_lit 541, nat_lit 547, nat_lit 548, nat_lit 550, nat_lit 557, nat_lit 558, nat_lit 566, nat_lit 568, nat_lit 569, nat_lit 581, nat_lit 585, nat_lit 586, nat_lit 592, nat_lit 593, nat_lit 597, nat_lit 598, nat_lit 607, nat_lit 614, nat_lit 615, nat_lit 623, nat_lit 625, nat_lit 626, nat_lit 690, nat_lit 691, nat_lit 700, nat_lit 749, nat_lit 750, nat_lit 751, nat_lit 761, nat_lit 767, nat_lit 768, nat_lit 772, nat_lit 773, nat_lit 779, nat_lit 780, nat_lit 782, nat_lit 789, nat_lit 790, nat_lit 798, nat_lit 800, nat_lit 801, nat_lit 813, nat_lit 819, nat_lit 820, nat_lit 824, nat_lit 825, nat_lit 831, nat_lit 832, nat_lit 834, nat_lit 841, nat_lit 842, nat_lit 848, nat_lit 849, nat_lit 850, nat_lit 856, nat_lit 857, nat_lit 858, nat_lit 866, nat_lit 868, nat_lit 869, nat_lit 874, nat_lit 875, nat_lit 881, nat_lit 882, nat_lit 886, nat_lit 887, nat_lit 891, nat_lit 892, nat_lit 531, nat_lit 763, nat_lit 815]
theorem asK_is (P : Params) : asK = (KA P).map (·.1) := by kernel_rfl
noncomputable def wb (w : World) (b : Bool) : World := w.withFollow "special-get-raises" b
theorem runA0 (w : World) (os : OsState) : LrunA treeTable pwT (vw pwT) loose0 modsT (RowW.records rw0) (wb w false) (Hz (wb w false).params) asK (Ta pwT (wb w false).params) os =
  RrunA pwT (vw pwT) loose0 os ((KAS pwT (wb w false).params).map fun p => some p.2) := by
 rw [tb_eq, PySem.W.Fast.te11467108920042169198, PySem.W.Fast.te7708661708662212372]
 kernel_rfl
theorem runA1 (w : World) (os : OsState) : LrunA treeTable pwT (vw pwT) loose0 modsT (RowW.records rw0) (wb w true) (Hz (wb w true).params) asK (Ta pwT (wb w true).params) os =
  RrunA pwT (vw pwT) loose0 os ((KAS pwT (wb w true).params).map fun p => some p.2) := by
 rw [tb_eq, PySem.W.Fast.te11467108920042169198, PySem.W.Fast.te7708661708662212372]
 kernel_rfl
theorem runW (w : World) : ∀ os : OsState, LrunA treeTable pwT (vw pwT) loose0 modsT (RowW.records rw0) w (Hz w.params) asK (Ta pwT w.params) os = RrunA pwT (vw pwT) loose0 os ((KAS pwT w.params).map fun p => some p.2) :=
 byRow2 "special-get-raises" (P := fun w => ∀ os : OsState, LrunA treeTable pwT (vw pwT) loose0 modsT (RowW.records rw0) w (Hz w.params) asK (Ta pwT w.params) os = RrunA pwT (vw pwT) loose0 os ((KAS pwT w.params).map fun p => some p.2))
  runA0 runA1 w
theorem sizeA (w : World) : Lsize (Hz w.params) = (true, 28, some (.ref 6)) := by
 rw [PySem.W.Fast.te10886829362691104638]
 kernel_rfl
theorem tup8 {α₁ α₂ α₃ α₄ α₅ α₆ α₇ α₈ β : Type} {a1 b1 : α₁} {a2 b2 : α₂} {a3 b3 : α₃} {a4 b4 : α₄} {a5 b5 : α₅} {a6 b6 : α₆} {a7 b7 : α₇} {a8 b8 : α₈} {c d : β}
  (h : ((a1, a2, a3, a4, a5, a6, a7, a8), c) = ((b1, b2, b3, b4, b5, b6, b7, b8), d)) : a1 = b1 ∧ a2 = b2 ∧ a3 = b3 ∧ a4 = b4 ∧ a5 = b5 ∧ a6 = b6 ∧ a7 = b7 ∧ a8 = b8 ∧ c = d :=
 ⟨congrArg (fun x => x.1.1) h, congrArg (fun x => x.1.2.1) h, congrArg (fun x => x.1.2.2.1) h, congrArg (fun x => x.1.2.2.2.1) h, congrArg (fun x => x.1.2.2.2.2.1) h, congrArg (fun x => x.1.2.2.2.2.2.1) h, congrArg (fun x => x.1.2.2.2.2.2.2.1) h, congrArg (fun x => x.1.2.2.2.2.2.2.2) h, congrArg (fun x => x.2) h⟩
theorem shT {t : Flow × SharedT × Code × Pos} {f : Flow} {n : Nat} {life : Life} {gens : Array GenState} {dr : Drawn} {tk : Nat} {os : OsState} {c : Code} {ps : Pos} (h1 : t.1 = f) (h2 : t.2.1.n = n) (h3 : t.2.1.life = life)
  (h4 : t.2.1.gens = gens) (h5 : t.2.1.drawn = dr) (h6 : t.2.1.toks = tk) (h7 : t.2.1.os = os) (h8 : t.2.2 = (c, ps)) : t = (f, ⟨t.2.1.tree, n, life, gens, dr, tk, os⟩, c, ps) := by
 subst h1 h2 h3 h4 h5 h6 h7
 rw [← h8]
theorem topG {tb : String → Option Builtin} {p q : Program} {loose mods : List Str} {recs : WRecords} {w : World} {H H1 : Heap} {as : List Addr} {T0 : BT} {os : OsState} {l : List (Option Obj)}
  (pre : LpreA tb p w H os = RpreA tb p H1 os) (blk : LblkA tb p w H1 os = RblkA p T0 os) (run : LrunA tb p q loose mods recs w H as T0 os = RrunA p q loose os l) :
  ∃ T, topRun tb p w 28 ann0 (12 + (1 + (9276 + 2))) ⟨H, #[], {}, 276, os⟩ (topStub p) = some (endS T os) ∧ lookF p q loose mods recs H as T os = (true, openGood q loose, l) := by
 obtain ⟨t, r, v⟩ := Option.map_eq_some_iff.mp run
 have u := tup8 v
 have e := shT u.1 u.2.1 u.2.2.1 u.2.2.2.1 u.2.2.2.2.1 u.2.2.2.2.2.1 u.2.2.2.2.2.2.1 u.2.2.2.2.2.2.2.1
 have v2 := u.2.2.2.2.2.2.2.2
 generalize t.2.1.tree = T at e v2
 rw [e] at r
 refine ⟨T, go_top pre (piece_block blk ?_), v2⟩
 have h := piece_app (q := p0) (rest := []) (N := 2) (segRun_of r) (show topRun tb p w 28 ann0 2 ⟨_, _, _, _, os⟩ ⟨doneF .next, cP p, pZ, [topFrame p0]⟩ = some (endS T os) from rfl)
 rw [List.append_nil] at h
 exact h
theorem map_get (T : BT) : ∀ l : List (Addr × Obj), (l.map (·.1)).map (fun a => T.get a) = l.map (fun p => some p.2) → l.map (fun p => (Nat.blt p.1 893, alive p.2)) = l.map (fun p => (true, some p.2)) →
  (l.map (·.1)).map (absHeap T 893 {}).get? = l.map fun p => some p.2
 | [], _, _ => rfl
 | p :: l, h, g => by
  obtain ⟨h1, h2⟩ := List.cons.inj h
  obtain ⟨g1, g2⟩ := List.cons.inj g
  obtain ⟨g3, g4⟩ := Prod.mk.inj g1
  show (absHeap T 893 {}).get? p.1 :: _ = some p.2 :: _
  rw [abs_get (Nat.le_of_ble_eq_true g3) h1, g4]
  exact congrArg _ (map_get T l h2 g2)
theorem leftG {p q : Program} {loose : List Str} {recs : WRecords} {w : World} {H : Heap} {as : List Addr} {k : Frag} (op : LopenA treeTable p w = some (H, #[], {}, 276)) (sz : Lsize H = (true, 28, some (.ref 6)))
  (top : ∀ os, ∃ T, topRun treeTable p w 28 ann0 (12 + (1 + (9276 + 2))) ⟨H, #[], {}, 276, os⟩ (topStub p) = some (endS T os) ∧ lookF p q loose (importedModules p.main.body) recs H as T os = (true, openGood q loose, k.map fun x => some x.2))
  (ha : as = k.map (·.1)) (hk : k.map (fun x => (Nat.blt x.1 893, alive x.2)) = k.map (fun x => (true, some x.2))) :
  (openEnds treeTable p w 21000).map (fun s => (openSeen q loose (importedModules p.main.body) (XtP q recs) true s, as.map s.heap.get?)) = some (openGood q loose, k.map fun x => some x.2) := by
 obtain ⟨⟨h, gs, d, tk, os⟩, e, e'⟩ := Option.map_eq_some_iff.mp op
 obtain ⟨x1, e'⟩ := Prod.mk.inj e'
 obtain ⟨x2, e'⟩ := Prod.mk.inj e'
 obtain ⟨x3, x4⟩ := Prod.mk.inj e'
 dsimp only at x1 x2 x3 x4
 subst x1 x2 x3 x4
 obtain ⟨T, r, v⟩ := top os
 obtain ⟨l1, v⟩ := Prod.mk.inj v
 obtain ⟨l2, l3⟩ := Prod.mk.inj v
 obtain ⟨z1, z⟩ := Prod.mk.inj sz
 obtain ⟨z2, z3⟩ := Prod.mk.inj z
 have r' := topRun_mono (21000 - 9291) _ _ _ _ r
 have t : topFrom treeTable p w 21000 ⟨h, #[], {}, 276, os⟩ = some (endS T os) := by
  unfold topFrom
  dsimp only
  rw [z1, z2, z3, show topRun treeTable p w 28 (some (.ref 6)) 21000 ⟨h, #[], {}, 276, os⟩ (topStub p) = some (endS T os) from r']
  show (match staticsOk (importedModules p.main.body) h (absHeap T 893 {}) && namesBound p (absHeap T 893 {}) && gensDone (endS T os) && laidKept h (absHeap T 893 {}) with | true => _ | false => _) = _
  rw [l1]
 have o : as.map (endS T os).heap.get? = k.map fun x => some x.2 := by
  subst ha
  exact map_get T _ l3 hk
 unfold openEnds
 rw [e]
 show (topFrom treeTable p w 21000 _).map _ = _
 rw [t]
 exact congrArg some (Prod.ext l2 o)
theorem asK_S (p : Program) (P : Params) : asK = (KAS p P).map (·.1) := by kernel_rfl
theorem getK (P : Params) : (KAS pwT P).map (fun p => (Nat.blt p.1 893, alive p.2)) = (KAS pwT P).map (fun p => (true, some p.2)) := by kernel_rfl
noncomputable def obs0 (s : Shared) : List (Option Obj) := asK.map s.heap.get?
noncomputable def valS (p : Program) (w : World) : List (Option Obj) := (KAS p w.params).map fun p => some p.2
theorem leftT : LeftO pwT (vw pwT) loose0 (XtP (vw pwT) (RowW.records rw0)) obs0 (valS pwT) 21000 := fun w => leftG (openA w) (sizeA w) (fun os => topG (preA w os) (blkA w os) (runW w os)) (asK_S _ _) (getK _)
theorem leftP {p : Program} (h : p = pwT) : LeftO p (vw p) loose0 (XtP (vw p) (RowW.records rw0)) obs0 (valS p) 21000 := by
 subst h
 exact leftT
noncomputable def q0 : Program := vw pw
noncomputable def Xt0 (s : Shared) : Bool := XtP q0 (RowW.records rw0) s
noncomputable def val0 (w : World) : List (Option Obj) := (KA w.params).map fun p => some p.2
noncomputable def lP (p : Program) : OpenLaw := { PySem.Challenge.rw_be0023_01 with prog := p }
theorem wsT : LwsA (lP pwT) = true := by
 rw [PySem.W.Fast.te11801385022575205891]
 kernel_rfl
theorem wsP {p : Program} (h : p = pwT) : LwsA (lP p) = true := by
 subst h
 exact wsT
theorem okT : LokA (vw pwT) (OpenLaw.row (lP pwT)).toRowW = true := by kernel_rfl
theorem okP {p : Program} (h : p = pwT) : LokA (vw p) (OpenLaw.row (lP p)).toRowW = true := by
 subst h
 exact okT
theorem left0 : LeftO rw0.prog q0 loose0 Xt0 obs0 val0 21000 := leftP pwT_eq
set_option maxHeartbeats 0 in
theorem head {d : DefRec} {kwd : List (Str × PySem.Expr)} (hdef : defOf q0 "law" = some (d, kwd)) (hp : pw.theDef "law" = some (d.params, d.body, d.scope)) (hk : kwWritten? d.params.kwonlyargs d.params.kw_defaults = some kwd)
  (hc : WalkO q0 loose0 (XL q0 []) (InK KA) rw0 d kwd fun f vs => PySem.call f vs) : PySem.Challenge.rw_be0023_01.Holds := by
 refine holds_law (wsP pwT_eq) fun _ => ?_
 refine holds_open (q := q0) (loose := loose0) (Xt := Xt0) (XP := XL q0 []) (Yf := obs0) (Ya := val0) (YP := InK KA) (N := 21000) left0 (fun w s x => InK.of asK_is w s x) (fun w h h' => InK.keeps w h h') (fun s e => xl_of s ((@Bool.and_eq_true_iff (xlAt q0 [] s) (recOk (RowW.records rw0) s)).mp e).1) XL.keeps hdef hp hk
  (fun s e => recFacts_of ((@Bool.and_eq_true_iff (xlAt q0 [] s) (recOk (RowW.records rw0) s)).mp e).2) (by rfl) (by assumption) (okP pwT_eq) ⟨rfl, rfl, rfl, rfl, rfl, by decide +kernel⟩ ?hw hc
 w_witness2
set_option genInjectivity false
set_option genSizeOf false
set_option tactic.hygienic false
section
set_option maxHeartbeats 200000
theorem fill : (PySem.Challenge.rw_be0023_01.name = PySem.Challenge.rw_be0023_01.name) ∧ K = K := by
 k_fill
 exact ⟨rfl, rfl⟩
noncomputable def Hold (P : Prop) : Prop := P
theorem hold {P : Prop} (h : Hold P) : P := h
theorem unhold {P : Prop} (h : P) : Hold P := h
noncomputable def iteC : List (Str × Value) → Str → Option Value
 | [], _ => none
 | (k, v) :: r, y => if y = k then some v else iteC r y
theorem lookup_iteC : ∀ (b : List (Str × Value)) (y : Str), b.lookup y = iteC b y
 | [], _ => rfl
 | (k, v) :: r, y => by
  rw [List.lookup_cons, iteC, lookup_iteC r y]
  by_cases h : y = k
  ·simp [h]
  ·have : (y == k) = false := by simpa using h
   rw [this, if_neg h]
theorem frBinds {h₀ h : Heap} {L : Addr} {b : List (Str × Value)} (F : Fr h₀ L h (fun y => b.reverse.lookup y)) (m : Str → Option Value) (e : iteC b.reverse = m) : Fr h₀ L h m := by
 rw [show (fun y => b.reverse.lookup y) = m from e ▸ funext (lookup_iteC _)] at F
 exact F
theorem While_l {prog : Program} {w : World} {A : Around} {E : Value → Shared → Prop} {Q : Flow → Shared → Prop} {s : Shared} {env : Env} {h₀ : Heap} {L l : Addr} {o : Obj} {news : List (Addr × Obj)}
  {test : PySem.Expr} {body : List Stmt} {pos : Pos} {m : Str → Option Value} (J : Addr → Nat → (Str → Option Value) → List (Addr × Obj) → Prop) {n₀ : Nat}
  (F : Fr h₀ L s.heap m) (N : News h₀ L s.heap ((l, o) :: news)) (hJ : J l n₀ m ((l, o) :: news))
  (turn : ∀ n m₁ news₁ h₁ tx₁, Fr h₀ L h₁ m₁ → News h₀ L h₁ news₁ → J l n m₁ news₁ →
   wpAny (model prog w) A (isTrue test env (eval test env)) (fun b s₂ =>
    if b = true then wpAny (model prog w) A (execs body env) (WhileStep h₀ L s (J l) n) E s₂ else Q .next s₂) E { s with heap := h₁, toks := tx₁ })
  (hE : PassesOwn (model prog w) A env E) :
  wpAny (model prog w) A (exec (.While test body [] pos) env) Q E s := While_inv (J l) F N hJ turn hE
theorem join_K {prog : Program} {w : World} {A : Around} {E : Value → Shared → Prop} {Q : Value → Shared → Prop} {s : Shared} {h₀ : Heap} {L D : Addr} {news : List (Addr × Obj)} {cl : List (Str × Tok)} {k : Nat} {t : Tok}
  (N : News h₀ L s.heap news) (hm : (D, W.listOf (strValues cl).toArray k) ∈ news) (hlen : (cat cl).length ≤ 65536) (h : ∀ t' k', Q (.str (strOf (cat cl)) t') { s with toks := k' }) :
  wpAny (model prog w) A (call (.builtin "str.join") [.str (Str.ofString "") t, .ref D]) Q E s :=
 have hl : s.heap.IsList D (strValues cl).toArray := News.isList N hm
 have hq : ∀ t' k', Q (.str (Txt.join (Str.ofString "") (cl.map (·.1))) t') { s with toks := k' } := fun t' k' => (join_cat cl).symm ▸ h t' k'
 have hok : JoinOk (Str.ofString "") (cl.map (·.1)) = true := joinOk_cat cl hlen
 by
  refine SC.join (l := cl) (texts := cl.map (·.1)) ?a ?b ?c ?d
  case b => rfl
  case c => exact hok
  case a => exact hl
  case d => exact hq
theorem While_l2 {prog : Program} {w : World} {A : Around} {E : Value → Shared → Prop} {Q : Flow → Shared → Prop} {s : Shared} {env : Env} {h₀ : Heap} {L l l2 : Addr} {o o2 : Obj} {news : List (Addr × Obj)}
  {test : PySem.Expr} {body : List Stmt} {pos : Pos} {m : Str → Option Value} (J : Addr → Nat → (Str → Option Value) → List (Addr × Obj) → Prop) {n₀ : Nat}
  (F : Fr h₀ L s.heap m) (N : News h₀ L s.heap ((l2, o2) :: (l, o) :: news)) (hJ : J l n₀ m ((l2, o2) :: (l, o) :: news))
  (turn : ∀ n m₁ news₁ h₁ tk₁, Fr h₀ L h₁ m₁ → News h₀ L h₁ news₁ → J l n m₁ news₁ →
   wpAny (model prog w) A (isTrue test env (eval test env)) (fun b s₂ =>
    if b = true then wpAny (model prog w) A (execs body env) (WhileStep h₀ L s (J l) n) E s₂ else Q .next s₂) E { s with heap := h₁, toks := tk₁ })
  (hE : PassesOwn (model prog w) A env E) :
  wpAny (model prog w) A (exec (.While test body [] pos) env) Q E s := While_inv (J l) F N hJ turn hE
theorem drop2 {h₀ h : Heap} {L : Addr} {a b : Addr × Obj} {news : List (Addr × Obj)} (N : News h₀ L h (a :: b :: news)) : News h₀ L h (a :: news) := fun p hp => N p (by
 rcases List.mem_cons.mp hp with rfl | hp
 ·exact .head _
 ·exact .tail _ (.tail _ hp))
theorem drop1 {h₀ h : Heap} {L : Addr} {a : Addr × Obj} {news : List (Addr × Obj)} (N : News h₀ L h (a :: news)) : News h₀ L h news := fun p hp => N p (.tail _ hp)
end
section
set_option tactic.hygienic true
noncomputable abbrev ktrH (hv : Option Value) (dp un : Nat) (gd : Option (List Code)) (cn : Str) (cs : Scope) (L a : Addr) (ccd : Value) (cl : List (Str × Addr)) (outer : List Env) : Around := { handled := hv, depth := dp, frames := some (envX cn cs L a ccd cl :: outer), guards := gd, units := un }
end
section
open PySem.W.X
section
set_option maxHeartbeats 40000000
theorem fillD : (PySem.Challenge.rw_be0023_01.name = PySem.Challenge.rw_be0023_01.name) ∧ K = K := by
 k_fill
 exact ⟨rfl, rfl⟩
inductive IsPw : Program → Prop
 | mk : IsPw PySem.Challenge.pw_be0023_01
theorem isPw {p : Program} (h : IsPw p) : p = pw := by cases h; rfl
theorem pw_ex : ∃ p, IsPw p := ⟨_, .mk⟩
noncomputable def pwC : Program := Classical.choose pw_ex
theorem pwC_eq : pwC = pw := isPw (Classical.choose_spec pw_ex)
noncomputable def K2 (P : Params) : Frag := KS pwC P
theorem k2 {P : Params} {h : Heap} (X : (K P).In h) : (K2 P).In h := by
 have e : K2 P = K P := by
  unfold K2
  rw [pwC_eq]
  rfl
 rw [e]
 exact X
theorem fillPC : (PySem.Challenge.rw_be0023_01.name = PySem.Challenge.rw_be0023_01.name) ∧ K2 = K2 := by
 k_fill
 exact ⟨rfl, rfl⟩
theorem up {α : Type} {M : Model} {t : Sem α} {Q : α → Shared → Prop} {E : Value → Shared → Prop} {s : Shared} {cn : Str} {cs : Scope} {L a : Addr} {ccd : Value} {cl : List (Str × Addr)} {outer : List Env} {dp un : Nat} {gd : Option (List Code)}
  (h : wpAny M (ktrTop 500 200 none cn cs L a ccd cl outer) t Q E s) (hd : dp ≤ 500) (hu : un ≤ 200) : wpAny M (ktrTop dp un gd cn cs L a ccd cl outer) t Q E s :=
 fun Γ p hΓ => h Γ p ⟨hΓ.1, Nat.le_trans hΓ.2.1 hd, hΓ.2.2.1, (fun u' hg => (nomatch hg)), Nat.le_trans hΓ.2.2.2.2 hu⟩
section
variable {h₀ h h' : Heap} {L : Addr} {m : Str → Option Value} {news nw : List (Addr × Obj)}
theorem memKeep (D : Mem h h' [] nw) (b : Addr) (o : Obj) (e : h.get? b = some o) : h'.get? b = some o := D.keep b o e (by rw [show away [] b = true from rfl, Bool.or_true])
theorem memFr (F : Fr h₀ L h m) (D : Mem h h' [] nw) : Fr h₀ L h' m := ⟨F.ns.keeps (memKeep D), fun b o e => memKeep D b o (F.keep b o e), F.above⟩
theorem memNews (F : Fr h₀ L h m) (N : News h₀ L h news) (D : Mem h h' [] nw) : News h₀ L h' (nw ++ news) := fun p hp => by
 rcases List.mem_append.mp hp with hp | hp
 ·obtain ⟨h1, h2⟩ := D.nw p hp
  refine ⟨h1, fun q => ?_, ?_⟩
  ·obtain ⟨oL, es, ep, hL, r⟩ := F.ns
   rw [q, hL] at h2; cases h2
  ·cases z : h₀.get? p.1 with
   | none => rfl
   | some o => rw [F.keep _ _ z] at h2; cases h2
 ·exact ⟨memKeep D _ _ (N p hp).1, (N p hp).2⟩
theorem memNe (N : News h₀ L h news) (D : Mem h h' [] nw) {p q : Addr × Obj} (hp : p ∈ nw) (hq : q ∈ news) : q.1 ≠ p.1 := fun e => by
 have := (D.nw p hp).2; rw [← e, (N q hq).1] at this; cases this
end
theorem dga_args (a b : Value) : argsOk "dict.__getattribute__" ⟨[a, b], []⟩ := by unfold argsOk; kernel_rfl
theorem dga_entry : entryFor table "dict.__getattribute__" = some Builtin.«object.__getattribute__» := entryFor_alias (id' := "object.__getattribute__") (by kernel_rfl) (by first | rfl | decide +kernel) (by decide +kernel) (by kernel_rfl)
theorem dga_plain : plainId "dict.__getattribute__" = true := by decide +kernel
theorem dga_kind : builtinKind "dict.__getattribute__" = some .slot := by decide +kernel
theorem dga_split : splitId "dict.__getattribute__" = some ("dict", "__getattribute__") := by decide +kernel
theorem dga_chk {M : Model} {A : Around} {E : Value → Shared → Prop} {s : Shared} {x b : Value} {Q : Unit → Shared → Prop} (hi : Looks M s.heap (isInstance x (.type "dict")) true) (q : Q () s) :
  wpAny M A (checkBuiltinCall "dict.__getattribute__" ⟨[x, b], []⟩) Q E s := @check_slot M A E s "dict.__getattribute__" "dict" "__getattribute__" x [b] [] Q dga_kind dga_split hi (dga_args _ _) q
open Builtin ObjectAttr in
theorem ogBind {prog : Program} {w : World} {A : Around} {E : Value → Shared → Prop} {s : Shared} {x C : Addr} {name : Str} {tn : Tok} {g a : Value} {R : Fin → Shared → Prop} (L0 : Looks (model prog w) s.heap (typeOf (.ref x)) (.ref C)) (L1 : Looks (model prog w) s.heap (find (.ref x) (.ref C) name) (.bind g a))
  (h : wpAny (model prog w) A (bindTo g a (.ref x) (.ref C)) R E s) : wpAny (model prog w) A (Builtin.«object.__getattribute__» ⟨[.ref x, .str name tn], []⟩) R E s := by
 obtain ⟨hh, g, dr, t, os⟩ := s
 delta Builtin.«object.__getattribute__»
 exact wpAny_bind (wpAny_pure (wpAny_bind (wpAny_pure (wpAny_bind (L0.at (wpAny_bind (L1.at h)))))))
theorem superCls {prog : Program} {w : World} {A : Around} {E Q : Value → Shared → Prop} {h : Heap} {g : Array GenState} {d : Drawn} {t : Nat} {os : OsState} {D : Addr} {oD : Obj} {cdD : ClassData}
  (hD : h.get? D = some oD) (hDt : oD.data = .cls cdD) (hsub : Looks (model prog w) h (isSubtype (.ref D) (.ref D)) true)
  (hq : ∀ h', h'.get? h.objs.size = some { cls := .type "super", dict := none, data := .fields #[.ref D, .ref D, .ref D], slots := #[] } → (∀ y o, h.get? y = some o → h'.get? y = some o) → Q (.ref h.objs.size) ⟨h', g, d, t, os⟩) :
  wpAny (model prog w) A (call (.type "super") [.ref D, .ref D]) Q E ⟨h, g, d, t, os⟩ := by
 refine ks_callType_codesW (Q₁ := fun obj s₁ => obj = .ref h.objs.size ∧ s₁ = ⟨h.push { cls := .type "super", data := .fields #[.none, .none, .none] }, g, d, t, os⟩) F.ks_called_super (ks_wpAny_checkTypeCall_super hD hDt) F.ks_entry_super_init
  (ks_code_super_new _ _ ⟨rfl, rfl⟩) fun obj s₁ h₁ => ?_
 obtain ⟨rfl, rfl⟩ := h₁
 have up : ∀ y o, h.get? y = some o → (h.push { cls := .type "super", data := .fields #[.none, .none, .none] }).get? y = some o := fun y o e => Heap.get?_push_of_some _ e
 have hso : (h.push { cls := .type "super", data := .fields #[.none, .none, .none] }).get? h.objs.size = some { cls := .type "super", dict := none, data := .fields #[.none, .none, .none], slots := #[] } := Heap.get?_push_at rfl rfl
 have hD' := up _ _ hD
 have hsub' := hsub.keeps up
 refine ⟨⟨_, hso, rfl⟩, F.ks_initArgs_super _ _ _, ?_⟩
 unfold Builtin.«super.__init__» noKeywords
 repeat (first | (with_reducible refine ks_wpAny_isType_cls hD' hDt ?_) | (with_reducible refine Looks.at hsub' ?_) | (with_reducible refine ks_wpAny_super_set3 hso ?_) | wp_step)
 all_goals (intro h' e k; exact ⟨rfl, hq h' e fun y o ey => k y o (Nat.ne_of_lt (Heap.lt_size ey)) (up y o ey)⟩)
set_option tactic.hygienic true in
theorem kitI {K : Frag} {x D : Addr} {ox od : Obj} (hc : (clsIn K D).isSome = true) (hg : plainGet K D "__class__" = true) (ha : findIn K (.ref D) "__class__" = some (some (.builtin "object.__class__")))
  (hn : specialIn K (.builtin "object.__class__") "__get__" = some (some (.builtin "getset_descriptor.__get__"))) (htk : takesIn K (.builtin "object.__class__") = some true) (hm : mroIn K D (.type "object") = some true) :
  KitX K (.ref x) (.ref D) (fun h => InstAt h x ox D (some od)) where
 ty := fun _ _ _ I => I.type
 it := fun _ _ X _ => by
  obtain ⟨cdD, hcD⟩ := Option.isSome_iff_exists.mp hc
  unfold clsIn at hcD
  split at hcD
  ·rename_i c' d' cd' sl' ho
   intro A' Q' E' s' k q
   unfold isType loadHead
   exact wpAny_bind (wpAny_loadPart (k _ _ (X _ _ ho)) (wpAny_pure q))
  ·cases hcD
 ne := fun h tp dd its n sl X htp => by
  obtain ⟨cdD, hcD⟩ := Option.isSome_iff_exists.mp hc
  refine Bool.eq_false_iff.mpr fun q => ?_
  cases beq_iff_eq.mp q
  unfold clsIn at hcD
  split at hcD
  ·rename_i c' d' cd' sl' ho
   rw [X _ _ ho] at htp
   cases htp
  ·cases hcD
 ca := fun {_ _ _ _ _ s} X I k => by
  have hf : findObj K D (some od) "__class__" = some (.bind (.builtin "getset_descriptor.__get__") (.builtin "object.__class__")) := findObj_data hc ha hn htk
  exact kin_open X I (plainGet_of hg).1 (kin_hooked (s := { s with toks := s.toks + 1 }) X I hf (plainGet_of hg).2
   (wpAny_call (class_get (s := { s with toks := s.toks + 1 }) (ox := ox) (od := some od) X I hm (handed_on rfl k))))
set_option tactic.hygienic true in
open Builtin Builtin.ObjectAttr in
theorem look_fn {K : Frag} {M : Model} {h : Heap} {x C f : Addr} {dx : Option Addr} {da : Data} {sl : Array (Option Value)} {cd : ClassData} {g : Value} {name : Str} (X : K.In h) (hx : h.get? x = some ⟨.ref C, dx, da, sl⟩) (hn : notCls ⟨.ref C, dx, da, sl⟩ = true)
  (hcd : clsIn K C = some cd) (hd : cd.hasDict = false) (ha : findIn K (.ref C) name = some (some (.ref f))) (hg : specialIn K (.ref f) "__get__" = some (some g)) (ht : takesIn K (.ref f) = some false) (hcp : copiedNames.contains name = false) :
  Looks M h (find (.ref x) (.ref C) name) (.bind g (.ref f)) := by
 have L1 := looks_findIn (M := M) X ha
 have L2 : Looks M h (getOf (some (.ref f))) (some g) := looks_specialIn X hg
 have L3 := looks_takesIn (M := M) X ht
 have L := looks_clsIn (M := M) X hcd
 have LO : Looks M h (inOwnDict name (.ref x)) none := by
  intro A Q E s k q
  refine wpAny_bind (wpAny_bind (wpAny_loadPart (k _ _ hx) ?_))
  have body : wpAny M A (instanceDict x false) (fun a s' => wpAny M A (inDict name a) Q E s') E s := by
   unfold instanceDict
   refine wpAny_bind (wpAny_loadPart (k _ _ hx) ?_)
   dsimp only
   refine wpAny_bind (L A _ E s k ?_)
   rw [hd]
   exact wpAny_pure (wpAny_pure q)
  cases da <;> first | exact body | cases hn
 have G : Looks M h (copiedAttributeGuard name (.ref x)) () := by
  unfold copiedAttributeGuard
  dsimp only
  split
  ·rename_i q2
   exact absurd (show copiedNames.contains name = true from q2) (by rw [hcp]; exact Bool.false_ne_true)
  ·exact .now
 refine L1.andThen (L2.andThen ((show Looks M h (dataDescriptor? (some (.ref f)) (some g)) none from L3.andThen .now).andThen ?_))
 exact LO.andThen (G.andThen (Looks.tag .now))
theorem has_args (a b : Value) : argsOk "hasattr" ⟨[a, b], []⟩ := by unfold argsOk; kernel_rfl
theorem has_entry : entryFor table "hasattr" = some Builtin.«hasattr» := entryFor_of_tree (by kernel_rfl)
theorem has_fn {prog : Program} {w : World} {A : Around} {E Q : Value → Shared → Prop} {K : Frag} {h : Heap} {gs : Array GenState} {d : Drawn} {t : Nat} {os : OsState} {x C f : Addr} {name : Str} {tn : Tok} (X : K.In h)
  (L0 : Looks (model prog w) h (typeOf (.ref x)) (.ref C)) (hga : findIn K (.ref C) "__getattribute__" = some (some (.builtin "object.__getattribute__"))) (hk : findIn K (.ref C) "__getattr__" = some none)
  (hmo : mroIn K C (.type "module") = some false) (Lf : Looks (model prog w) h (Builtin.ObjectAttr.find (.ref x) (.ref C) name) (.bind (.builtin "function.__get__") (.ref f))) (hf : typeIn K (.ref f) = some (.type "function"))
  (hq : Q (.bool true) ⟨h.push (methodObj (.ref f) (.ref x)), gs, d, t, os⟩) : wpAny (model prog w) A (call (.builtin "hasattr") [.ref x, .str name tn]) Q E ⟨h, gs, d, t, os⟩ := by
 have LM : Looks (model prog w) h (isInstance (.ref x) (.type "module")) false := L0.andThen (looks_mroIn X hmo)
 have L1 := looks_findIn (M := model prog w) X hga
 have L2 := looks_findIn (M := model prog w) X hk
 refine PySem.Calls.call_function_entry (by decide +kernel) (by decide +kernel) has_entry (has_args _ _) ?_
 unfold Builtin.«hasattr»
 refine wpAny_bind (m := someArgs "hasattr" 2 2 _) (wpAny_pure ?_)
 dsimp only
 refine wpAny_bind (show wpAny _ _ (pure ()) _ _ _ from wpAny_pure ?_)
 refine w_else (show ¬ (false = true) from Bool.false_ne_true) ?_
 refine wpAny_bind (L0.at ?_)
 dsimp only
 refine wpAny_bind (show wpAny _ _ (do if !(← isInstance (.ref x) (.type "module")) then return 0 else _) _ _ _ from wpAny_bind (LM.at ?_))
 refine w_if rfl (wpAny_pure ?_)
 refine w_else (by decide) ?_
 delta getAttrBy? getAttrBy
 refine wpAny_bind (wpAny_bind (wpAny_attempt (wpAny_holding (wpAny_bind (L0.at (wpAny_bind (L1.at ?_)))))))
 show wpAny _ _ (getAttrEveryday _ _ _) _ _ _
 refine wpAny_bind (wpAny_onRaise (wpAny_runValue (codeAny_builtin F.plainObj_entry_getattr_hooked ?_)))
 refine wpAny_bind (wpAny_pure (wpAny_bind (L0.at (wpAny_bind (Lf.at (wpAny_bind (L2.at ?_)))))))
 show wpAny _ _ (holding [.ref f] (call (.builtin "function.__get__") [.ref f, .ref x, .ref C]) >>= ret) _ _ _
 refine wpAny_bind (wpAny_holding (wpAny_call (fn_get (s := ⟨h, gs, d, t, os⟩) X hf (wpAny_pure ?_))))
 refine handed_on rfl (wpAny_pure ?_)
 refine w_else (show ¬ (false = true) from Bool.false_ne_true) ?_
 exact wpAny_pure ⟨_, rfl, hq⟩
theorem instP {h₀ h : Heap} {L : Addr} {news : List (Addr × Obj)} {v dx : Addr} (N : News h₀ L h news) (hm : (v, (⟨.ref 324, some dx, .dict #[] 0, #[]⟩ : Obj)) ∈ news) (hd : (dx, dictOf [] 0) ∈ news) : InstAt h v ⟨.ref 324, some dx, .dict #[] 0, #[]⟩ 324 (some (dictOf [] 0)) := ⟨(N _ hm).1, rfl, rfl, (N _ hd).1⟩
theorem instT {h₀ h : Heap} {L : Addr} {news : List (Addr × Obj)} {v dx : Addr} {x : Str} {tx : Tok} {sl : Array (Option Value)} (N : News h₀ L h news) (hm : (v, (⟨.ref 387, some dx, .prim (.str x tx), sl⟩ : Obj)) ∈ news) (hd : (dx, dictOf [] 0) ∈ news) : InstAt h v ⟨.ref 387, some dx, .prim (.str x tx), sl⟩ 387 (some (dictOf [] 0)) := ⟨(N _ hm).1, rfl, rfl, (N _ hd).1⟩
noncomputable abbrev vtObj (x : Str) (tx : Tok) (dx : Addr) (sl : Array (Option Value)) : Obj := ⟨.ref 387, some dx, .prim (.str x tx), sl⟩
noncomputable abbrev paObj (dx : Addr) : Obj := ⟨.ref 324, some dx, .dict #[] 0, #[]⟩
noncomputable abbrev mwObj (b : String) (v : Addr) : Obj := { cls := .type "method-wrapper", data := .fields #[.builtin b, .ref v] }
section
variable {w : World} {cn : Str} {cs : Scope} {a : Addr} {ccd : Value} {cl : List (Str × Addr)} {outer : List Env} {L : Addr} {h0 : Heap} {g : Array GenState} {d : Drawn} {tk0 : Nat} {os : OsState} {Q E : Value → Shared → Prop}
set_option hygiene false in
local macro_rules | `(tactic| x_close) => `(tactic| first | exact hret _ _ _ D | exact hret _ _ _ _ D | exact hret _ _ _ (Mem.start _))
theorem lf_mwget (X : (K w.params).In h0) (v dx : Addr) (hv : h0.get? v = some (paObj dx))
  (hret : ∀ q h' tk, Mem h0 h' [] [(q, mwObj "dict.__init__" v)] → Q (.ref q) ⟨h', g, d, tk, os⟩) :
  wpAny (model pw w) (ktrTop 500 200 none cn cs L a ccd cl outer) (call (.builtin "wrapper_descriptor.__get__") [.builtin "dict.__init__", .ref v, .ref 324]) Q E ⟨h0, g, d, tk0, os⟩ := by
 delta paObj at hv
 x_run
theorem lf_hasT (X : (K w.params).In h0) (v : Addr) (x : Str) (tx t2 : Tok) (dx : Addr) (sl : Array (Option Value)) (hv : h0.get? v = some (vtObj x tx dx sl))
  (hret : ∀ h' tk nw, Mem h0 h' [] nw → Q (.bool true) ⟨h', g, d, tk, os⟩) :
  wpAny (model pw w) (ktrTop 500 200 none cn cs L a ccd cl outer) (call (.builtin "hasattr") [.ref v, .str "to_ical" t2]) Q E ⟨h0, g, d, tk0, os⟩ := by
 have L0 : Looks (model pw w) h0 (typeOf (.ref v)) (.ref 387) := (Looks.ld hv).andThen .now
 obtain ⟨cd, hcd, hd⟩ : ∃ cd, clsIn (K w.params) 387 = some cd ∧ cd.hasDict = false := ⟨_, rfl, rfl⟩
 exact has_fn X L0 (by k_is) (by k_is) (by k_is) (look_fn (f := 365) X hv rfl hcd hd (by k_is) (by k_is) (by k_is) (by decide)) (by k_is) (hret _ _ _ ((Mem.start h0).alloc rfl))
theorem lf_getupd (X : (K w.params).In h0) (v dx : Addr) (tn : Tok) (hv : h0.get? v = some (paObj dx)) (hdx : h0.get? dx = some (dictOf [] 0))
  (hret : ∀ q h' tk, Mem h0 h' [] [(q, methodObj (.ref 164) (.ref v))] → Q (.ref q) ⟨h', g, d, tk, os⟩) :
  wpAny (model pw w) (ktrTop 500 200 none cn cs L a ccd cl outer) (call (.builtin "dict.__getattribute__") [.ref v, .str "update" tn]) Q E ⟨h0, g, d, tk0, os⟩ := by
 have I : InstAt h0 v (paObj dx) 324 (some (dictOf [] 0)) := ⟨hv, rfl, rfl, hdx⟩
 have L0 := I.type (M := model pw w)
 have L1 := looks_find (M := model pw w) X I (findObj_fn (f := 164) (g := .builtin "function.__get__") (name := "update") (by k_is) (by k_is) (by k_is) (by k_is) (by decide) rfl)
 have L2 : Looks (model pw w) h0 (isInstance (.ref v) (.type "dict")) true := L0.andThen (looks_mroIn X (by k_is))
 refine wpAny_call (codeAny_call_builtin dga_plain dga_entry (dga_chk L2 ?_))
 refine ogBind L0 L1 ?_
 delta Builtin.ObjectAttr.bindTo
 refine wpAny_bind (wpAny_holding (wpAny_call (fn_get (s := ⟨h0, g, d, tk0, os⟩) X (by k_is) ?_)))
 exact wpAny_pure (hret _ _ _ ((Mem.start h0).alloc rfl))
theorem lf_dnew (X : (K w.params).In h0)
  (hret : ∀ x dx h' tk, Mem h0 h' [] [(x, paObj dx), (dx, dictOf [] 0)] → Q (.ref x) ⟨h', g, d, tk, os⟩) :
  wpAny (model pw w) (ktrTop 500 200 none cn cs L a ccd cl outer) (call (.builtin "dict.__new__") [.ref 324, .none]) Q E ⟨h0, g, d, tk0, os⟩ := by
 x_run
theorem lf_snew (X : (K w.params).In h0) (x : Str) (tx : Tok) (hsz : ¬ sizeLine.succ.ble x.length = true)
  (hret : ∀ v dx h' tk, Mem h0 h' [] [(v, vtObj x tk0 dx #[]), (dx, dictOf [] 0)] → Q (.ref v) ⟨h', g, d, tk, os⟩) :
  wpAny (model pw w) (ktrTop 500 200 none cn cs L a ccd cl outer) (call (.builtin "str.__new__") [.ref 387, .str x tx]) Q E ⟨h0, g, d, tk0, os⟩ := by
 x_run
theorem cls_new {C p f : Addr} {tn : Tok} (X : (K w.params).In h0) (h1 : typeIn (K w.params) (.ref C) = some (.type "type")) (h2 : nsIn (K w.params) cStatics "thirdparty.any" = some none) (h3 : subIn (K w.params) (.type "type") (.type "type") = some true)
  (hf : findCls (K w.params) (.ref C) (.type "type") "__new__" = some (.get (.builtin "staticmethod.__get__") (.ref p) .none (.ref C))) {r : List Value} (hp : recIn (K w.params) p "staticmethod" = some (.ref f :: r))
  (hret : ∀ h' tk nw, Mem h0 h' [] nw → Q (.ref f) ⟨h', g, d, tk, os⟩) :
  wpAny (model pw w) (ktrTop 500 200 none cn cs L a ccd cl outer) (call (.builtin "type.__getattribute__") [.ref C, .str "__new__" tn]) Q E ⟨h0, g, d, tk0, os⟩ := by
 have ht : Looks (model pw w) h0 (typeOf (.ref C)) (.type "type") := looks_typeIn X h1
 have ho := looks_opaque (C := C) (M := model pw w) X h2
 refine wpAny_call (codeAny_call_builtin KF.slot_tga.plain KF.entry_tga (@check_slot (model pw w) _ _ ⟨h0, g, d, tk0, os⟩ "type.__getattribute__" "type" "__getattribute__" (.ref C) [.str "__new__" tn] [] _ (by decide +kernel) (by decide +kernel) (ht.andThen (looks_subIn X h3)) (KF.args_tga _ _) ?_))
 refine tga_run (s := ⟨h0, g, d, tk0, os⟩) X ho ht hf ?_
 refine wpAny_bind (wpAny_holding (wpAny_call (sm_get (s := ⟨h0, g, d, tk0, os⟩) X hp ?_)))
 exact wpAny_pure (hret _ _ _ (Mem.start h0))
theorem lf_clsnew (X : (K w.params).In h0) (tn : Tok)
  (hret : ∀ h' tk nw, Mem h0 h' [] nw → Q (.ref 358) ⟨h', g, d, tk, os⟩) :
  wpAny (model pw w) (ktrTop 500 200 none cn cs L a ccd cl outer) (call (.builtin "type.__getattribute__") [.ref 387, .str "__new__" tn]) Q E ⟨h0, g, d, tk0, os⟩ :=
 cls_new X (p := 388) (by k_is) (by k_is) (by k_is) (by k_is) (by k_is) hret
theorem lf_hasL (X : (K w.params).In h0) (lst : Addr) (items : Array Value) (k : Nat) (t2 : Tok) (hv : h0.get? lst = some ⟨.type "list", none, .seq items k, #[]⟩)
  (hret : ∀ h' tk nw, Mem h0 h' [] nw → Q (.bool true) ⟨h', g, d, tk, os⟩) :
  wpAny (model pw w) (ktrTop 500 200 none cn cs L a ccd cl outer) (call (.builtin "hasattr") [.ref lst, .str "__iter__" t2]) Q E ⟨h0, g, d, tk0, os⟩ := by
 x_run
theorem lf_super (X : (K w.params).In h0)
  (hret : ∀ q h' tk, Mem h0 h' [] [(q, ks_superObj 387 387 387)] → Q (.ref q) ⟨h', g, d, tk, os⟩) :
  wpAny (model pw w) (ktrTop 500 200 none cn cs L a ccd cl outer) (call (.type "super") [.ref 387, .ref 387]) Q E ⟨h0, g, d, tk0, os⟩ := by
 refine superCls (X _ _ (by k_is)) rfl (looks_mroIn X (by k_is)) fun h' e k => hret _ _ _ ⟨fun b o e' u' => k b o e', fun u' hp => (nomatch hp), List.nodup_nil, fun p hp => ?_, List.pairwise_singleton _ _⟩
 rcases List.mem_singleton.mp hp with rfl
 refine ⟨e, ?_⟩
 cases q : h0.get? h0.objs.size with
 | none => rfl
 | some o => exact absurd (Heap.lt_size q) (Nat.lt_irrefl _)
end
section
variable {w : World} {cn : Str} {cs : Scope} {a : Addr} {ccd : Value} {cl : List (Str × Addr)} {outer : List Env} {L : Addr} {h0 : Heap} {g : Array GenState} {d : Drawn} {tk0 : Nat} {os : OsState} {Q E : Value → Shared → Prop}
set_option hygiene false in
local macro_rules | `(tactic| x_close) => `(tactic| exact hret _)
theorem lf_mwcall (X : (K w.params).In h0) (v dx q : Addr) (hv : h0.get? v = some (paObj dx)) (hq : h0.get? q = some (mwObj "dict.__init__" v))
  (hret : ∀ tk, Q .none ⟨h0, g, d, tk, os⟩) :
  wpAny (model pw w) (ktrTop 500 200 none cn cs L a ccd cl outer) (call (.ref q) []) Q E ⟨h0, g, d, tk0, os⟩ := by
 delta paObj at hv
 delta mwObj at hq
 x_run
theorem lp_oinit (X : (K2 w.params).In h0) (v : Addr) (x : Str) (ta tx : Tok) (dx : Addr) (sl : Array (Option Value)) (hv : h0.get? v = some (vtObj x tx dx sl))
  (hret : ∀ tk, Q .none ⟨h0, g, d, tk, os⟩) :
  wpAny (model pw w) (ktrTop 500 200 none cn cs L a ccd cl outer) (call (.builtin "object.__init__") [.ref v, .str x ta]) Q E ⟨h0, g, d, tk0, os⟩ := by
 delta vtObj at hv
 x_run
theorem lf_oinit (X : (K w.params).In h0) (v : Addr) (x : Str) (ta tx : Tok) (dx : Addr) (sl : Array (Option Value)) (hv : h0.get? v = some (vtObj x tx dx sl))
  (hret : ∀ tk, Q .none ⟨h0, g, d, tk, os⟩) :
  wpAny (model pw w) (ktrTop 500 200 none cn cs L a ccd cl outer) (call (.builtin "object.__init__") [.ref v, .str x ta]) Q E ⟨h0, g, d, tk0, os⟩ :=
 lp_oinit (k2 X) v x ta tx dx sl hv hret
theorem lf_isiT (X : (K w.params).In h0) (v tt : Addr) (x : Str) (tx : Tok) (dx : Addr) (sl : Array (Option Value)) (hv : h0.get? v = some (vtObj x tx dx sl)) (hdx : h0.get? dx = some (dictOf [] 0))
  (htt : h0.get? tt = some ⟨.type "tuple", none, .seq #[.type "str", .type "bytes"] 0, #[]⟩)
  (hret : ∀ tk', Q (.bool true) ⟨h0, g, d, tk', os⟩) :
  wpAny (model pw w) (ktrTop 500 200 none cn cs L a ccd cl outer) (call (.builtin "isinstance") [.ref v, .ref tt]) Q E ⟨h0, g, d, tk0, os⟩ := by
 have hs : subIn (K w.params) (.ref 387) (.type "str") = some true := by k_is
 refine kia_tup (s := ⟨h0, g, d, tk0, os⟩) (kitI (K := K w.params) (ox := vtObj x tx dx sl) (od := dictOf [] 0) (by kernel_rfl) (by k_is) (by k_is) (by k_is) (by k_is) (by k_is)) X ⟨hv, rfl, rfl, hdx⟩ (its := [.type "str", .type "bytes"]) htt ?_ (by nofun) hret
 unfold kitAny kitOne kitCls
 rw [if_neg (by decide)]
 dsimp only
 rw [if_pos (by decide +kernel), hs]
theorem lf_isiS (X : (K w.params).In h0) (v : Addr) (x : Str) (tx : Tok) (dx : Addr) (sl : Array (Option Value)) (hv : h0.get? v = some (vtObj x tx dx sl)) (hdx : h0.get? dx = some (dictOf [] 0))
  (hret : ∀ tk', Q (.bool true) ⟨h0, g, d, tk', os⟩) :
  wpAny (model pw w) (ktrTop 500 200 none cn cs L a ccd cl outer) (call (.builtin "isinstance") [.ref v, .type "str"]) Q E ⟨h0, g, d, tk0, os⟩ := by
 have hs : subIn (K w.params) (.ref 387) (.type "str") = some true := by k_is
 refine kia_one (s := ⟨h0, g, d, tk0, os⟩) (kitI (K := K w.params) (ox := vtObj x tx dx sl) (od := dictOf [] 0) (by kernel_rfl) (by k_is) (by k_is) (by k_is) (by k_is) (by k_is)) X ⟨hv, rfl, rfl, hdx⟩ ?_ (by nofun) hret
 unfold kitOne kitCls
 rw [if_neg (by decide)]
 dsimp only
 rw [if_pos (by decide +kernel), hs]
end
end
section
set_option maxHeartbeats 40000000
section
variable {w : World} {cn : Str} {cs : Scope} {a : Addr} {ccd : Value} {cl : List (Str × Addr)} {outer : List Env} {L : Addr} {h0 : Heap} {g : Array GenState} {d : Drawn} {tk0 : Nat} {os : OsState} {Q E : Value → Shared → Prop}
set_option hygiene false in
local macro_rules | `(tactic| x_close) => `(tactic| first | exact hret _ _ _ D | exact hret _ _ _ _ _ D | exact hret _ _ _ (Mem.start _))
theorem lp_ninit (X : (K2 w.params).In h0) (x dn : Addr) (v1 v2 v3 v4 v5 u1 u2 u3 u4 u5 : Value) (hv : h0.get? x = some ⟨.ref 750, some dn, .seq #[v1, v2, v3, v4, v5] 0, #[]⟩)
  (hret : ∀ h' tk nw, Mem h0 h' [] nw → Q .none ⟨h', g, d, tk, os⟩) :
  wpAny (model pw w) (ktrTop 500 200 none cn cs L a ccd cl outer) (call (.builtin "object.__init__") [.ref x, u1, u2, u3, u4, u5]) Q E ⟨h0, g, d, tk0, os⟩ := by
 x_run
theorem lp_ainit (X : (K2 w.params).In h0) (x dn : Addr) (v1 v2 v3 v4 v5 v6 v7 u1 u2 u3 u4 u5 u6 u7 : Value) (hv : h0.get? x = some ⟨.ref 518, some dn, .seq #[v1, v2, v3, v4, v5, v6, v7] 0, #[]⟩)
  (hret : ∀ h' tk nw, Mem h0 h' [] nw → Q .none ⟨h', g, d, tk, os⟩) :
  wpAny (model pw w) (ktrTop 500 200 none cn cs L a ccd cl outer) (call (.builtin "object.__init__") [.ref x, u1, u2, u3, u4, u5, u6, u7]) Q E ⟨h0, g, d, tk0, os⟩ := by
 x_run
theorem lf_ninit (X : (K w.params).In h0) (x dn : Addr) (v1 v2 v3 v4 v5 u1 u2 u3 u4 u5 : Value) (hv : h0.get? x = some ⟨.ref 750, some dn, .seq #[v1, v2, v3, v4, v5] 0, #[]⟩)
  (hret : ∀ h' tk nw, Mem h0 h' [] nw → Q .none ⟨h', g, d, tk, os⟩) :
  wpAny (model pw w) (ktrTop 500 200 none cn cs L a ccd cl outer) (call (.builtin "object.__init__") [.ref x, u1, u2, u3, u4, u5]) Q E ⟨h0, g, d, tk0, os⟩ :=
 lp_ninit (k2 X) x dn v1 v2 v3 v4 v5 u1 u2 u3 u4 u5 hv hret
theorem lf_ainit (X : (K w.params).In h0) (x dn : Addr) (v1 v2 v3 v4 v5 v6 v7 u1 u2 u3 u4 u5 u6 u7 : Value) (hv : h0.get? x = some ⟨.ref 518, some dn, .seq #[v1, v2, v3, v4, v5, v6, v7] 0, #[]⟩)
  (hret : ∀ h' tk nw, Mem h0 h' [] nw → Q .none ⟨h', g, d, tk, os⟩) :
  wpAny (model pw w) (ktrTop 500 200 none cn cs L a ccd cl outer) (call (.builtin "object.__init__") [.ref x, u1, u2, u3, u4, u5, u6, u7]) Q E ⟨h0, g, d, tk0, os⟩ :=
 lp_ainit (k2 X) x dn v1 v2 v3 v4 v5 v6 v7 u1 u2 u3 u4 u5 u6 u7 hv hret
theorem lf_isiN (X : (K w.params).In h0) (x dn : Addr) (items : Array Value) (hv : h0.get? x = some ⟨.ref 750, some dn, .seq items 0, #[]⟩)
  (hret : ∀ h' tk nw, Mem h0 h' [] nw → Q (.bool true) ⟨h', g, d, tk, os⟩) :
  wpAny (model pw w) (ktrTop 500 200 none cn cs L a ccd cl outer) (call (.builtin "isinstance") [.ref x, .ref 750]) Q E ⟨h0, g, d, tk0, os⟩ := by
 x_run
theorem lf_isiA (X : (K w.params).In h0) (x dn : Addr) (items : Array Value) (hv : h0.get? x = some ⟨.ref 518, some dn, .seq items 0, #[]⟩)
  (hret : ∀ h' tk nw, Mem h0 h' [] nw → Q (.bool true) ⟨h', g, d, tk, os⟩) :
  wpAny (model pw w) (ktrTop 500 200 none cn cs L a ccd cl outer) (call (.builtin "isinstance") [.ref x, .ref 518]) Q E ⟨h0, g, d, tk0, os⟩ := by
 x_run
end
end
section
set_option maxHeartbeats 40000000
section
variable {w : World} {cn : Str} {cs : Scope} {a : Addr} {ccd : Value} {cl : List (Str × Addr)} {outer : List Env} {L : Addr} {h0 : Heap} {g : Array GenState} {d : Drawn} {tk0 : Nat} {os : OsState} {Q E : Value → Shared → Prop}
set_option hygiene false in
local macro_rules | `(tactic| x_close) => `(tactic| first | exact hret _ _ _ D | exact hret _ _ _ _ _ D | exact hret _ _ _ (Mem.start _))
theorem lp_tnew5 (X : (K2 w.params).In h0) (t : Addr) (k : Nat) (v1 v2 v3 v4 v5 : Value) (hv : h0.get? t = some ⟨.type "tuple", none, .seq #[v1, v2, v3, v4, v5] k, #[]⟩)
  (hret : ∀ x dx h' tk rest, Mem h0 h' [] ((x, ⟨.ref 750, some dx, .seq #[v1, v2, v3, v4, v5] 0, #[]⟩) :: (dx, dictOf [] 0) :: rest) → Q (.ref x) ⟨h', g, d, tk, os⟩) :
  wpAny (model pw w) (ktrTop 500 200 none cn cs L a ccd cl outer) (call (.builtin "tuple.__new__") [.ref 750, .ref t]) Q E ⟨h0, g, d, tk0, os⟩ := by
 x_run
theorem lf_tnew5 (X : (K w.params).In h0) (t : Addr) (k : Nat) (v1 v2 v3 v4 v5 : Value) (hv : h0.get? t = some ⟨.type "tuple", none, .seq #[v1, v2, v3, v4, v5] k, #[]⟩)
  (hret : ∀ x dx h' tk rest, Mem h0 h' [] ((x, ⟨.ref 750, some dx, .seq #[v1, v2, v3, v4, v5] 0, #[]⟩) :: (dx, dictOf [] 0) :: rest) → Q (.ref x) ⟨h', g, d, tk, os⟩) :
  wpAny (model pw w) (ktrTop 500 200 none cn cs L a ccd cl outer) (call (.builtin "tuple.__new__") [.ref 750, .ref t]) Q E ⟨h0, g, d, tk0, os⟩ :=
 lp_tnew5 (k2 X) t k v1 v2 v3 v4 v5 hv hret
theorem lp_tnew7 (X : (K2 w.params).In h0) (t : Addr) (k : Nat) (v1 v2 v3 v4 v5 v6 v7 : Value) (hv : h0.get? t = some ⟨.type "tuple", none, .seq #[v1, v2, v3, v4, v5, v6, v7] k, #[]⟩)
  (hret : ∀ x dx h' tk rest, Mem h0 h' [] ((x, ⟨.ref 518, some dx, .seq #[v1, v2, v3, v4, v5, v6, v7] 0, #[]⟩) :: (dx, dictOf [] 0) :: rest) → Q (.ref x) ⟨h', g, d, tk, os⟩) :
  wpAny (model pw w) (ktrTop 500 200 none cn cs L a ccd cl outer) (call (.builtin "tuple.__new__") [.ref 518, .ref t]) Q E ⟨h0, g, d, tk0, os⟩ := by
 x_run
theorem lf_tnew7 (X : (K w.params).In h0) (t : Addr) (k : Nat) (v1 v2 v3 v4 v5 v6 v7 : Value) (hv : h0.get? t = some ⟨.type "tuple", none, .seq #[v1, v2, v3, v4, v5, v6, v7] k, #[]⟩)
  (hret : ∀ x dx h' tk rest, Mem h0 h' [] ((x, ⟨.ref 518, some dx, .seq #[v1, v2, v3, v4, v5, v6, v7] 0, #[]⟩) :: (dx, dictOf [] 0) :: rest) → Q (.ref x) ⟨h', g, d, tk, os⟩) :
  wpAny (model pw w) (ktrTop 500 200 none cn cs L a ccd cl outer) (call (.builtin "tuple.__new__") [.ref 518, .ref t]) Q E ⟨h0, g, d, tk0, os⟩ :=
 lp_tnew7 (k2 X) t k v1 v2 v3 v4 v5 v6 v7 hv hret
theorem lf_nnew (X : (K w.params).In h0) (tn : Tok)
  (hret : ∀ h' tk nw, Mem h0 h' [] nw → Q (.ref 691) ⟨h', g, d, tk, os⟩) :
  wpAny (model pw w) (ktrTop 500 200 none cn cs L a ccd cl outer) (call (.builtin "type.__getattribute__") [.ref 750, .str "__new__" tn]) Q E ⟨h0, g, d, tk0, os⟩ :=
 cls_new X (p := 751) (by k_is) (by k_is) (by k_is) (by k_is) (by k_is) hret
theorem lf_anew (X : (K w.params).In h0) (tn : Tok)
  (hret : ∀ h' tk nw, Mem h0 h' [] nw → Q (.ref 453) ⟨h', g, d, tk, os⟩) :
  wpAny (model pw w) (ktrTop 500 200 none cn cs L a ccd cl outer) (call (.builtin "type.__getattribute__") [.ref 518, .str "__new__" tn]) Q E ⟨h0, g, d, tk0, os⟩ :=
 cls_new X (p := 519) (by k_is) (by k_is) (by k_is) (by k_is) (by k_is) hret
end
end
section
set_option maxHeartbeats 40000000
section
variable {w : World} {cn : Str} {cs : Scope} {a : Addr} {ccd : Value} {cl : List (Str × Addr)} {outer : List Env} {L : Addr} {h0 : Heap} {g : Array GenState} {d : Drawn} {tk0 : Nat} {os : OsState} {Q E : Value → Shared → Prop}
set_option hygiene false in
local macro_rules | `(tactic| x_close) => `(tactic| first | exact hret _ _ _ D | exact hret _ _ _ _ D | exact hret _ _ _ (Mem.start _))
theorem lf_iterL (X : (K w.params).In h0) (lst : Addr) (items : Array Value) (k : Nat) (hv : h0.get? lst = some ⟨.type "list", none, .seq items k, #[]⟩)
  (hret : ∀ I h' tk, Mem h0 h' [] [(I, ⟨.type "list_iterator", none, .fields #[.ref lst, .int 0 0], #[]⟩)] → Q (.ref I) ⟨h', g, d, tk, os⟩) :
  wpAny (model pw w) (ktrTop 500 200 none cn cs L a ccd cl outer) (call (.builtin "iter") [.ref lst]) Q E ⟨h0, g, d, tk0, os⟩ := by
 x_run
end
end
end
section
open PySem.Calls
section
noncomputable abbrev tupObj (vs : List Value) : Obj := { cls := .type "tuple", data := .seq vs.toArray }
section
variable {prog : Program} {w : World} {A₀ A : Around} {s : Shared} {base h₀ : Heap} {outer : List Env} {L : Addr} {m mg mb : Str → Option Value} {env : Env} {news : List (Addr × Obj)} {K : Frag} {p : Program} {loose : List Str} {mean : ExcName → Option Value}
 {R : Result → Shared → Prop} {name qual : Str} {params : Arguments} {body : List Stmt} {scope : Scope} {dV kV doc pm cdv ct oc : Value} {an od : Option Addr} {osl : Array (Option Value)} {f cc : Addr} {args : Args} {vs : List Value}
theorem frameAt {E : Value → Shared → Prop} {binds : List (Str × Value)} (B : Below A₀ base outer h₀) (F : Fr h₀ L s.heap m) (N : News h₀ L s.heap news) (hlim : h₀.NoLimit) (hA : A.frames = some (env :: outer)) (hf : env.frame = some L) (hke : env.scope.kind = .function)
  (hloc : ∀ y ∈ binds, scope.names.lookup y.1 = some .local)
  (h : ∀ g L' h₁, Fr h₀ L g m → Fr g L' h₁ (fun y => binds.reverse.lookup y) → News g L' h₁ news → Below A base (env :: outer) g → h₀.StaysIn g →
   _root_.PySem.wpAt (model prog w) (A.deeper (ksEnv qual scope L' f cdv cc)) (.func body (ksEnv qual scope L' f cdv cc)) (execs body (ksEnv qual scope L' f cdv cc))
    (fun fl s' => LeaveK h₀ L m g R (match fl with | .ret v => v | _ => .none) s')
    (fun e s' => wpAny (model prog w) (A.deeper (ksEnv qual scope L' f cdv cc)) (leaving (ksEnv qual scope L' f cdv cc) e) (fun u' s'' => R (.error e) s'') (fun e' s'' => R (.error e') s'') s')
    {s with heap := h₁, toks := s.toks + binds.length })
  (hcell : ∀ x ∈ scope.names, x.2 ≠ .cell) (hk : scope.kind = .function) :
  wpAny (model prog w) A.in1 (newFunctionEnv scope mainGlobals [("__class__", cc)] binds (qual ++ ".<locals>.") (some f) cdv none builtinsNs) (fun env' s₂ => s₂.heap.NoLimit ∧ codeAny (model prog w) A (.func body env') R s₂) E s := by
 refine ob0_4 (groundX (R := R) B F N hA hf hke) fun FG BG st lv => ?_
 refine wpAny_newFunctionEnv hcell hloc (fun h₁ hns hsb => ⟨(hlim.keeps F.keep).fresh _ hsb, ks_codeAny_funcAt ?_⟩) hk
 have hk₁ : ∀ b o, s.heap.get? b = some o → h₁.get? b = some o := fun b o e => hsb.extBut b o (Nat.ne_of_lt (Heap.lt_size e)) (Heap.get?_push_of_some _ e)
 show _root_.PySem.wpAt (model prog w) (A.deeper (ksEnv qual scope s.heap.objs.size f cdv cc)) _ (execs body (ksEnv qual scope s.heap.objs.size f cdv cc)) _ _ _
 exact ks_wpAt_mono (h _ s.heap.objs.size h₁ FG ⟨hns, fun b o e => hk₁ b o (of_hideAll _ e), Nat.le_of_eq (hideAll_size _ _)⟩
  (fun p hp => ⟨hk₁ _ _ (N p hp).1, Nat.ne_of_lt (Heap.lt_size (N p hp).1), hideAll_none _ (List.mem_map_of_mem hp)⟩) BG st) (fun fl s' hl => lv _ _ hl) fun u' u' y => y
theorem both_at {g₁ : Addr → Sem (List (Str × Value))} {g₂ : Addr → Addr → Sem (List (Str × Value))} {binds : Addr → Addr → List (Str × Value)}
  (B : Below A₀ base outer h₀) (F : Fr h₀ L s.heap m) (X₀ : K.In h₀) (N : News h₀ L s.heap news) (T : Top p loose mean mg mb h₀) (hA : A.frames = some (env :: outer)) (hf : env.frame = some L) (hke : env.scope.kind = .function)
  (ho : K.lookup f = some ⟨oc, od, .func (ksFn name qual params body scope dV kV doc pm an cdv ct cc), osl⟩) (hcd : codeIn K cdv qual = true) (hroom : A.depth < recursionLimit)
  (hp : peekA K ⟨prog, w.params⟩ (bindArgs (ksFn name qual params body scope dV kV doc pm an cdv ct cc) args) = some (tupObj vs, g₁))
  (hp₂ : ∀ D, peekA K ⟨prog, w.params⟩ (g₁ D) = some (dictOf [] 0, g₂ D))
  (hk₂ : ∀ C D, g₂ C D = pure (binds C D))
  (hloc : ∀ C D, ∀ y ∈ binds C D, scope.names.lookup y.1 = some .local)
  (h : ∀ C D g L' h₁, (∀ p ∈ news, p.1 < C) → C < D → (D == sysModules) = false → Fr h₀ L g m → Fr g L' h₁ (fun y => (binds C D).reverse.lookup y) → News g L' h₁ ((D, dictOf [] 0) :: (C, tupObj vs) :: news) → Below A base (env :: outer) g → K.In g → Top p loose mean mg mb g →
   _root_.PySem.wpAt (model prog w) (A.deeper (ksEnv qual scope L' f cdv cc)) (.func body (ksEnv qual scope L' f cdv cc)) (execs body (ksEnv qual scope L' f cdv cc))
    (fun fl s' => LeaveK h₀ L m g R (match fl with | .ret v => v | _ => .none) s')
    (fun e s' => wpAny (model prog w) (A.deeper (ksEnv qual scope L' f cdv cc)) (leaving (ksEnv qual scope L' f cdv cc) e) (fun u' s'' => R (.error e) s'') (fun e' s'' => R (.error e') s'') s')
    {s with heap := h₁, toks := s.toks + (binds C D).length })
  (hcell : ∀ x ∈ scope.names, x.2 ≠ .cell := by decide) (hco : scope.isCoroutine = false := by rfl) (hgen : scope.isGenerator = false := by rfl) (hk : scope.kind = .function := by rfl) : codeAny (model prog w) A (.call (.ref f) args) R s := by
 refine codeAny_call_function (fd := ksFn name qual params body scope dV kV doc pm an cdv ct cc) (body := body) hroom ((X₀.keeps F.keep) _ _ ho) rfl hco hgen rfl (codeRec_of (X₀.keeps F.keep) hcd) ?_
 refine wp_of_peekA (o := tupObj vs) F N (X₀.keeps F.keep) rfl _ g₁ hp fun h' F' N' l => ?_
 refine wp_of_peekA (s := { s with heap := h' }) (o := dictOf [] 0) F' N' (X₀.keeps F'.keep) rfl _ (g₂ s.heap.objs.size) (hp₂ _) fun h'' F'' N'' l' => ?_
 rw [hk₂]
 refine wpAny_pure ?_
 exact frameAt (s := { s with heap := h'' }) B F'' N'' T.nolimit hA hf hke (hloc _ _)
  (fun g L' h₁ FG FL NG BG st => h _ _ g L' h₁ l (l' _ (.head _)) (F'.notModules (modules_low T.nolimit)) FG FL NG BG (X₀.keeps st) (T.keeps st)) hcell hk
theorem frameCell {E : Value → Shared → Prop} {n1 n2 n3 : Str} {v1 v2 v3 : Value} (B : Below A₀ base outer h₀) (F : Fr h₀ L s.heap m) (N : News h₀ L s.heap news) (hlim : h₀.NoLimit) (hA : A.frames = some (env :: outer)) (hf : env.frame = some L) (hke : env.scope.kind = .function)
  (hcells : ∀ n, cellsFrom n scope.names [("__class__", cc)] = [(n3, n), ("__class__", cc)]) (hpush : ∀ h, pushCells h scope.names = h.push { cls := .type "cell", data := .cell none })
  (k1 : scope.names.lookup n1 = some .local) (k2 : scope.names.lookup n2 = some .local) (k3 : scope.names.lookup n3 = some .cell)
  (h : ∀ g L' c o h₁ tk, Fr h₀ L g m → Fr g L' h₁ (fun y => if y = n2 then some v2 else if y = n1 then some v1 else none) → News g L' h₁ ((c, o) :: news) → o.data = .cell (some v3) → (∀ p ∈ news, p.1 < c) → L' < c → Below A base (env :: outer) g → h₀.StaysIn g →
   _root_.PySem.wpAt (model prog w) (A.deeper (envX qual scope L' f cdv [(n3, c), ("__class__", cc)])) (.func body (envX qual scope L' f cdv [(n3, c), ("__class__", cc)])) (execs body (envX qual scope L' f cdv [(n3, c), ("__class__", cc)]))
    (fun fl s' => LeaveK h₀ L m g R (match fl with | .ret v => v | _ => .none) s')
    (fun e s' => wpAny (model prog w) (A.deeper (envX qual scope L' f cdv [(n3, c), ("__class__", cc)])) (leaving (envX qual scope L' f cdv [(n3, c), ("__class__", cc)]) e) (fun u' s'' => R (.error e) s'') (fun e' s'' => R (.error e') s'') s')
    {s with heap := h₁, toks := tk })
  (hk : scope.kind = .function) :
  wpAny (model prog w) A.in1 (newFunctionEnv scope mainGlobals [("__class__", cc)] [(n1, v1), (n2, v2), (n3, v3)] (qual ++ ".<locals>.") (some f) cdv none builtinsNs) (fun env' s₂ => s₂.heap.NoLimit ∧ codeAny (model prog w) A (.func body env') R s₂) E s := by
 refine ob0_4 (groundX (R := R) B F N hA hf hke) fun FG BG st lv => ?_
 simp only [newFunctionEnv, Option.isSome_none, Bool.false_eq_true, if_false]
 refine wpAny_bind (wpAny_alloc ?_)
 refine wpAny_bind (wpAny_layCells _ (fun name kind cells => by cases hkc : kind == NameKind.cell <;> simp [hkc]) _ _ _ _ ?_)
 have e1 : (s.heap.push { cls := .type "frame", data := .dict #[] }).objs.size = s.heap.objs.size + 1 := Heap.size_push ..
 dsimp only
 rw [hcells, hpush, e1]
 have F0 : Fr s.heap s.heap.objs.size ((s.heap.push { cls := .type "frame", data := .dict #[] }).push { cls := .type "cell", data := .cell none }) (fun u' => none) :=
  ⟨(Heap.Ns.new s.heap (.type "frame")).keeps fun b o e => Heap.get?_push_of_some _ e, fun b o e => Heap.get?_push_of_some _ (Heap.get?_push_of_some _ e), Nat.le_refl _⟩
 have N0 : News s.heap s.heap.objs.size ((s.heap.push { cls := .type "frame", data := .dict #[] }).push { cls := .type "cell", data := .cell none }) [(s.heap.objs.size + 1, { cls := .type "cell", data := .cell none })] := fun p hp => by
  rcases List.mem_singleton.mp hp with rfl
  refine ⟨?_, Nat.succ_ne_self _, ?_⟩
  ·show Heap.get? _ (s.heap.objs.size + 1) = _
   rw [← e1]; exact Heap.get?_push_size _ rfl
  ·cases z : s.heap.get? (s.heap.objs.size + 1) with
   | none => rfl
   | some o => exact absurd (Heap.lt_size z) (Nat.not_lt.mpr (Nat.le_succ _))
 refine wpAny_bind ?_
 rw [List.forIn_cons]
 refine wpAny_bind (wpAny_bind (storeX_L (cn := qual) (cs := scope) (a := f) (ccd := cdv) (x := n1) (v := v1) F0 N0 (fun h1 F1 N1 => ?_) hk k1))
 refine wpAny_pure ?_
 dsimp only
 rw [List.forIn_cons]
 refine wpAny_bind (wpAny_bind (storeX_L (cn := qual) (cs := scope) (a := f) (ccd := cdv) (x := n2) (v := v2) F1 N1 (fun h2 F2 N2 => ?_) hk k2))
 refine wpAny_pure ?_
 dsimp only
 rw [List.forIn_cons]
 refine wpAny_bind (wpAny_bind (storeX_C (cn := qual) (cs := scope) (a := f) (ccd := cdv) (x := n3) (v := v3) (c := s.heap.objs.size + 1) F2 N2 (by show List.lookup n3 ((n3, _) :: _) = _; simp [List.lookup]) (.head fun u' h => nomatch h) rfl (fun h3 o F3 N3 hd => ?_) hk k3))
 refine wpAny_pure ?_
 dsimp only
 rw [List.forIn_nil]
 refine wpAny_pure (wpAny_pure ⟨(hlim.keeps F.keep).keeps F3.keep, ks_codeAny_funcAt ?_⟩)
 have hk₁ := F3.keep
 refine ks_wpAt_mono (h _ s.heap.objs.size (s.heap.objs.size + 1) o h3 _ FG ⟨F3.ns, fun b o e => hk₁ b o (of_hideAll _ e), Nat.le_of_eq (hideAll_size _ _)⟩ (fun p hp => ?_) hd (fun p hp => Nat.lt_succ_of_lt (Heap.lt_size (N p hp).1)) (Nat.lt_succ_self _) BG st) (fun fl s' hl => lv _ _ hl) fun u' u' y => y
 rcases List.mem_cons.mp hp with rfl | hp
 ·have NC := N3 _ (.head _)
  refine ⟨NC.1, NC.2.1, ?_⟩
  cases q : (hideAll s.heap (news.map (·.1))).get? (s.heap.objs.size + 1) with
  | none => rfl
  | some o => have := of_hideAll _ q; rw [NC.2.2] at this; cases this
 ·exact ⟨hk₁ _ _ (N p hp).1, Nat.ne_of_lt (Heap.lt_size (N p hp).1), hideAll_none _ (List.mem_map_of_mem hp)⟩
end
end
section
section
variable {prog : Program} {w : World} {A : Around} {E : Value → Shared → Prop} {h : Heap} {g : Array GenState} {dr : Drawn} {tk : Nat} {os : OsState}
theorem dictIsDict {D : Addr} (hD : h.get? D = some (dictOf [] 0)) : Looks (model prog w) h (isInstance (.ref D) (.type "dict")) true := by
 delta isInstance
 exact ((Looks.ld hD).andThen .now).andThen (Looks.of_pure (by show isSubtype (.type "dict") (.type "dict") = _; rw [isSubtype_type]; kernel_rfl))
theorem dictIter {D : Addr} (hD : h.get? D = some (dictOf [] 0)) : Looks (model prog w) h (specialOf (.ref D) "__iter__") (some (.builtin "dict.__iter__")) := by
 delta specialOf
 exact ((Looks.ld hD).andThen .now).andThen (Looks.of_pure (by show typeLookup (.type "dict") "__iter__" = _; rw [typeLookup_type, builtinLookup_eq_fast]; kernel_rfl))
theorem merge0 {d D : Addr} {Q : Unit → Shared → Prop} (hd : h.get? d = some (dictOf [] 0)) (hD : h.get? D = some (dictOf [] 0)) (hm : (D == sysModules) = false) (hq : Q () ⟨h, g, dr, tk, os⟩) :
  wpAny (model prog w) A (mergeMapping d (.ref D) true) Q E ⟨h, g, dr, tk, os⟩ := by
 have h1 := dictIsDict (prog := prog) (w := w) hD
 have h2 := dictIter (prog := prog) (w := w) hD
 delta mergeMapping
 repeat (first | exact hq | refine w_else (by rw [hm]; exact Bool.false_ne_true) ?_ | simp only [hm, Bool.false_eq_true, if_false] | lk)
theorem merged0 {D : Addr} {f : Value} {x : Sem Value} {Q : Addr → Shared → Prop} (hD : h.get? D = some (dictOf [] 0)) (hm : (D == sysModules) = false)
  (rk : ∀ (Q' : Value → Shared → Prop) E', Q' (.ref D) ⟨h.push (dictOf [] 0), g, dr, tk, os⟩ → wpAny (model prog w) A x Q' E' ⟨h.push (dictOf [] 0), g, dr, tk, os⟩)
  (hq : Q h.objs.size ⟨h.push (dictOf [] 0), g, dr, tk, os⟩) :
  wpAny (model prog w) A (mergedKeywords f [(none, x)]) Q E ⟨h, g, dr, tk, os⟩ := by
 have hD' : (h.push (dictOf [] 0)).get? D = some (dictOf [] 0) := Heap.get?_push_of_some _ hD
 have hd : (h.push (dictOf [] 0)).get? h.objs.size = some (dictOf [] 0) := Heap.get?_push_size _ rfl
 delta mergedKeywords
 refine wpAny_bind (wpAny_alloc ?_)
 refine wpAny_bind (wpAny_holding ?_)
 dsimp only
 refine wpAny_bind ?_
 rw [List.forIn_cons]
 refine wpAny_bind (wpAny_bind ?_)
 refine w_if (show List.isEmpty _ = true from rfl) ?_
 refine wpAny_pure ?_
 refine wpAny_bind (rk _ _ ?_)
 refine wpAny_bind ?_
 refine wpAny_onRaise (wpAny_holding (wpAny_tryCatch (wpAny_onRaise (merge0 hd hD' hm ?_))))
 refine wpAny_pure ?_
 dsimp only
 rw [List.forIn_nil]
 refine wpAny_pure ?_
 refine w_if (show List.isEmpty _ = true from rfl) ?_
 refine wpAny_pure ?_
 exact wpAny_pure hq
noncomputable def kwRest (f : Value) (d : Addr) : {k : Array DictEntry → Sem (List (Str × Value)) // keywordsIn f d = dictEntries d >>= k} := ⟨_, rfl⟩
theorem kwIn0 {d : Addr} {f : Value} {Q : List (Str × Value) → Shared → Prop} (hd : h.get? d = some (dictOf [] 0)) (hq : Q [] ⟨h, g, dr, tk, os⟩) :
  wpAny (model prog w) A (keywordsIn f d) Q E ⟨h, g, dr, tk, os⟩ := by
 rw [(kwRest f d).2]
 refine wpAny_bind ?_
 delta dictEntries
 refine wpAny_bind (wpAny_loadPart hd ?_)
 refine wpAny_pure ?_
 exact wpAny_of_eq (show (kwRest f d).1 _ = pure [] from rfl) hq
end
section
variable {prog : Program} {w : World} {A : Around} {E : Value → Shared → Prop} {s : Shared} {h₀ : Heap} {L : Addr} {m : Str → Option Value} {news : List (Addr × Obj)} {env : Env} {K : Frag}
theorem evalArgs0 {f : Value} {ea ek : PySem.Expr} {pa pk pos : Pos} {C D : Addr} {Q : Args → Shared → Prop}
  (F : Fr h₀ L s.heap m) (N : News h₀ L s.heap news) (hC : (C, ({ cls := .type "tuple", data := .seq #[] } : Obj)) ∈ news) (hD : (D, dictOf [] 0) ∈ news) (hm : (D == sysModules) = false)
  (ra : ∀ (Q' : Value → Shared → Prop), Q' (.ref C) s → wpAny (model prog w) A (eval ea env) Q' E s)
  (rk : ∀ (Q' : Value → Shared → Prop) E' s', (∀ b o, s.heap.get? b = some o → s'.heap.get? b = some o) → Q' (.ref D) s' → wpAny (model prog w) A (eval ek env) Q' E' s')
  (hq : ∀ h', Fr h₀ L h' m → News h₀ L h' news → Q ⟨[], []⟩ { s with heap := h' }) :
  wpAny (model prog w) A (evalArgs f true (backTo pos (starEach [.Starred ea pa] env)) (backToKw pos (keywordEach [⟨none, ek, pk⟩] env))) Q E s := by
 show wpAny (model prog w) A (evalArgs f true [(true, (do let v ← eval ea env; standAt pos; pure v))] [(none, (do let v ← eval ek env; standAt pos; pure v))]) Q E s
 delta evalArgs
 obtain ⟨h, g, dr, tk, os⟩ := s
 refine wpAny_bind ?_
 refine wpAny_bind (ra _ (wpAny_bind (wpAny_standAt (wpAny_pure (wpAny_bind (wpAny_pure ?_))))))
 dsimp only
 refine wpAny_holding ?_
 refine w_else (by show ¬ (false = true); decide) ?_
 refine wpAny_bind (merged0 (N _ hD).1 hm (fun Q' E' q => wpAny_bind (rk _ _ _ (fun b o e => Heap.get?_push_of_some _ e) (wpAny_bind (wpAny_standAt (wpAny_pure q))))) ?_)
 have F1 := F.push (dictOf [] 0)
 have N1 := News.push F N (dictOf [] 0) rfl
 have hC' := List.mem_cons_of_mem (h.objs.size, dictOf [] 0) hC
 refine wpAny_bind ?_
 have st : StarOf (model prog w) A E (.ref C) (fun vs s' => wpAny (model prog w) A (holding (Value.ref h.objs.size :: vs) (keywordsIn f h.objs.size) >>= fun kw => pure ⟨vs, kw⟩) Q E s') ⟨h.push (dictOf [] 0), g, dr, tk, os⟩ := by
  refine star_seq (s := ⟨h.push (dictOf [] 0), g, dr, tk, os⟩) F1 N1 hC' rfl rfl (.inr rfl) (ws := []) rfl (Nat.zero_le _) fun h' F' N' => ?_
  refine wpAny_bind (wpAny_holding (kwIn0 (N' _ (.head _)).1 ?_))
  exact wpAny_pure (hq h' F' fun p hp => N' p (.tail _ hp))
 delta StarOf at st
 refine wpAny_bind (wpAny_mono st (fun b s₂ h₂ => ?_) fun u' u' x => x)
 obtain ⟨rfl, h₂⟩ := h₂
 rw [if_neg Bool.false_ne_true]
 exact wpAny_holding h₂
theorem at_callStar {c : Code} {o : PySem.Expr} {name : Str} {apos pos : Pos} {args : List PySem.Expr} {kws : List Keyword} {Q : Value → Shared → Prop}
  (hf : ∀ n, methodCallForm n (backTo pos (starEach args env)) (backToKw pos (keywordEach kws env)) = false)
  (h : _root_.PySem.wpAt (model prog w) A c (attributeBase o name env (eval o env)) (fun ov s₁ => wpAny (model prog w) A (getAttr ov name true) (fun f s₂ => wpAny (model prog w) A (callWith pos f [] (backTo pos (starEach args env)) (backToKw pos (keywordEach kws env))) Q E s₂) E s₁) E s) :
  _root_.PySem.wpAt (model prog w) A c (eval (.Call (.Attribute o name apos) args kws pos) env) Q E s := by
 rw [arm_eval_Call]
 refine _root_.PySem.wpAt_bind (_root_.PySem.wpAt_mono h (fun ov s₁ h₁ => _root_.PySem.wpAt_of_wpAny (wpAny_bind (wpAny_standAt ?_))) fun u' u' x => x)
 delta methodCall
 rw [hf]
 delta calleeOf
 refine wpAny_bind (wpAny_holding ?_)
 rw [if_neg Bool.false_ne_true]
 refine wpAny_bind (wpAny_mono h₁ (fun f s₂ h₂ => wpAny_pure ?_) fun u' u' x => x)
 dsimp only
 delta methodCallPos
 rw [show (!false || apos.endLine == pos.line) = true from rfl, if_pos rfl]
 exact wpAny_bind (wpAny_pure h₂)
theorem any_callStar {o : PySem.Expr} {name : Str} {apos pos : Pos} {args : List PySem.Expr} {kws : List Keyword} {Q : Value → Shared → Prop}
  (hf : ∀ n, methodCallForm n (backTo pos (starEach args env)) (backToKw pos (keywordEach kws env)) = false) (hb : ∀ x, attributeBase o name env x = x)
  (h : wpAny (model prog w) A (eval o env) (fun ov s₁ => wpAny (model prog w) A (getAttr ov name true) (fun f s₂ => wpAny (model prog w) A (callWith pos f [] (backTo pos (starEach args env)) (backToKw pos (keywordEach kws env))) Q E s₂) E s₁) E s) :
  wpAny (model prog w) A (eval (.Call (.Attribute o name apos) args kws pos) env) Q E s := by
 rw [arm_eval_Call, hb]
 refine wpAny_bind (wpAny_mono h (fun ov s₁ h₁ => wpAny_bind (wpAny_standAt ?_)) fun u' u' x => x)
 delta methodCall
 rw [hf]
 delta calleeOf
 refine wpAny_bind (wpAny_holding ?_)
 rw [if_neg Bool.false_ne_true]
 refine wpAny_bind (wpAny_mono h₁ (fun f s₂ h₂ => wpAny_pure ?_) fun u' u' x => x)
 dsimp only
 delta methodCallPos
 rw [show (!false || apos.endLine == pos.line) = true from rfl, if_pos rfl]
 exact wpAny_bind (wpAny_pure h₂)
theorem callStar0 {q f2 : Addr} {self : Value} {fd : FuncData} {of : Value} {odf : Option Addr} {osl : Array (Option Value)} {ea ek : PySem.Expr} {pa pk pos : Pos} {C D : Addr} {Q : Value → Shared → Prop}
  (F : Fr h₀ L s.heap m) (N : News h₀ L s.heap news) (X : K.In h₀) (hC : (C, ({ cls := .type "tuple", data := .seq #[] } : Obj)) ∈ news) (hD : (D, dictOf [] 0) ∈ news) (hm : (D == sysModules) = false)
  (hq : (q, methodObj (.ref f2) self) ∈ news) (hf2 : K.lookup f2 = some ⟨of, odf, .func fd, osl⟩)
  (ra : ∀ (Q' : Value → Shared → Prop), Q' (.ref C) s → wpAny (model prog w) A (eval ea env) Q' E s)
  (rk : ∀ (Q' : Value → Shared → Prop) E' s', (∀ b o, s.heap.get? b = some o → s'.heap.get? b = some o) → Q' (.ref D) s' → wpAny (model prog w) A (eval ek env) Q' E' s')
  (h : ∀ h', Fr h₀ L h' m → News h₀ L h' news → wpAny (model prog w) A (call (.ref q) []) Q E { s with heap := h' }) :
  wpAny (model prog w) A (callWith pos (.ref q) [] (backTo pos (starEach [.Starred ea pa] env)) (backToKw pos (keywordEach [⟨none, ek, pk⟩] env))) Q E s := by
 delta callWith
 refine wpAny_bind (wpAny_holding (evalArgs0 F N hC hD hm ra rk fun h' F' N' => wpAny_bind (wpAny_standAt ?_)))
 have hh := h h' F' N'
 have L1 : Looks (model prog w) h' (keeperOf (.ref q)) .boundFrame := by
  have e2 := F'.keep _ _ (X _ _ hf2)
  intro A Q E s k z
  delta keeperOf
  refine wpAny_bind (wpAny_load (k _ _ (N' _ hq).1) ?_)
  dsimp only
  refine w_else (by decide) ?_
  refine wpAny_bind (wpAny_load (k _ _ e2) (wpAny_pure z))
 refine wpAny_bind (L1.here ?_)
 dsimp only
 rw [show ((backTo pos (starEach [Expr.Starred ea pa] env)).any (·.1) || (backToKw pos (keywordEach [⟨none, ek, pk⟩] env)).any (·.1.isNone)) = true from rfl]
 refine wpAny_bind (wpAny_mono (wpAny_operating hh) (fun r s₂ hr => wpAny_bind (wpAny_holding (wpAny_point (wpAny_pure hr)))) fun u' u' x => x)
theorem callMw0 {q : Addr} {b : String} {self : Value} {pos : Pos} {Q : Value → Shared → Prop} (hq : s.heap.get? q = some { cls := .type "method-wrapper", data := .fields #[.builtin b, self] })
  (h : wpAny (model prog w) A (call (.ref q) []) Q E s) : wpAny (model prog w) A (callWith pos (.ref q) [] (backTo pos (starEach [] env)) []) Q E s := by
 delta callWith
 have L1 : Looks (model prog w) s.heap (keeperOf (.ref q)) .machine := by
  intro A Q E s k z
  delta keeperOf
  refine wpAny_bind (wpAny_load (k _ _ hq) ?_)
  dsimp only
  rw [if_pos (by decide), if_pos (by decide)]
  exact wpAny_pure z
 have e : wpAny (model prog w) A (evalArgs (.ref q) true (backTo pos (starEach [] env)) []) (fun a s' => a = ⟨[], []⟩ ∧ s' = s) E s := by
  show wpAny (model prog w) A (evalArgs (.ref q) true [] []) _ E s
  delta evalArgs
  show wpAny (model prog w) A (spliced [] >>= _) _ E s
  refine wpAny_bind (show wpAny (model prog w) A (pure []) _ E s from wpAny_pure ?_)
  refine wpAny_bind (wpAny_pure ?_)
  refine wpAny_holding ?_
  refine wpAny_bind (wpAny_pure (wpAny_bind (wpAny_pure (wpAny_pure ?_))))
  exact ⟨rfl, rfl⟩
 refine wpAny_bind (wpAny_holding (wpAny_mono e (fun a s' z => ?_) fun u' u' z => z))
 obtain ⟨rfl, rfl⟩ := z
 refine wpAny_bind (wpAny_standAt ?_)
 refine wpAny_bind (L1.here ?_)
 refine wpAny_bind (wpAny_mono h (fun r s₂ hr => wpAny_bind (wpAny_holding (wpAny_point (wpAny_pure hr)))) fun u' u' x => x)
end
end
section
set_option tactic.hygienic true
section
variable {prog : Program} {w : World} {A₀ A : Around} {s : Shared} {base h₀ : Heap} {outer : List Env} {L : Addr} {m mg mb : Str → Option Value} {env : Env} {news : List (Addr × Obj)} {K : Frag} {p : Program} {loose : List Str} {mean : ExcName → Option Value}
 {R : Result → Shared → Prop} {name qual : Str} {params : Arguments} {body : List Stmt} {scope : Scope} {dV kV doc pm cdv ct oc : Value} {an od : Option Addr} {osl : Array (Option Value)} {f cc : Addr} {args : Args} {vs : List Value}
theorem bothCell_at {n1 n2 n3 : Str} {v1 : Value} {g₁ : Addr → Sem (List (Str × Value))} {g₂ : Addr → Addr → Sem (List (Str × Value))}
  (B : Below A₀ base outer h₀) (F : Fr h₀ L s.heap m) (X₀ : K.In h₀) (N : News h₀ L s.heap news) (T : Top p loose mean mg mb h₀) (hA : A.frames = some (env :: outer)) (hf : env.frame = some L) (hke : env.scope.kind = .function)
  (ho : K.lookup f = some ⟨oc, od, .func (ksFn name qual params body scope dV kV doc pm an cdv ct cc), osl⟩) (hcd : codeIn K cdv qual = true) (hroom : A.depth < recursionLimit)
  (hp : peekA K ⟨prog, w.params⟩ (bindArgs (ksFn name qual params body scope dV kV doc pm an cdv ct cc) args) = some (tupObj vs, g₁))
  (hp₂ : ∀ D, peekA K ⟨prog, w.params⟩ (g₁ D) = some (dictOf [] 0, g₂ D))
  (hk₂ : ∀ C D, g₂ C D = pure [(n1, v1), (n2, .ref C), (n3, .ref D)])
  (hcells : ∀ n, cellsFrom n scope.names [("__class__", cc)] = [(n3, n), ("__class__", cc)]) (hpush : ∀ h, pushCells h scope.names = h.push { cls := .type "cell", data := .cell none })
  (k1 : scope.names.lookup n1 = some .local) (k2 : scope.names.lookup n2 = some .local) (k3 : scope.names.lookup n3 = some .cell)
  (h : ∀ C D c o g L' h₁ tk, (∀ p ∈ news, p.1 < C) → C < D → D < c → L' < c → (D == sysModules) = false → o.data = .cell (some (.ref D)) → Fr h₀ L g m → Fr g L' h₁ (fun y => if y = n2 then some (.ref C) else if y = n1 then some v1 else none) →
   News g L' h₁ ((c, o) :: (D, dictOf [] 0) :: (C, tupObj vs) :: news) → Below A base (env :: outer) g → K.In g → Top p loose mean mg mb g →
   _root_.PySem.wpAt (model prog w) (A.deeper (envX qual scope L' f cdv [(n3, c), ("__class__", cc)])) (.func body (envX qual scope L' f cdv [(n3, c), ("__class__", cc)])) (execs body (envX qual scope L' f cdv [(n3, c), ("__class__", cc)]))
    (fun fl s' => LeaveK h₀ L m g R (match fl with | .ret v => v | _ => .none) s')
    (fun e s' => wpAny (model prog w) (A.deeper (envX qual scope L' f cdv [(n3, c), ("__class__", cc)])) (leaving (envX qual scope L' f cdv [(n3, c), ("__class__", cc)]) e) (fun u' s'' => R (.error e) s'') (fun e' s'' => R (.error e') s'') s')
    {s with heap := h₁, toks := tk })
  (hco : scope.isCoroutine = false := by rfl) (hgen : scope.isGenerator = false := by rfl) (hk : scope.kind = .function := by rfl) : codeAny (model prog w) A (.call (.ref f) args) R s := by
 refine codeAny_call_function (fd := ksFn name qual params body scope dV kV doc pm an cdv ct cc) (body := body) hroom ((X₀.keeps F.keep) _ _ ho) rfl hco hgen rfl (codeRec_of (X₀.keeps F.keep) hcd) ?_
 refine wp_of_peekA (o := tupObj vs) F N (X₀.keeps F.keep) rfl _ g₁ hp fun h' F' N' l => ?_
 refine wp_of_peekA (s := { s with heap := h' }) (o := dictOf [] 0) F' N' (X₀.keeps F'.keep) rfl _ (g₂ s.heap.objs.size) (hp₂ _) fun h'' F'' N'' l' => ?_
 rw [hk₂]
 refine wpAny_pure ?_
 exact frameCell (s := { s with heap := h'' }) B F'' N'' T.nolimit hA hf hke hcells hpush k1 k2 k3
  (fun g L' c o h₁ tk FG FL NG hd lc lL BG st => h _ _ c o g L' h₁ tk l (l' _ (.head _)) (lc _ (.head _)) lL (F'.notModules (modules_low T.nolimit)) hd FG FL NG BG (X₀.keeps st) (T.keeps st)) hk
end
section
variable {prog : Program} {w : World} {A : Around} {E : Value → Shared → Prop} {s : Shared} {h₀ : Heap} {L : Addr} {m mg mb : Str → Option Value} {news : List (Addr × Obj)} {K : Frag} {p : Program} {loose : List Str} {mean : ExcName → Option Value} {x C D f f2 cc cda so : Addr} {ox : Obj} {odx : Option Obj}
theorem super_node {body : List Stmt} {q : Str} {scope : Scope} {p0 p1 : Pos} {attr : Str} {whole : Sem Value} {fd : FuncData} {ar : Arg} {vs : Array Value} {file : Str} {tf : Tok} {oc ccl cl : Value} {od cdd cld : Option Addr} {osl ccs csl : Array (Option Value)} {cdD : ClassData} {cls : List (Str × Addr)} {self : Value} {Q : Value → Shared → Prop}
  (F : Fr h₀ L s.heap m) (X₀ : K.In h₀) (T : Top p loose mean mg mb h₀)
  (hf : K.lookup f = some ⟨oc, od, .func fd, osl⟩) (hp : (fd.params.posonlyargs ++ fd.params.args).head? = some ar) (hv : m ar.arg = some self)
  (hcode : K.lookup cda = some ⟨ccl, cdd, .fields vs, ccs⟩) (hvs : vs[2]? = some (.str file tf)) (hfile : ((prog.main.file : Str) == file) = true)
  (hcell : K.lookup cc = some ⟨cl, cld, .cell (some (.ref D)), csl⟩) (hD : clsIn K D = some cdD) (hsuper : nsIn K mainGlobals "super" = some none)
  (hat : (attr == ("__class__" : Str)) = false) (hks : scope.names.lookup ("super" : Str) = some .globalImplicit) (hkc : scope.names.lookup ("__class__" : Str) = some .free) (hka : scope.names.lookup ar.arg = some .local) (hk : scope.kind = .function)
  (htop : (prog.main.scope.names.lookup ("super" : Str)).isSome = false) (hboot : bootBuiltins "super" = some (.type "super")) (hcl : cls.lookup ("__class__" : Str) = some cc)
  (h : wpAny (model prog w) A (call (.type "super") [.ref D, self]) Q E s) :
  _root_.PySem.wpAt (model prog w) A (.func body (envX q scope L f (.ref cda) cls)) (attributeBase (.Call (.Name "super" p0) [] [] p1) attr (envX q scope L f (.ref cda) cls) whole) Q E s := by
 have X : K.In s.heap := X₀.keeps F.keep
 obtain ⟨hh, g, d, t, os⟩ := s
 obtain ⟨oD, hD1, hD2⟩ : ∃ oD, hh.get? D = some oD ∧ oD.data = .cls cdD := by
  delta clsIn at hD
  split at hD
  ·rename_i c d cd' sl ho
   cases hD
   exact ⟨_, X _ _ ho, rfl⟩
  ·cases hD
 refine ks_wpAt_super_base (env := envX q scope L f (.ref cda) cls) hks hkc hat rfl (X _ _ hf) rfl hp rfl (X _ _ hcode) rfl hvs hfile htop ?_
 refine ks_loadName_global hk hks (loadGlobal_builtin (env := envX q scope L f (.ref cda) cls) (T.g.keeps F.keep) (mg_none_of X₀ T.g hsuper) (T.b.keeps F.keep) ((T.builtins _ (by decide +kernel)).trans hboot) ⟨rfl, ?_⟩)
 refine wpAny_loadName_free hk hkc hcl ⟨_, X _ _ hcell, rfl⟩ ?_
 refine wpAny_loadName_local hk hka F.ns hv ?_
 exact ks_wpAny_isType_cls hD1 hD2 ⟨rfl, h⟩
theorem super_get {h : Heap} {g : Array GenState} {d : Drawn} {t : Nat} {os : OsState} {c0 a0 : Value} {rest : List Value} {ob : Value} {name : Str} {tk : Tok} {gv : Option Value} {ty : Value} {Q : Fin → Shared → Prop}
  (hso : h.get? so = some { cls := .type "super", dict := none, data := .fields #[.ref D, ob, .ref C], slots := #[] }) (hno : Looks (model prog w) h (opaqueClassAbove (.ref C)) none)
  {l₀ : List Value} (hC : Looks (model prog w) h (mroOf (.ref C)) l₀) (hl : (l₀.dropWhile (· != .ref D)).drop 1 = c0 :: rest)
  (hown : Looks (model prog w) h (classOwn c0 name) (some a0)) (hty : Looks (model prog w) h (typeOf a0) ty) (hg : Looks (model prog w) h (typeLookup ty "__get__") gv) (hn : (name == ("__class__" : Str)) = false)
  (hq : ∀ gg, gv = some gg → wpAny (model prog w) A (call gg [a0, if ob == .ref C then .none else ob, .ref C]) (fun v s' => Q (.done (.ret v)) s') E ⟨h, g, d, t, os⟩)
  (hq2 : gv = none → handedIn a0 = true ∧ Q (.done (.ret a0)) ⟨h, g, d, t, os⟩) :
  wpAny (model prog w) A (Builtin.«super.__getattribute__» ⟨[.ref so, .str name tk], []⟩) Q E ⟨h, g, d, t, os⟩ := by
 have hdt : ({ cls := .type "super", dict := none, data := .fields #[.ref D, ob, .ref C], slots := #[] } : Obj).data = .fields #[.ref D, ob, .ref C] := rfl
 have f0 : (#[.ref D, ob, .ref C] : Array Value)[0]? = some (.ref D) := rfl
 have f1 : (#[.ref D, ob, .ref C] : Array Value)[1]? = some ob := rfl
 have f2 : (#[.ref D, ob, .ref C] : Array Value)[2]? = some (.ref C) := rfl
 have ho : wpAny (model prog w) A (classOwn c0 name) (fun v s' => v = some a0 ∧ s' = ⟨h, g, d, t, os⟩) E ⟨h, g, d, t, os⟩ := hown.at ⟨rfl, rfl⟩
 delta Builtin.«super.__getattribute__»
 repeat (first
  | (with_reducible refine wpAny_field hso hdt f0 ?_) | (with_reducible refine wpAny_field hso hdt f1 ?_) | (with_reducible refine wpAny_field hso hdt f2 ?_)
  | (with_reducible refine ks_wpAny_notOpaque hno ?_)
  | (with_reducible refine Looks.at hC ?_; rw [hl])
  | (rw [List.forIn_cons]; refine wpAny_bind (wpAny_bind (wpAny_mono ho (fun v s' hv => ?_) fun u' u' z => z)); obtain ⟨rfl, rfl⟩ := hv)
  | (with_reducible refine Looks.at hty ?_)
  | (with_reducible refine Looks.at hg ?_)
  | (simp only [hn, Bool.or_false, Bool.false_eq_true, if_false])
  | wp_step
  | dsimp only)
 cases gv with
 | some gg => exact wpAny_bind (wpAny_holding (wpAny_mono (hq gg rfl) (fun v s' z => wpAny_bind (wpAny_pure (wpAny_pure (wpAny_pure (wpAny_pure z))))) fun u' u' z => z))
 | none =>
  obtain ⟨z1, z2⟩ := hq2 rfl
  dsimp only
  rw [handedOut_of z1]
  exact wpAny_bind (wpAny_pure (wpAny_bind (wpAny_pure (wpAny_pure (wpAny_pure (wpAny_pure z2))))))
theorem super_meth {h : Heap} {g : Array GenState} {d : Drawn} {t : Nat} {os : OsState} {c0 a0 ob ty : Value} {rest : List Value} {name : Str} {gv : Option Value} {pl : Sem Bool} {Q : Value × List Value → Shared → Prop}
  (hso : h.get? so = some { cls := .type "super", dict := none, data := .fields #[.ref D, ob, .ref C], slots := #[] }) (hno : Looks (model prog w) h (opaqueClassAbove (.ref C)) none)
  {l₀ : List Value} (hC : Looks (model prog w) h (mroOf (.ref C)) l₀) (hl : (l₀.dropWhile (· != .ref D)).drop 1 = c0 :: rest)
  (hown : Looks (model prog w) h (classOwn c0 name) (some a0)) (hty : Looks (model prog w) h (typeOf a0) ty) (hg : Looks (model prog w) h (typeLookup ty "__get__") gv) (hn : (name == ("__class__" : Str)) = false)
  (hq : ∀ gg, gv = some gg → wpAny (model prog w) A.in1 (call gg [a0, if ob == .ref C then .none else ob, .ref C]) (fun v s' => handedIn v = true ∧ Q (v, []) s') (fun u' u' => False) ⟨h, g, d, t + 1, os⟩)
  (hq2 : gv = none → handedIn a0 = true ∧ Q (a0, []) ⟨h, g, d, t + 1, os⟩) :
  wpAny (model prog w) A (getMethod (.ref so) name pl) Q E ⟨h, g, d, t, os⟩ := by
 have hlk := F.ks_slot_super_ga.lookup
 have hcan := F.ks_canon_super_ga
 have hT : ∀ t', (⟨h, g, d, t', os⟩ : Shared).TypeIs (.ref so) "super" := fun u' => ⟨_, hso, rfl⟩
 delta getMethod
 refine wpAny_bind (wpAny_specialOf (hT _) hlk ?_)
 show wpAny _ _ (if (Manifest.canonical "super.__getattribute__" != "object.__getattribute__") = true then _ else _) _ _ _
 refine w_if hcan ?_
 delta getAttr getAttrBy
 refine wpAny_bind (wpAny_bind (wpAny_mkText (wpAny_holding (wpAny_bind (wpAny_typeOf (hT _) (wpAny_bind (wpAny_of_eq hlk ?_)))))))
 show wpAny _ _ (getAttrByItsOwn (.ref so) (.str name t) (.type "super") (.builtin "super.__getattribute__") true false) _ _ _
 delta getAttrByItsOwn hookBefore callGetattribute boundAndCalled
 refine wpAny_bind (wpAny_of_eq (show (if onTheHeap (.type "super") then typeLookup (.type "super") "__getattr__" else pure none) = pure none from rfl) ?_)
 refine wpAny_bind (wpAny_attempt (wpAny_holding ?_))
 show wpAny _ _ (bindSpecial (.builtin "super.__getattribute__") (.ref so) >>= _) _ _ _
 refine wpAny_bind (wpAny_of_eq (F.ks_slot_super_ga.bind _) ?_)
 refine wpAny_mono (Q := fun v s' => handedIn v = true ∧ Q (v, []) s') (E := fun u' u' => False)
  (wpAny_call_entry F.ks_slot_super_ga (hT _) F.ks_entry_super_ga (super_get hso hno hC hl hown hty hg hn (fun gg e => wpAny_mono (hq gg e) (fun v s' z => ⟨_, rfl, z⟩) fun u' u' z => z) fun e => ⟨(hq2 e).1, _, rfl, (hq2 e).1, (hq2 e).2⟩) (F.ks_gaArgs_super _ _)) (fun v s' hv => ?_) fun u' u' z => z.elim
 show wpAny _ _ (handedOut v) _ _ _
 rw [handedOut_of hv.1]
 exact wpAny_pure (wpAny_pure hv.2)
theorem super_attr {h : Heap} {g : Array GenState} {d : Drawn} {t : Nat} {os : OsState} {c0 a0 ob ty : Value} {rest : List Value} {name : Str} {gv : Option Value} {ex : Bool} {Q : Value → Shared → Prop}
  (hso : h.get? so = some { cls := .type "super", dict := none, data := .fields #[.ref D, ob, .ref C], slots := #[] }) (hno : Looks (model prog w) h (opaqueClassAbove (.ref C)) none)
  {l₀ : List Value} (hC : Looks (model prog w) h (mroOf (.ref C)) l₀) (hl : (l₀.dropWhile (· != .ref D)).drop 1 = c0 :: rest)
  (hown : Looks (model prog w) h (classOwn c0 name) (some a0)) (hty : Looks (model prog w) h (typeOf a0) ty) (hg : Looks (model prog w) h (typeLookup ty "__get__") gv) (hn : (name == ("__class__" : Str)) = false)
  (hq : ∀ gg, gv = some gg → wpAny (model prog w) A.in1 (call gg [a0, if ob == .ref C then .none else ob, .ref C]) (fun v s' => handedIn v = true ∧ Q v s') (fun u' u' => False) ⟨h, g, d, t + 1, os⟩)
  (hq2 : gv = none → handedIn a0 = true ∧ Q a0 ⟨h, g, d, t + 1, os⟩) :
  wpAny (model prog w) A (getAttr (.ref so) name ex) Q E ⟨h, g, d, t, os⟩ := by
 have hlk := F.ks_slot_super_ga.lookup
 have hT : ∀ t', (⟨h, g, d, t', os⟩ : Shared).TypeIs (.ref so) "super" := fun u' => ⟨_, hso, rfl⟩
 delta getAttr getAttrBy
 refine (wpAny_bind (wpAny_mkText (wpAny_holding (wpAny_bind (wpAny_typeOf (hT _) (wpAny_bind (wpAny_of_eq hlk ?_)))))))
 show wpAny _ _ (getAttrByItsOwn (.ref so) (.str name t) (.type "super") (.builtin "super.__getattribute__") true ex) _ _ _
 delta getAttrByItsOwn hookBefore callGetattribute boundAndCalled
 refine wpAny_bind (wpAny_of_eq (show (if onTheHeap (.type "super") then typeLookup (.type "super") "__getattr__" else pure none) = pure none from rfl) ?_)
 refine wpAny_bind (wpAny_attempt (wpAny_holding ?_))
 refine w_else (by rw [show (ex && onTheHeap (Value.builtin "super.__getattribute__")) = false from by cases ex <;> rfl]; exact Bool.false_ne_true) ?_
 show wpAny _ _ (bindSpecial (.builtin "super.__getattribute__") (.ref so) >>= _) _ _ _
 refine wpAny_bind (wpAny_of_eq (F.ks_slot_super_ga.bind _) ?_)
 refine wpAny_mono (Q := fun v s' => handedIn v = true ∧ Q v s') (E := fun u' u' => False)
  (wpAny_call_entry F.ks_slot_super_ga (hT _) F.ks_entry_super_ga (super_get hso hno hC hl hown hty hg hn (fun gg e => wpAny_mono (hq gg e) (fun v s' z => ⟨_, rfl, z⟩) fun u' u' z => z) fun e => ⟨(hq2 e).1, _, rfl, (hq2 e).1, (hq2 e).2⟩) (F.ks_gaArgs_super _ _)) (fun v s' hv => ?_) fun u' u' z => z.elim
 show wpAny _ _ (handedOut v) _ _ _
 rw [handedOut_of hv.1]
 exact wpAny_pure hv.2
theorem fnGet {h : Heap} {g : Array GenState} {d : Drawn} {t : Nat} {os : OsState} {of : Obj} {self : Value} {Q : Value → Shared → Prop} (hfo : h.get? f = some of) (hfc : of.cls = .type "function") (hs : (self == .none) = false)
  (hq : Q (.ref h.objs.size) ⟨h.push { cls := .type "method", data := .fields #[.ref f, self] }, g, d, t, os⟩) :
  wpAny (model prog w) A (call (.builtin "function.__get__") [.ref f, self, .ref C]) Q E ⟨h, g, d, t, os⟩ := by
 have hTf : (⟨h, g, d, t, os⟩ : Shared).TypeIs (.ref f) "function" := ⟨_, hfo, hfc⟩
 refine wpAny_call_entry F.ks_slot_function_get hTf F.ks_entry_function_get ?_ (F.ks_getArgs_function _ _ _)
 delta Builtin.«function.__get__»
 repeat (first | (with_reducible refine ⟨_, rfl, ?_⟩) | exact hq | refine w_else (by rw [hs]; exact Bool.false_ne_true) ?_ | simp only [hs, Bool.false_eq_true, if_false] | wp_step | dsimp only)
theorem attr_own {h : Heap} {g : Array GenState} {d : Drawn} {t : Nat} {os : OsState} {ga : String} {name : Str} {ex : Bool} {Q : Value → Shared → Prop}
  (hty : Looks (model prog w) h (typeOf (.ref x)) (.ref C)) (hlk : Looks (model prog w) h (typeLookup (.ref C) "__getattribute__") (some (.builtin ga))) (hne : (Value.builtin ga == .builtin "object.__getattribute__") = false)
  (hgt : Looks (model prog w) h (typeLookup (.ref C) "__getattr__") none) (hb : bindSpecial (.builtin ga) (.ref x) = pure (.builtin ga, [.ref x]))
  (hq : wpAny (model prog w) A (call (.builtin ga) [.ref x, .str name t]) (fun v s' => handedIn v = true ∧ Q v s') (fun u' u' => False) ⟨h, g, d, t + 1, os⟩) :
  wpAny (model prog w) A (getAttr (.ref x) name ex) Q E ⟨h, g, d, t, os⟩ := by
 delta getAttr getAttrBy
 refine wpAny_bind (wpAny_mkText (wpAny_holding (wpAny_bind (hty.at (wpAny_bind (hlk.at ?_))))))
 dsimp only
 rw [hne, Bool.and_false, if_neg Bool.false_ne_true]
 delta getAttrByItsOwn hookBefore callGetattribute boundAndCalled
 refine wpAny_bind (show wpAny _ _ (typeLookup (.ref C) "__getattr__") _ _ _ from hgt.at ?_)
 refine wpAny_bind (wpAny_attempt (wpAny_holding ?_))
 rw [if_neg (by rw [show (ex && onTheHeap (Value.builtin ga)) = false from by cases ex <;> rfl]; exact Bool.false_ne_true), hb]
 refine wpAny_bind (wpAny_pure ?_)
 refine wpAny_mono hq (fun v s' hv => ?_) fun u' u' z => z.elim
 show wpAny _ _ (handedOut v) _ _ _
 rw [handedOut_of hv.1]
 exact wpAny_pure hv.2
end
end
section
section
variable {prog : Program} {w : World} {A : Around} {h₀ : Heap} {L : Addr} {m : Str → Option Value}
theorem frMove {h h' : Heap} {S : List Addr} (F : Fr h₀ L h m) (hL : L ∉ S) (hS : ∀ b ∈ S, h₀.get? b = none) (k : ∀ b o, b ∉ S → h.get? b = some o → h'.get? b = some o) : Fr h₀ L h' m := by
 obtain ⟨oL, es, ep, hLo, r⟩ := F.ns
 refine ⟨⟨oL, es, ep, k L oL hL hLo, r⟩, fun b o e => k b o (fun hb => ?_) (F.keep b o e), F.above⟩
 rw [hS b hb] at e; cases e
noncomputable def EltOK (prog : Program) (w : World) (A : Around) (h₀ : Heap) (L : Addr) (m : Str → Option Value) (Rel : Value → Value → List (Addr × Obj) → Prop) (env' : Env) (elt : PySem.Expr) (v : Value) (s₃ : Shared) : Prop :=
 ∀ (Q' E' : Value → Shared → Prop), (∀ y objs h' tk', Rel v y objs → (∀ p ∈ objs, s₃.heap.get? p.1 = none ∧ h'.get? p.1 = some p.2) → Fr h₀ L h' m → (∀ b o, b ≠ L → s₃.heap.get? b = some o → h'.get? b = some o) → Q' y { s₃ with heap := h', toks := tk' }) →
  wpAny (model prog w) A (eval elt env') Q' E' s₃
noncomputable def ObjAt (S : List Addr) (s0 : Heap) (Rel : Value → Value → List (Addr × Obj) → Prop) (h : Heap) (v y : Value) : Prop :=
 ∃ objs, Rel v y objs ∧ ∀ p ∈ objs, s0.get? p.1 = none ∧ p.1 ∉ S ∧ h.get? p.1 = some p.2
theorem ObjAt.keep {S : List Addr} {s0 h h' : Heap} {Rel : Value → Value → List (Addr × Obj) → Prop} {v y : Value} (x : ObjAt S s0 Rel h v y) (k : ∀ b o, b ∉ S → h.get? b = some o → h'.get? b = some o) : ObjAt S s0 Rel h' v y := by
 obtain ⟨objs, hr, ho⟩ := x
 exact ⟨objs, hr, fun p hp => ⟨(ho p hp).1, (ho p hp).2.1, k _ _ (ho p hp).2.1 (ho p hp).2.2⟩⟩
theorem noneSome {h : Heap} {a b : Addr} {o : Obj} (ha : h.get? a = none) (hb : h.get? b = some o) : a ≠ b := fun e => by rw [e, hb] at ha; cases ha
structure SrcP (prog : Program) (w : World) (ax : Addr) (fp : List Addr) (n : Nat) (P : Nat → Value → Prop) (IsIt : Heap → Addr → Nat → Prop) (io : Obj) (Ok : Heap → Prop) : Prop where
 walks : ∀ (A : Around), A.handled = none → ∀ I, I ∉ fp → Walks prog w A I (I :: fp) [I] n P (fun i h => IsIt h I i)
 itAt : ∀ {h h' : Heap} {I : Addr} {i : Nat}, IsIt h I i → (∀ b, b = I ∨ b ∈ fp → ∀ o, h.get? b = some o → h'.get? b = some o) → IsIt h' I i
 itHas : ∀ {h : Heap} {I : Addr} {i : Nat}, IsIt h I i → ∃ o, h.get? I = some o
 start : ∀ {h h' : Heap} {I : Addr}, Ok h → (∀ b ∈ fp, ∀ o, h.get? b = some o → h'.get? b = some o) → h'.get? I = some io → IsIt h' I 0
 has : ∀ {h : Heap}, Ok h → ∀ b ∈ fp, ∃ o, h.get? b = some o
 alive : io.isFreed = false
 iter : ∀ {A : Around} {E Q : Value → Shared → Prop} {s : Shared}, Ok s.heap → Q (.ref s.heap.objs.size) { s with heap := s.heap.push io } → wpAny (model prog w) A (pyIter (.ref ax)) Q E s
 again : ∀ {A : Around} {E Q : Value → Shared → Prop} {s : Shared} {I : Addr} {i : Nat}, IsIt s.heap I i → Q (.ref I) s → wpAny (model prog w) A (pyIter (.ref I)) Q E s
noncomputable def Seen (P : Nat → Value → Prop) (vs : List Value) : Prop := ∀ (j : Nat) (v : Value), vs[j]? = some v → P j v
theorem Seen.snoc {P : Nat → Value → Prop} {vs : List Value} {v : Value} (h : Seen P vs) (hv : P vs.length v) : Seen P (vs ++ [v]) := fun j u e => by
 rcases Nat.lt_or_ge j vs.length with hj | hj
 ·rw [List.getElem?_append_left hj] at e; exact h j u e
 ·rw [List.getElem?_append_right hj] at e
  obtain ⟨hk, e2⟩ := List.getElem?_eq_some_iff.mp e
  have hk : j - vs.length < 1 := by simpa using hk
  have hj0 : j = vs.length := by lia
  subst hj0
  simp at e2
  exact e2 ▸ hv
theorem seen_eq {us vs : List Value} (hl : us.length = vs.length) (h : Seen (fun i v => vs[i]? = some v) us) : us = vs := List.ext_getElem? fun i => by
 cases e : us[i]? with
 | none => exact (List.getElem?_eq_none (hl ▸ List.getElem?_eq_none_iff.mp e)).symm
 | some v => exact (h i v e).symm
inductive InvP (h₀ : Heap) (L : Addr) (m : Str → Option Value) (S : List Addr) (s : Shared) (C D I : Addr) (n : Nat) (P : Nat → Value → Prop) (Rel : Value → Value → List (Addr × Obj) → Prop) (IsIt : Heap → Addr → Nat → Prop) (k : Nat) (s' : Shared) : Prop
 | mk (H : Heap) (tk : Nat) (m' : Str → Option Value) (ys : Array Value) (i : Nat) (vs : List Value) (hs : s' = { s with heap := H, toks := tk }) (it : IsIt H I i) (acc : H.PlainList D ys) (hn : H.Ns C m') (F : Fr h₀ L H m) (hv : vs.length = i) (sn : Seen P vs)
  (hP : Paired (ObjAt S s.heap Rel H) vs ys.toList) (hi : i ≤ n) (hk : k = n + 1 - i) (keep : ∀ b o, b ∉ S → s.heap.get? b = some o → H.get? b = some o)
theorem forIn_nil_wp {M : Model} {A : Around} {α β : Type} {b : β} {f : α → β → Sem (ForInStep β)} {Q : β → Shared → Prop} {E : Value → Shared → Prop} {s : Shared} (h : Q b s) : wpAny M A (forIn ([] : List α) b f) Q E s := by
 rw [List.forIn_nil]
 exact wpAny_pure h
theorem compLoopP {R : Result → Shared → Prop} {s : Shared} {elt iter : PySem.Expr} {x : Str} {px : Pos} {scope : Scope} {pos : Pos} {I ax D : Addr} {cenv : Env} {mc : Str → Option Value} {fp : List Addr} {n : Nat} {P : Nat → Value → Prop} {Rel : Value → Value → List (Addr × Obj) → Prop} {IsIt : Heap → Addr → Nat → Prop} {io : Obj} {Ok : Heap → Prop} (S : SrcP prog w ax fp n P IsIt io Ok)
  (hh : A.handled = none)
  (hx : cenv.kindOf x = some .local) (hp : (cenv.scope.kind == .class || (cenv.scope.kind == .module && cenv.locals != cenv.globals)) = false)
  (hDC : D ≠ cenv.locals) (hDI : D ≠ I) (hCI : cenv.locals ≠ I) (hLC : L ≠ cenv.locals) (hLD : L ≠ D) (hLI : L ≠ I)
  (hfp : ∀ b ∈ fp, b ≠ I ∧ b ≠ cenv.locals ∧ b ≠ D ∧ b ≠ L) (gC : h₀.get? cenv.locals = none) (gD : h₀.get? D = none) (gI : h₀.get? I = none)
  (hit : IsIt s.heap I 0) (hacc : s.heap.PlainList D #[]) (hn : s.heap.Ns cenv.locals mc) (F : Fr h₀ L s.heap m)
  (helt : ∀ i v h₃ tk₃ m₃, i < n → P i v → h₃.Ns cenv.locals m₃ → m₃ x = some v → Fr h₀ L h₃ m → (∀ b o, b ∉ [L, cenv.locals, I, D] → s.heap.get? b = some o → h₃.get? b = some o) → EltOK prog w A h₀ L m Rel cenv elt v { s with heap := h₃, toks := tk₃ })
  (hR : ∀ vs h' tk m' ys, vs.length = n → Seen P vs → h'.Ns cenv.locals m' → h'.PlainList D ys → Fr h₀ L h' m → Paired (ObjAt [L, cenv.locals, I, D] s.heap Rel h') vs ys.toList → (∀ b o, b ∉ [L, cenv.locals, I, D] → s.heap.get? b = some o → h'.get? b = some o) → R (.ok .next) { s with heap := h', toks := tk })
  (hsz : n ≤ sizeLine) :
  codeAny (model prog w) A (.compLoop (.ListComp elt [⟨.Name x px, iter, [], 0⟩] scope pos) 0 (.ref I) (.ref D) cenv) R s := by
 have W := S.walks A hh I fun h => (hfp I h).1 rfl
 have kf : ∀ b, b = I ∨ b ∈ fp → b ≠ cenv.locals ∧ b ≠ D ∧ b ≠ L := fun b hb => hb.elim (fun e => e ▸ ⟨Ne.symm hCI, Ne.symm hDI, Ne.symm hLI⟩) fun h => (hfp b h).2
 refine codeAny_compLoop_tests
  (InvP h₀ L m [L, cenv.locals, I, D] s cenv.locals D I n P Rel IsIt) ?_ (n + 1)
  ⟨s.heap, s.toks, mc, #[], 0, [], rfl, hit, hacc, hn, F, rfl, (fun j v e => by simp at e), by simpa using Paired.nil, Nat.zero_le _, rfl, fun u' u' u' e => e⟩
 rintro k s' ⟨H, tk, m', ys, i, vs, rfl, hst, hacc', hn', F', hvi, hsn, hF, hi, rfl, hk⟩
 have inS : ∀ b, b ∉ [L, cenv.locals, I, D] → b ≠ L ∧ b ≠ cenv.locals ∧ b ≠ I ∧ b ≠ D := fun b hb => by simpa using hb
 by_cases hlt : i < n
 ·refine W.item i _ _ _ hlt hst fun v h₁ tk₁ hPv hst₁ hk₁ => ?_
  have hk₁' : ∀ b o, b ≠ I → H.get? b = some o → h₁.get? b = some o := fun b o hb e => hk₁ b o (by simpa using hb) e
  refine wpAny_assign_Name (wpAny_storeName_local hx (hn'.at' fun o e => hk₁' _ o hCI e) (fun h₂ hn₂ hs₂ => ?_) hp)
  have up₂ : ∀ b o, b ≠ cenv.locals → b ≠ I → H.get? b = some o → h₂.get? b = some o := fun b o hbC hbI e => hs₂.extBut b o hbC (hk₁' b o hbI e)
  have F₂ : Fr h₀ L h₂ m := frMove (S := [cenv.locals, I]) F' (by simpa using ⟨hLC, hLI⟩) (fun b hb => by
   rcases List.mem_cons.mp hb with rfl | hb
   ·exact gC
   ·rcases List.mem_singleton.mp hb with rfl; exact gI) (fun b o hb e => up₂ b o (by intro q; exact hb (by simp [q])) (by intro q; exact hb (by simp [q])) e)
  refine forIn_nil_wp ?_
  refine helt i v h₂ _ _ hlt hPv hn₂ (by simp) F₂ (fun b o hb e => up₂ b o (inS b hb).2.1 (inS b hb).2.2.1 (hk b o hb e)) _ _ (fun y objs h₄ tk₄ hrel hobj F₄ hk₄ => ?_)
  have acc₂ : h₂.PlainList D ys := hacc'.at fun o e => up₂ D o hDC hDI e
  have acc₄ : h₄.PlainList D ys := acc₂.at fun o e => hk₄ D o (Ne.symm hLD) e
  have n₄ := hn₂.at' (h' := h₄) fun o e => hk₄ _ o (Ne.symm hLC) e
  have hys : ys.size ≤ sizeLine := by
   have e1 := hF.length
   have e4 : ys.toList.length = ys.size := by simp
   lia
  refine wpAny_list_append_plain (hsz := hys) acc₄ fun h₅ hl₅ hs₅ => ?_
  have it₄ : IsIt h₂ I (i + 1) := S.itAt hst₁ fun b hb o e => hs₂.extBut b o (kf b hb).1 e
  refine ⟨n + 1 - (i + 1), by lia, h₅, tk₄, _, ys.push y, i + 1, vs ++ [v], rfl, S.itAt (S.itAt it₄ fun b hb o e => hk₄ b o (kf b hb).2.2 e) fun b hb o e => hs₅.extBut b o (kf b hb).2.1 e,
   hl₅, n₄.sameBut hs₅ (Ne.symm hDC), frMove (S := [D]) F₄ (by simpa using hLD) (fun b hb => by rcases List.mem_singleton.mp hb with rfl; exact gD) (fun b o hb e => hs₅.extBut b o (by simpa using hb) e), by simp [hvi], hsn.snoc (by rw [hvi]; exact hPv), ?_, hlt, rfl,
   fun b o hb e => hs₅.extBut b o (inS b hb).2.2.2 (hk₄ b o (inS b hb).1 (up₂ b o (inS b hb).2.1 (inS b hb).2.2.1 (hk b o hb e)))⟩
  have hF₅ := hF.mono (F' := ObjAt [L, cenv.locals, I, D] s.heap Rel h₅) fun u' u' hy => hy.keep fun b o hb e => hs₅.extBut b o (inS b hb).2.2.2 (hk₄ b o (inS b hb).1 (up₂ b o (inS b hb).2.1 (inS b hb).2.2.1 e))
  have hy₅ : ObjAt [L, cenv.locals, I, D] s.heap Rel h₅ v y := by
   refine ⟨objs, hrel, fun p hp => ?_⟩
   obtain ⟨p1, p2⟩ := hobj p hp
   have nC : p.1 ≠ cenv.locals := by obtain ⟨o, _, _, ho, _⟩ := hn₂; exact noneSome p1 ho
   have nL : p.1 ≠ L := by obtain ⟨o, _, _, ho, _⟩ := F₂.ns; exact noneSome p1 ho
   have nD : p.1 ≠ D := by obtain ⟨_, ho⟩ := acc₂; exact noneSome p1 ho
   have nI : p.1 ≠ I := by obtain ⟨o, ho⟩ := S.itHas it₄; exact noneSome p1 ho
   refine ⟨?_, by simp [nC, nL, nD, nI], hs₅.extBut p.1 p.2 nD p2⟩
   cases z : s.heap.get? p.1 with
   | none => rfl
   | some o =>
    have := up₂ p.1 o nC nI (hk p.1 o (by simp [nC, nL, nD, nI]) z)
    exact absurd rfl (noneSome p1 this)
  simpa using Paired.snoc hF₅ hy₅
 ·have hin : i = n := by lia
  subst hin
  refine W.done _ _ _ hst fun h₁ tk₁ hk₁ => ?_
  have hk₁' : ∀ b o, b ≠ I → H.get? b = some o → h₁.get? b = some o := fun b o hb e => hk₁ b o (by simpa using hb) e
  exact hR vs h₁ tk₁ m' ys hvi hsn (hn'.at' fun o e => hk₁' _ o hCI e) (hacc'.at fun o e => hk₁' _ o hDI e) (frMove (S := [I]) F' (by simpa using hLI) (fun b hb => by rcases List.mem_singleton.mp hb with rfl; exact gI) (fun b o hb e => hk₁' b o (by simpa using hb) e))
   (hF.mono fun u' u' hy => hy.keep fun b o hb e => hk₁' b o (inS b hb).2.2.1 e) fun b o hb e => hk₁' b o (inS b hb).2.2.1 (hk b o hb e)
theorem compBlockP {E : Value → Shared → Prop} {s₁ : Shared} {elt iter : PySem.Expr} {x : Str} {px : Pos} {scope : Scope} {cl : List (Str × Addr)} {pos : Pos} {env : Env} {ax : Addr} {fp : List Addr} {n : Nat} {P : Nat → Value → Prop} {Rel : Value → Value → List (Addr × Obj) → Prop} {RR : Value → Addr → Result → Shared → Prop} {IsIt : Heap → Addr → Nat → Prop} {io : Obj} {Ok : Heap → Prop} (S : SrcP prog w ax fp n P IsIt io Ok)
  (hh : A.handled = none) (hcell : ∀ y ∈ scope.names, y.2 ≠ .cell) (hkind : scope.kind = .function) (hx : scope.names.lookup x = some .local)
  (hok : Ok s₁.heap) (hfL : L ∉ fp) (F : Fr h₀ L s₁.heap m) (hsz : n ≤ sizeLine)
  (helt : ∀ C i v h₃ tk₃ m₃, i < n → P i v → s₁.heap.get? C = none → h₃.Ns C m₃ → m₃ x = some v → Fr h₀ L h₃ m → (∀ b o, b ≠ L → s₁.heap.get? b = some o → h₃.get? b = some o) → EltOK prog w A h₀ L m Rel (compEnvC scope cl C env) elt v { s₁ with heap := h₃, toks := tk₃ })
  (hRR : ∀ vs D C h' tk m' ys, vs.length = n → Seen P vs → s₁.heap.get? D = none → s₁.heap.get? C = none → D ≠ C → h'.Ns C m' → h'.PlainList D ys → Fr h₀ L h' m → Paired (ObjAt [L, D, C] s₁.heap Rel h') vs ys.toList → (∀ b o, b ≠ L → s₁.heap.get? b = some o → h'.get? b = some o) → RR (.ref D) C (.ok .next) { s₁ with heap := h', toks := tk }) :
  wpAny (model prog w) A (newList []) (fun acc s₃ => wpAny (model prog w) A (newFunctionEnv scope env.globals cl [] env.qual none .none (some env)) (fun cenv s₄ =>
   codeAny (model prog w) A (.compStart (.ListComp elt [⟨.Name x px, iter, [], 0⟩] scope pos) 0 (.ref s₁.heap.objs.size) acc { cenv with scope := relabel scope env }) (RR acc cenv.locals) s₄) E s₃) E
   {s₁ with heap := s₁.heap.push io } := by
 have hLlt : L < s₁.heap.objs.size := F.ns.lt
 generalize hH1 : s₁.heap.push io = H1
 have z1 : H1.objs.size = s₁.heap.objs.size + 1 := by rw [← hH1, Heap.size_push]
 refine wpAny_newObj_type (wpAny_newFunctionEnv hcell (by intro y hy; simp at hy) (fun h₁ hns₁ hsb₁ => ?_) hkind)
 dsimp only at hns₁ hsb₁ ⊢
 generalize hH2 : H1.push { cls := .type "list", dict := none, data := .seq ([] : List Value).toArray } = H2 at hns₁ hsb₁ ⊢
 have hC : H2.objs.size = s₁.heap.objs.size + 2 := by rw [← hH2, Heap.size_push, z1]
 have up1 : ∀ b o, s₁.heap.get? b = some o → H1.get? b = some o := fun b o e => hH1 ▸ Heap.get?_push_of_some _ e
 have upA : ∀ b o, b ≠ H2.objs.size → H1.get? b = some o → h₁.get? b = some o := fun b o hb e => hsb₁.extBut b o hb (Heap.get?_push_of_some _ (hH2 ▸ Heap.get?_push_of_some _ e))
 have old : ∀ b o, s₁.heap.get? b = some o → h₁.get? b = some o := fun b o e => upA b o (by have := Heap.lt_size e; rw [hC]; exact Nat.ne_of_lt (Nat.lt_of_lt_of_le this (Nat.le_add_right _ _))) (up1 b o e)
 have big : ∀ a, s₁.heap.objs.size ≤ a → s₁.heap.get? a = none := fun a ha => by
  cases e : s₁.heap.get? a with
  | none => rfl
  | some o' => exact absurd (Heap.lt_size e) (Nat.not_lt.mpr ha)
 have g0 : ∀ a, s₁.heap.get? a = none → h₀.get? a = none := fun a ha => by
  cases e : h₀.get? a with
  | none => rfl
  | some o' => rw [F.keep _ _ e] at ha; cases ha
 have nC := big H2.objs.size (by rw [hC]; exact Nat.le_add_right _ _)
 have nD := big H1.objs.size (by rw [z1]; exact Nat.le_add_right _ _)
 have nI := big s₁.heap.objs.size (Nat.le_refl _)
 have dDC : H1.objs.size ≠ H2.objs.size := by rw [z1, hC]; exact fun e => absurd e (by simp)
 have dDI : H1.objs.size ≠ s₁.heap.objs.size := by rw [z1]; exact Nat.succ_ne_self _
 have dCI : H2.objs.size ≠ s₁.heap.objs.size := by rw [hC]; exact fun e => absurd e (by simp)
 have hacc : h₁.PlainList H1.objs.size #[] := ⟨_, hsb₁.extBut _ _ dDC (Heap.get?_push_of_some _ (hH2 ▸ Heap.get?_push_size _ rfl))⟩
 have hit : IsIt h₁ s₁.heap.objs.size 0 := S.start hok (fun b u' => old b) (upA _ _ (Ne.symm dCI) (hH1 ▸ Heap.get?_push_size _ S.alive))
 have F1 : Fr h₀ L h₁ m := ⟨F.ns.keeps old, fun b o e => old b o (F.keep b o e), F.above⟩
 have ne : ∀ a b : Addr, a < s₁.heap.objs.size → s₁.heap.objs.size ≤ b → a ≠ b := fun a b h1 h2 => Nat.ne_of_lt (Nat.lt_of_lt_of_le h1 h2)
 have sC : s₁.heap.objs.size ≤ H2.objs.size := by rw [hC]; exact Nat.le_add_right _ _
 have sD : s₁.heap.objs.size ≤ H1.objs.size := by rw [z1]; exact Nat.le_add_right _ _
 have fps : ∀ b ∈ fp, b < s₁.heap.objs.size := fun b hb => by obtain ⟨_, e⟩ := S.has hok b hb; exact Heap.lt_size e
 have loop : ∀ s₃ : Shared, s₃ = { s₁ with heap := h₁, toks := s₁.toks + ([] : List (Str × Value)).length } →
   codeAny (model prog w) A (.compLoop (.ListComp elt [⟨.Name x px, iter, [], 0⟩] scope pos) 0 (.ref s₁.heap.objs.size) (.ref H1.objs.size) (compEnvC scope cl H2.objs.size env)) (RR (.ref H1.objs.size) H2.objs.size) s₃ := by
  rintro s₃ rfl
  refine compLoopP S (cenv := compEnvC scope cl H2.objs.size env) (ax := ax) (L := L) (m := m) (h₀ := h₀) (Rel := Rel) hh (lookup_relabel_local hx) (by simp [compEnvC, relabel, hkind]) dDC dDI dCI (ne L _ hLlt sC) (ne L _ hLlt sD) (ne L _ hLlt (Nat.le_refl _)) (fun b hb => ⟨ne b _ (fps b hb) (Nat.le_refl _), ne b _ (fps b hb) sC, ne b _ (fps b hb) sD, fun e => hfL (e ▸ hb)⟩) (g0 _ nC) (g0 _ nD) (g0 _ nI)
   hit hacc hns₁ F1 (fun i v h₃ tk₃ m₃ hi hv hn hm F3 hk => ?_) (fun vs h' tk m' ys hvn hsn hn hpl F3 hP hk => ?_) hsz
  ·refine helt H2.objs.size i v h₃ tk₃ m₃ hi hv nC hn hm F3 (fun b o hb e => hk b o ?_ (old b o e))
   have := Heap.lt_size e
   simp [hb, ne b _ this sC, ne b _ this sD, ne b _ this (Nat.le_refl _), compEnvC]
  ·refine hRR vs _ _ h' tk m' ys hvn hsn nD nC dDC hn hpl F3 (hP.mono fun u' u' hy => ?_) (fun b o hb e => hk b o ?_ (old b o e))
   ·obtain ⟨objs, hr, ho⟩ := hy
    refine ⟨objs, hr, fun p hp => ?_⟩
    refine ob0_3 (ho p hp) fun q1 q2 q3 => ?_
    simp only [List.mem_cons, List.not_mem_nil, or_false, not_or, compEnvC] at q2
    refine ⟨?_, by simp [q2], q3⟩
    cases e : s₁.heap.get? p.1 with
    | none => rfl
    | some o' => rw [old _ _ e] at q1; cases q1
   ·have := Heap.lt_size e
    simp [hb, ne b _ this sC, ne b _ this sD, ne b _ this (Nat.le_refl _), compEnvC]
 exact codeAny_compStart_list (loop _ rfl) (S.again hit (loop _ rfl))
inductive CompP (prog : Program) (w : World) (A : Around) (h₀ : Heap) (L : Addr) (m : Str → Option Value) (Rel : Value → Value → List (Addr × Obj) → Prop) (scope : Scope) (cl : List (Str × Addr)) (env : Env) (elt : PySem.Expr) (x : Str) (mD : Addr → Str → Option Value) (QD : Addr → Shared → Prop) (xv : Value) (s₁ : Shared) : Prop
 | mk (ax : Addr) (fp : List Addr) (n : Nat) (P : Nat → Value → Prop) (IsIt : Heap → Addr → Nat → Prop) (io : Obj) (Ok : Heap → Prop) (e : xv = .ref ax) (S : SrcP prog w ax fp n P IsIt io Ok) (hok : Ok s₁.heap) (hfL : L ∉ fp) (hsz : n ≤ sizeLine) (F : Fr h₀ L s₁.heap m)
  (helt : ∀ C i v h₃ tk₃ m₃, i < n → P i v → s₁.heap.get? C = none → h₃.Ns C m₃ → m₃ x = some v → Fr h₀ L h₃ m → (∀ b o, b ≠ L → s₁.heap.get? b = some o → h₃.get? b = some o) → EltOK prog w A h₀ L m Rel (compEnvC scope cl C env) elt v { s₁ with heap := h₃, toks := tk₃ })
  (hQ : ∀ vs D h' tk ys, vs.length = n → Seen P vs → s₁.heap.get? D = none → D ≠ L → h'.PlainList D ys → Fr h₀ L h' (mD D) → Paired (ObjAt [L, D] s₁.heap Rel h') vs ys.toList → (∀ b o, b ≠ L → s₁.heap.get? b = some o → h'.get? b = some o) → QD D { s₁ with heap := h', toks := tk })
inductive CompH (prog : Program) (w : World) (A : Around) (h₀ : Heap) (L : Addr) (m : Str → Option Value) (Rel : Value → Value → List (Addr × Obj) → Prop) (scope : Scope) (cl : List (Str × Addr)) (env : Env) (elt : PySem.Expr) (x : Str) (mD : Addr → Str → Option Value) (QD : Addr → Shared → Prop) (xv : Value) (s₁ : Shared) : Prop
 | mk (ax : Addr) (vs : List Value) (e : xv = .ref ax) (hl : s₁.heap.IsList ax vs.toArray) (hsz : vs.length ≤ sizeLine) (F : Fr h₀ L s₁.heap m) (hax : ax ≠ L)
  (helt : ∀ C v h₃ tk₃ m₃, v ∈ vs → s₁.heap.get? C = none → h₃.Ns C m₃ → m₃ x = some v → Fr h₀ L h₃ m → (∀ b o, b ≠ L → s₁.heap.get? b = some o → h₃.get? b = some o) → EltOK prog w A h₀ L m Rel (compEnvC scope cl C env) elt v { s₁ with heap := h₃, toks := tk₃ })
  (hQ : ∀ D h' tk ys, s₁.heap.get? D = none → D ≠ L → h'.PlainList D ys → Fr h₀ L h' (mD D) → Paired (ObjAt [L, D] s₁.heap Rel h') vs ys.toList → (∀ b o, b ≠ L → s₁.heap.get? b = some o → h'.get? b = some o) → QD D { s₁ with heap := h', toks := tk })
theorem assignCompP {E : Value → Shared → Prop} {s : Shared} {elt iter : PySem.Expr} {x y : Str} {px py : Pos} {scope : Scope} {cl : List (Str × Addr)} {pos spos : Pos} {env : Env} {Q : Flow → Shared → Prop} (Rel : Value → Value → List (Addr × Obj) → Prop)
  (hsw : swapsWith (.ListComp elt [⟨.Name x px, iter, [], 0⟩] scope pos) (some (.Name y py)) spos.line env = pure true) (hL : env.locals = L)
  (hh : A.handled = none) (hclos : closureFor scope env = pure cl) (hcell : ∀ y ∈ scope.names, y.2 ≠ .cell) (hkind : scope.kind = .function)
  (hnames : ∀ y ∈ scope.names, y.2 = .local → scope.names.lookup y.1 = some .local) (hx : scope.names.lookup x = some .local)
  (hy : env.kindOf y = some .local) (hp : (env.scope.kind == .class || (env.scope.kind == .module && env.locals != env.globals)) = false) (hs : ∀ x, foldedSetIterable iter env x = pure x) (_F : Fr h₀ L s.heap m)
  (h : wpAny (model prog w) A (eval iter env) (fun xv s₁ => Hold (CompP prog w A h₀ L m Rel scope cl env elt x (fun D z => if z = y then some (.ref D) else m z) (fun u' s' => Q .next s') xv s₁)) E s) :
  wpAny (model prog w) A (exec (.Assign [.Name y py] (.ListComp elt [⟨.Name x px, iter, [], 0⟩] scope pos) spos) env) Q E s := by
 subst hL
 rw [exec_Assign_Name_used _ _ _ _ hsw]
 refine wpAny_bind (wpAny_standAt (wpAny_bind ?_))
 show wpAny _ A (do let _ ← comprehension (.ListComp elt [⟨.Name x px, iter, [], 0⟩] scope pos) scope env _ (newList []) false (eval iter env) (some (assign (.Name y py) env))) _ _ s
 refine wpAny_bind (wpAny_mono (wpAny_comprehension_free (use := some (assign (.Name y py) env)) (Q := fun u' s' => Q .next s') rfl hs hclos hkind hnames
  (wpAny_mono h (fun xv s₁ h₁ => ?_) fun u' u' e => e)) (fun u' s' hq => wpAny_pure (wpAny_pure hq)) fun u' u' e => e)
 unfold Hold at h₁
 obtain ⟨ax, fp, n, P, IsIt, io, Ok, eq6, S, hok, hfL, hsz, F, helt, hQ⟩ := h₁
 subst eq6
 refine S.iter hok ?_
 refine compBlockP S (Rel := Rel) (RR := fun acc C => compPost (model prog w) A E (some (assign (.Name y py) env)) (fun u' s' => Q .next s') acc C) hh hcell hkind hx hok hfL F hsz helt ?_
 intro vs D C h' tk m' ys hvn hsn hD hC hDC hn hpl F' hP hk
 have hCL : C ≠ env.locals := by obtain ⟨o, _, _, ho, _⟩ := F.ns; exact noneSome hC ho
 have hDL : D ≠ env.locals := by obtain ⟨o, _, _, ho, _⟩ := F.ns; exact noneSome hD ho
 have gC : h₀.get? C = none := by
  cases e : h₀.get? C with
  | none => rfl
  | some o' => rw [F.keep _ _ e] at hC; cases hC
 show wpAny _ A (assign (.Name y py) env (.ref D)) _ _ _
 refine wpAny_assign_Name (wpAny_storeName_local hy F'.ns (fun h₂ hn₂ hs₂ => ?_) hp)
 refine ⟨m', hn.sameBut hs₂ hCL, fun h₃ hs₃ => ?_⟩
 have k3 : ∀ b o, b ≠ env.locals → b ≠ C → h'.get? b = some o → h₃.get? b = some o := fun b o hb hc e => hs₃.extBut b o hc (hs₂.extBut b o hb e)
 refine hQ vs D h₃ _ ys hvn hsn hD hDL ((hpl.extBut hs₂.extBut hDL).extBut hs₃.extBut hDC) ⟨hn₂.sameBut hs₃ (Ne.symm hCL), fun b o e => k3 b o (Nat.ne_of_lt (Nat.lt_of_lt_of_le (Heap.lt_size e) F.above)) (fun q => by rw [q, gC] at e; cases e) (F'.keep b o e), F.above⟩ ?_
  (fun b o hb e => k3 b o hb (noneSome hC e).symm (hk b o hb e))
 exact hP.mono fun u' u' hy => by
  obtain ⟨objs, hr, ho⟩ := hy
  refine ⟨objs, hr, fun p hp => ?_⟩
  refine ob0_3 (ho p hp) fun q1 q2 q3 => ?_
  simp only [List.mem_cons, List.not_mem_nil, or_false, not_or] at q2
  exact ⟨q1, by simp [q2], k3 p.1 p.2 q2.1 q2.2.2 q3⟩
noncomputable abbrev listIt (ax : Addr) : Obj := { cls := .type "list_iterator", data := .fields #[.ref ax, .int 0 0] }
theorem listP (ax : Addr) (vs : List Value) : SrcP prog w ax [ax] vs.length (fun i v => vs[i]? = some v) (fun h I i => h.IsListIter I ax i ∧ h.IsList ax vs.toArray) (listIt ax) (fun h => h.IsList ax vs.toArray) where
 walks := fun A hh I hne => by
  have := Walks.list (prog := prog) (w := w) hh I ax (fun e => hne (e ▸ .head _)) vs.toArray
  simpa using this
 itAt := fun a k => ⟨a.1.at (k _ (.inl rfl)), a.2.at (k _ (.inr (.head _)))⟩
 itHas := fun ⟨⟨o, e, _⟩, _⟩ => ⟨o, e⟩
 start := fun a k e => ⟨⟨_, e, rfl, rfl⟩, a.at (k _ (.head _))⟩
 has := fun ⟨o, e, _⟩ b hb => by rcases List.mem_singleton.mp hb with rfl; exact ⟨o, e⟩
 alive := rfl
 iter := fun hl hq => wpAny_pyIter_list hl hq
 again := fun hit hq => wpAny_pyIter_listiter hit.1 hq
theorem listCompH {E : Value → Shared → Prop} {s : Shared} {elt iter : PySem.Expr} {x : Str} {px : Pos} {scope : Scope} {cl : List (Str × Addr)} {pos : Pos} {env : Env} {Q : Value → Shared → Prop} (Rel : Value → Value → List (Addr × Obj) → Prop)
  (hh : A.handled = none) (hclos : closureFor scope env = pure cl) (hcell : ∀ y ∈ scope.names, y.2 ≠ .cell) (hkind : scope.kind = .function)
  (hnames : ∀ y ∈ scope.names, y.2 = .local → scope.names.lookup y.1 = some .local) (hx : scope.names.lookup x = some .local) (hs : ∀ x, foldedSetIterable iter env x = pure x) (_F : Fr h₀ L s.heap m)
  (h : wpAny (model prog w) A (eval iter env) (fun xv s₁ => Hold (CompH prog w A h₀ L m Rel scope cl env elt x (fun u' => m) (fun D s' => Q (.ref D) s') xv s₁)) E s) :
  wpAny (model prog w) A (eval (.ListComp elt [⟨.Name x px, iter, [], 0⟩] scope pos) env) Q E s := by
 rw [eval_ListComp]
 refine wpAny_comprehension_free (use := none) rfl hs hclos hkind hnames (wpAny_mono h (fun xv s₁ h₁ => ?_) fun u' u' e => e)
 unfold Hold at h₁
 obtain ⟨ax, vs, eq2, hl, hsz, F, hax, helt, hQ⟩ := h₁
 subst eq2
 refine wpAny_pyIter_list hl ?_
 refine compBlockP (listP ax vs) (Rel := Rel) (RR := fun acc C => compPost (model prog w) A E none Q acc C) hh hcell hkind hx hl (by simpa using Ne.symm hax) F hsz (fun C i v h₃ tk₃ m₃ u' hv => helt C v h₃ tk₃ m₃ (List.mem_of_getElem? hv)) ?_
 intro us D C h' tk m' ys hvn hsn hD hC hDC hn hpl F' hP hk
 obtain rfl := seen_eq hvn hsn
 have hCL : C ≠ L := by obtain ⟨o, _, _, ho, _⟩ := F.ns; exact noneSome hC ho
 have hDL : D ≠ L := by obtain ⟨o, _, _, ho, _⟩ := F.ns; exact noneSome hD ho
 have gC : h₀.get? C = none := by
  cases e : h₀.get? C with
  | none => rfl
  | some o' => rw [F.keep _ _ e] at hC; cases hC
 refine ⟨m', hn, fun h'' hs'' => hQ D h'' tk ys hD hDL (hpl.extBut hs''.extBut hDC) (frMove (S := [C]) F' (by simpa using Ne.symm hCL) (fun b hb => by rcases List.mem_singleton.mp hb with rfl; exact gC) (fun b o hb e => hs''.extBut b o (by simpa using hb) e)) ?_ (fun b o hb e => hs''.extBut b o (noneSome hC e |>.symm) (hk b o hb e))⟩
 exact hP.mono fun u' u' hy => by
  obtain ⟨objs, hr, ho⟩ := hy
  refine ⟨objs, hr, fun p hp => ?_⟩
  refine ob0_3 (ho p hp) fun q1 q2 q3 => ?_
  simp only [List.mem_cons, List.not_mem_nil, or_false, not_or] at q2
  exact ⟨q1, by simp [q2], hs''.extBut p.1 p.2 q2.2.2 q3⟩
theorem assignCompH {E : Value → Shared → Prop} {s : Shared} {elt iter : PySem.Expr} {x y : Str} {px py : Pos} {scope : Scope} {cl : List (Str × Addr)} {pos spos : Pos} {env : Env} {Q : Flow → Shared → Prop} (Rel : Value → Value → List (Addr × Obj) → Prop)
  (hsw : swapsWith (.ListComp elt [⟨.Name x px, iter, [], 0⟩] scope pos) (some (.Name y py)) spos.line env = pure true) (hL : env.locals = L)
  (hh : A.handled = none) (hclos : closureFor scope env = pure cl) (hcell : ∀ y ∈ scope.names, y.2 ≠ .cell) (hkind : scope.kind = .function)
  (hnames : ∀ y ∈ scope.names, y.2 = .local → scope.names.lookup y.1 = some .local) (hx : scope.names.lookup x = some .local)
  (hy : env.kindOf y = some .local) (hp : (env.scope.kind == .class || (env.scope.kind == .module && env.locals != env.globals)) = false) (hs : ∀ x, foldedSetIterable iter env x = pure x) (_F : Fr h₀ L s.heap m)
  (h : wpAny (model prog w) A (eval iter env) (fun xv s₁ => Hold (CompH prog w A h₀ L m Rel scope cl env elt x (fun D z => if z = y then some (.ref D) else m z) (fun u' s' => Q .next s') xv s₁)) E s) :
  wpAny (model prog w) A (exec (.Assign [.Name y py] (.ListComp elt [⟨.Name x px, iter, [], 0⟩] scope pos) spos) env) Q E s := by
 refine assignCompP Rel hsw hL hh hclos hcell hkind hnames hx hy hp hs _F (wpAny_mono h (fun xv s₁ h₁ => ?_) fun u' u' e => e)
 unfold Hold at h₁ ⊢
 obtain ⟨ax, vs, eq2, hl, hsz, F, hax, helt, hQ⟩ := h₁
 exact ⟨ax, [ax], _, _, _, _, _, eq2, listP ax vs, hl, (by simpa using Ne.symm hax), hsz, F, fun C i v h₃ tk₃ m₃ u' hv => helt C v h₃ tk₃ m₃ (List.mem_of_getElem? hv), fun us D h' tk ys hvn hsn => seen_eq hvn hsn ▸ hQ D h' tk ys⟩
theorem fullNews {h : Heap} (F : Fr h₀ L h m) : ∃ news, News h₀ L h news ∧ ∀ b o, h.get? b = some o → b ≠ L → h₀.get? b = some o ∨ (b, o) ∈ news := by
 classical
 refine ⟨((List.range h.objs.size).filter fun b => decide (b ≠ L) && (h₀.get? b).isNone && (h.get? b).isSome).map fun b => (b, (h.get? b).getD emptyDict), fun p hp => ?_, fun b o e hb => ?_⟩
 ·refine ob1_2 (List.mem_map.mp hp) fun b hb eq2 => ?_
  subst eq2
  have hb := (List.mem_filter.mp hb).2
  simp only [Bool.and_eq_true, decide_eq_true_eq, Option.isNone_iff_eq_none, Option.isSome_iff_exists] at hb
  obtain ⟨⟨h1, h2⟩, o, h3⟩ := hb
  exact ⟨by simp [h3], h1, h2⟩
 ·cases z : h₀.get? b with
  | some o' =>
   have := F.keep _ _ z
   rw [e] at this; cases this
   exact .inl rfl
  | none =>
   refine .inr (List.mem_map.mpr ⟨b, List.mem_filter.mpr ⟨List.mem_range.mpr (Heap.lt_size e), ?_⟩, by simp [e]⟩)
   simp [hb, z, e]
end
end
section
set_option maxHeartbeats 400000
noncomputable def subst (c : Nat) (z : List Nat) (l : List Nat) : List Nat := l.flatMap fun k => if k = c then z else [k]
theorem subst_append (c : Nat) (z a b : List Nat) : subst c z (a ++ b) = subst c z a ++ subst c z b := by simp [subst]
theorem subst_free (c : Nat) (z : List Nat) : ∀ l : List Nat, c ∉ l → subst c z l = l
 | [], _ => rfl
 | k :: r, h => by
  have h1 : ¬ k = c := fun e => h (e ▸ List.mem_cons_self ..)
  have h2 : c ∉ r := fun m => h (List.mem_cons_of_mem _ m)
  have ih := subst_free c z r h2
  unfold subst at ih ⊢
  rw [List.flatMap_cons, if_neg h1, ih]; rfl
theorem subst_one (c : Nat) (z : List Nat) : subst c z [c] = z := by simp [subst]
theorem subst_join (c : Nat) (z : Str) : ∀ parts : List Str, (∀ p ∈ parts, c ∉ p.cps.toList) → subst c z.cps.toList (Str.join ⟨#[c]⟩ parts).cps.toList = (Str.join z parts).cps.toList
 | [], _ => rfl
 | [p], h => subst_free c _ _ (h p (List.mem_singleton.mpr rfl))
 | p :: q :: r, h => by
  have ih := subst_join c z (q :: r) fun a ha => h a (List.mem_cons_of_mem _ ha)
  show subst c z.cps.toList (p ++ ⟨#[c]⟩ ++ Str.join ⟨#[c]⟩ (q :: r)).cps.toList = (p ++ z ++ Str.join z (q :: r)).cps.toList
  simp only [Str.cps_append, Array.toList_append]
  rw [subst_append, subst_append, ih, subst_free c _ _ (h p (List.mem_cons_self ..))]
  show p.cps.toList ++ subst c z.cps.toList [c] ++ _ = _
  rw [subst_one]
theorem replace_subst (x z : Str) (c : Nat) : (Txt.replace x ⟨#[c]⟩ z).cps.toList = subst c z.cps.toList x.cps.toList := by
 rw [StrLaws.replace_one, ← subst_join c z _ (StrLaws.split_free x c), StrLaws.join_split]
theorem replace_strOf (l : List Nat) (z : Str) (c : Nat) : Txt.replace (strOf l) ⟨#[c]⟩ z = strOf (subst c z.cps.toList l) := by
 have h := replace_subst (strOf l) z c
 have e : Txt.replace (strOf l) ⟨#[c]⟩ z = strOf (Txt.replace (strOf l) ⟨#[c]⟩ z).cps.toList := by cases Txt.replace (strOf l) ⟨#[c]⟩ z; simp [strOf]
 rw [e, h]; rfl
theorem subst_len (c : Nat) (z : List Nat) (hz : z.length ≤ 2) : ∀ l : List Nat, (subst c z l).length ≤ 2 * l.length
 | [] => Nat.le_refl _
 | k :: r => by
  have ih := subst_len c z hz r
  unfold subst at ih ⊢
  rw [List.flatMap_cons, List.length_append, List.length_cons]
  split
  ·lia
  ·simp only [List.length_singleton]; lia
theorem occ_lack (x y : Str) (c : Nat) (hy : c ∈ y.cps.toList) (hx : c ∉ x.cps.toList) (n : Nat) : Builtin.Str.occurrences x y 0 x.length n = [] := by
 obtain ⟨f, h⟩ := StrLaws.occ_chain x y n
 cases ho : Builtin.Str.occurrences x y 0 x.length n with
 | nil => rfl
 | cons i r =>
  rw [ho] at h
  have hm := h.2.1
  have hs : Builtin.Str.subAt x y i = true := hm.2
  delta Builtin.Str.subAt at hs
  have e := eq_of_beq hs
  have : c ∈ (x.cps.extract i (i + y.length)).toList := by rw [e]; exact hy
  rw [Array.toList_extract] at this
  exact absurd (List.mem_of_mem_drop (List.mem_of_mem_take this)) (by simpa using hx)
theorem replace_lack (x y z : Str) (c : Nat) (hy : c ∈ y.cps.toList) (hx : c ∉ x.cps.toList) : Txt.replace x y z = x := by
 delta Txt.replace
 rw [occ_lack x y c hy hx]
 rfl
noncomputable def signs : List Nat := [97, 44, 59, 92, 58, 110, 32, 10, 90, 98]
noncomputable def escC (k : Nat) : List Nat := if k = 92 then [92, 92] else if k = 59 then [92, 59] else if k = 44 then [92, 44] else if k = 10 then [92, 110] else [k]
noncomputable def escL (l : List Nat) : List Nat := l.flatMap escC
theorem esc_steps (l : List Nat) : subst 10 [92, 110] (subst 44 [92, 44] (subst 59 [92, 59] (subst 92 [92, 92] l))) = escL l := by
 delta subst escL
 rw [List.flatMap_assoc, List.flatMap_assoc, List.flatMap_assoc]
 congr 1
 funext k
 delta escC
 by_cases h1 : k = 92
 ·subst h1; decide
 ·by_cases h2 : k = 59
  ·subst h2; decide
  ·by_cases h3 : k = 44
   ·subst h3; decide
   ·by_cases h4 : k = 10
    ·subst h4; decide
    ·simp [h1, h2, h3, h4]
theorem subst_mem {c k : Nat} {z l : List Nat} (h : k ∈ subst c z l) : k ∈ l ∨ k ∈ z := by
 delta subst at h
 refine ob1_2 (List.mem_flatMap.mp h) fun a ha hk => ?_
 split at hk
 ·exact .inr hk
 ·rcases List.mem_singleton.mp hk with rfl
  exact .inl ha
end
section
section
variable {prog : Program} {w : World} {A : Around} {E : Value → Shared → Prop} {s : Shared} {env : Env} {h₀ : Heap} {L : Addr} {m : Str → Option Value} {news : List (Addr × Obj)}
theorem dictCompA_nil {kx vx iter : PySem.Expr} {x y : Str} {px py : Pos} {ifs : List PySem.Expr} {scope : Scope} {cl : List (Str × Addr)} {pos spos : Pos} {Q : Flow → Shared → Prop}
  (hsw : swapsWith (.DictComp kx vx [⟨.Name x px, iter, ifs, 0⟩] scope pos) (some (.Name y py)) spos.line env = pure true) (hL : env.locals = L)
  (hh : A.handled = none) (hclos : closureFor scope env = pure cl) (hcell : ∀ z ∈ scope.names, z.2 ≠ .cell) (hkind : scope.kind = .function)
  (hnames : ∀ z ∈ scope.names, z.2 = .local → scope.names.lookup z.1 = some .local) (hx : scope.names.lookup x = some .local)
  (hy : env.kindOf y = some .local) (hp : (env.scope.kind == .class || (env.scope.kind == .module && env.locals != env.globals)) = false)
  (hs : ∀ x, foldedSetIterable iter env x = pure x)
  (_F : Fr h₀ L s.heap m)
  (h : wpAny (model prog w) A (eval iter env) (fun xv s₁ => Hold (∃ ax news, xv = .ref ax ∧ s₁.heap.IsList ax #[] ∧ Fr h₀ L s₁.heap m ∧ News h₀ L s₁.heap news ∧
   (∀ D o h' tk, Fr h₀ L h' (fun z => if z = y then some (.ref D) else m z) → News h₀ L h' ((D, o) :: news) → (∀ p ∈ news, p.1 ≠ D) → o.IsDictOf (strKind prog w) [] → Q .next { s₁ with heap := h', toks := tk }))) E s) :
  wpAny (model prog w) A (exec (.Assign [.Name y py] (.DictComp kx vx [⟨.Name x px, iter, ifs, 0⟩] scope pos) spos) env) Q E s := by
 subst hL
 rw [exec_Assign_Name_used _ _ _ _ hsw]
 refine wpAny_bind (wpAny_standAt (wpAny_bind ?_))
 show wpAny _ A (do let _ ← comprehension (.DictComp kx vx [⟨.Name x px, iter, ifs, 0⟩] scope pos) scope env _ newDict false (eval iter env) (some (assign (.Name y py) env))) _ _ s
 refine wpAny_bind (wpAny_mono (wpAny_comprehension_free (use := some (assign (.Name y py) env)) (Q := fun u' s' => Q .next s') rfl hs hclos hkind hnames
  (wpAny_mono h (fun xv s₁ h₁ => ?_) fun u' u' e => e)) (fun u' s' hq => wpAny_pure (wpAny_pure hq)) fun u' u' e => e)
 unfold Hold at h₁
 refine ob2_5 h₁ fun ax news eq2 hl F N hQ => ?_
 clear h₁
 subst eq2
 have hlt : ax < s₁.heap.objs.size := by obtain ⟨_, e, _⟩ := hl; exact Heap.lt_size e
 have up : ∀ (s₃ : Shared), (∀ b o, b ∉ [s₁.heap.objs.size] → (s₁.heap.push { cls := .type "list_iterator", data := .fields #[.ref ax, .int 0 0] }).get? b = some o → s₃.heap.get? b = some o) → ∀ b o, s₁.heap.get? b = some o → s₃.heap.get? b = some o :=
  fun s₃ hk b o e => hk b o (fun hm => by rcases List.mem_cons.mp hm with rfl | hm; exact Nat.lt_irrefl _ (Heap.lt_size e); cases hm) (Heap.get?_push_of_some _ e)
 refine wpAny_pyIter_list hl ?_
 refine comp_block_walkCD (knd := strKind prog w) (RR := fun acc C => compPost (model prog w) A E (some (assign (.Name y py) env)) (fun u' s' => Q .next s') acc C) (Walks.list hh _ _ (Nat.ne_of_lt hlt) #[]) (Nat.zero_le _) (fun u' => true)
  (fun u' u' => True) (fun u' u' => True) hcell hkind hx ⟨⟨_, Heap.get?_push_size _ rfl, rfl, rfl⟩, hl.push _⟩ ?_ ⟨?_, ?_, ?_⟩ ?_
 ·intro b hb
  show b < (s₁.heap.push _).objs.size
  rw [Heap.size_push]
  rcases List.mem_cons.mp hb with rfl | hb
  ·exact Nat.lt_succ_self _
  ·rcases List.mem_cons.mp hb with rfl | hb
   ·exact Nat.lt_succ_of_lt hlt
   ·cases hb
 ·intro C i v s₃ m₃ E' hP; simp at hP
 ·intro C i v s₃ m₃ E' hP; simp at hP
 ·intro C i v s₃ m₃ E' hP; simp at hP
 ·intro D C h' tk m' kvs vs' hD hC hDC hnC hlD hlen hP hF hk
  have e : vs' = [] := List.eq_nil_of_length_eq_zero hlen
  subst e
  have hkn : kvs = [] := List.eq_nil_of_length_eq_zero (Nat.le_zero.mp hF.length_le)
  subst hkn
  have hn : (s₁.heap.push { cls := .type "list_iterator", data := .fields #[.ref ax, .int 0 0] }).Ns env.locals m := F.ns.push _
  have hLf : env.locals ∉ [s₁.heap.objs.size] := fun hm => by
   rcases List.mem_cons.mp hm with e | hm
   ·exact Nat.lt_irrefl _ (e ▸ F.ns.lt)
   ·cases hm
  have hLC : env.locals ≠ C := by rintro rfl; obtain ⟨o, _, _, ho, _⟩ := hn; rw [hC] at ho; cases ho
  have hLD : env.locals ≠ D := by rintro rfl; obtain ⟨o, _, _, ho, _⟩ := hn; rw [hD] at ho; cases ho
  have D1 : s₁.heap.get? D = none := by
   cases z : s₁.heap.get? D with
   | none => rfl
   | some o => rw [show _ = _ from Heap.get?_push_of_some _ z] at hD; cases hD
  show wpAny _ A (assign (.Name y py) env (.ref D)) _ _ _
  refine wpAny_assign_Name (wpAny_storeName_local hy (hn.at' fun o e => hk _ o hLf e) (fun h₂ hn₂ hs₂ => ?_) hp)
  refine ⟨m', hnC.sameBut hs₂ (Ne.symm hLC), fun h₃ hs₃ => ?_⟩
  have keep : ∀ b o, b ≠ env.locals → s₁.heap.get? b = some o → h₃.get? b = some o := fun b o hb e =>
   hs₃.extBut b o (by rintro rfl; rw [Heap.get?_push_of_some _ e] at hC; cases hC) (hs₂.extBut b o hb (up { s₁ with heap := h' } hk b o e))
  refine ob1_2 (Heap.dictOf_iff.mp ((hlD.extBut hs₂.extBut (Ne.symm hLD)).extBut hs₃.extBut hDC)) fun o ho hio => ?_
  refine hQ D o h₃ _ ⟨hn₂.sameBut hs₃ hLC, fun b o e => keep b o (Nat.ne_of_lt (Nat.lt_of_lt_of_le (Heap.lt_size e) F.above)) (F.keep b o e), F.above⟩ (fun p hp => ?_) (fun p hp e => by rw [← e, (N p hp).1] at D1; cases D1) hio
  rcases List.mem_cons.mp hp with rfl | hp
  ·refine ⟨ho, fun q => hLD q.symm, ?_⟩
   cases z : h₀.get? D with
   | none => rfl
   | some o => rw [F.keep _ _ z] at D1; cases D1
  ·exact ⟨keep _ _ (N p hp).2.1 (N p hp).1, (N p hp).2⟩
theorem dict0 {prog : Program} {w : World} : Obj.IsDictOf (strKind prog w) (dictOf [] 0) [] := ⟨#[], 0, ⟨rfl, rfl, rfl⟩, rfl, (fun e he => absurd he (by simp)), .nil, .nil⟩
end
end
section
structure Src (prog : Program) (w : World) (ax : Addr) (vs : List Value) (IsIt : Heap → Addr → Nat → Prop) (IsSeq : Heap → Prop) (io : Obj) (Ok : Heap → Prop) : Prop where
 walks : ∀ (A : Around), A.handled = none → ∀ I, ax ≠ I → Walks prog w A I [I, ax] [I] vs.length (fun i v => vs[i]? = some v) (fun i h => IsIt h I i ∧ IsSeq h)
 itAt : ∀ {h h' : Heap} {I : Addr} {i : Nat}, IsIt h I i → (∀ o, h.get? I = some o → h'.get? I = some o) → IsIt h' I i
 seqAt : ∀ {h h' : Heap}, IsSeq h → (∀ o, h.get? ax = some o → h'.get? ax = some o) → IsSeq h'
 seqHas : ∀ {h : Heap}, IsSeq h → ∃ o, h.get? ax = some o
 itHas : ∀ {h : Heap} {I : Addr} {i : Nat}, IsIt h I i → ∃ o, h.get? I = some o
 start : ∀ {h : Heap} {I : Addr}, h.get? I = some io → IsIt h I 0
 alive : io.isFreed = false
 iter : ∀ {A : Around} {E Q : Value → Shared → Prop} {s : Shared}, Ok s.heap → IsSeq s.heap → Q (.ref s.heap.objs.size) { s with heap := s.heap.push io } → wpAny (model prog w) A (pyIter (.ref ax)) Q E s
 again : ∀ {A : Around} {E Q : Value → Shared → Prop} {s : Shared} {I : Addr} {i : Nat}, IsIt s.heap I i → Q (.ref I) s → wpAny (model prog w) A (pyIter (.ref I)) Q E s
section
variable {prog : Program} {w : World} {A : Around} {h₀ : Heap} {L : Addr} {m : Str → Option Value}
theorem Src.toP {ax : Addr} {vs : List Value} {IsIt : Heap → Addr → Nat → Prop} {IsSeq : Heap → Prop} {io : Obj} {Ok : Heap → Prop} (S : Src prog w ax vs IsIt IsSeq io Ok) :
  SrcP prog w ax [ax] vs.length (fun i v => vs[i]? = some v) (fun h I i => IsIt h I i ∧ IsSeq h) io (fun h => Ok h ∧ IsSeq h) where
 walks := fun A hh I hne => S.walks A hh I fun e => hne (e ▸ .head _)
 itAt := fun a k => ⟨S.itAt a.1 (k _ (.inl rfl)), S.seqAt a.2 (k _ (.inr (.head _)))⟩
 itHas := fun a => S.itHas a.1
 start := fun a k e => ⟨S.start e, S.seqAt a.2 (k _ (.head _))⟩
 has := fun a b hb => by rcases List.mem_singleton.mp hb with rfl; exact S.seqHas a.2
 alive := S.alive
 iter := fun a hq => S.iter a.1 a.2 hq
 again := fun hit hq => S.again hit.1 hq
inductive CompS (prog : Program) (w : World) (A : Around) (h₀ : Heap) (L : Addr) (m : Str → Option Value) (Rel : Value → Value → List (Addr × Obj) → Prop) (scope : Scope) (cl : List (Str × Addr)) (env : Env) (elt : PySem.Expr) (x : Str) (mD : Addr → Str → Option Value) (QD : Addr → Shared → Prop) (xv : Value) (s₁ : Shared) : Prop
 | mk (ax : Addr) (vs : List Value) (IsIt : Heap → Addr → Nat → Prop) (IsSeq : Heap → Prop) (io : Obj) (Ok : Heap → Prop) (e : xv = .ref ax) (S : Src prog w ax vs IsIt IsSeq io Ok) (hok : Ok s₁.heap) (hl : IsSeq s₁.heap) (hsz : vs.length ≤ sizeLine) (F : Fr h₀ L s₁.heap m) (hax : ax ≠ L)
  (helt : ∀ C v h₃ tk₃ m₃, v ∈ vs → s₁.heap.get? C = none → h₃.Ns C m₃ → m₃ x = some v → Fr h₀ L h₃ m → (∀ b o, b ≠ L → s₁.heap.get? b = some o → h₃.get? b = some o) → EltOK prog w A h₀ L m Rel (compEnvC scope cl C env) elt v { s₁ with heap := h₃, toks := tk₃ })
  (hQ : ∀ D h' tk ys, s₁.heap.get? D = none → D ≠ L → h'.PlainList D ys → Fr h₀ L h' (mD D) → Paired (ObjAt [L, D] s₁.heap Rel h') vs ys.toList → (∀ b o, b ≠ L → s₁.heap.get? b = some o → h'.get? b = some o) → QD D { s₁ with heap := h', toks := tk })
theorem assignCompS {E : Value → Shared → Prop} {s : Shared} {elt iter : PySem.Expr} {x y : Str} {px py : Pos} {scope : Scope} {cl : List (Str × Addr)} {pos spos : Pos} {env : Env} {Q : Flow → Shared → Prop} (Rel : Value → Value → List (Addr × Obj) → Prop)
  (hsw : swapsWith (.ListComp elt [⟨.Name x px, iter, [], 0⟩] scope pos) (some (.Name y py)) spos.line env = pure true) (hL : env.locals = L)
  (hh : A.handled = none) (hclos : closureFor scope env = pure cl) (hcell : ∀ y ∈ scope.names, y.2 ≠ .cell) (hkind : scope.kind = .function)
  (hnames : ∀ y ∈ scope.names, y.2 = .local → scope.names.lookup y.1 = some .local) (hx : scope.names.lookup x = some .local)
  (hy : env.kindOf y = some .local) (hp : (env.scope.kind == .class || (env.scope.kind == .module && env.locals != env.globals)) = false) (hs : ∀ x, foldedSetIterable iter env x = pure x) (_F : Fr h₀ L s.heap m)
  (h : wpAny (model prog w) A (eval iter env) (fun xv s₁ => Hold (CompS prog w A h₀ L m Rel scope cl env elt x (fun D z => if z = y then some (.ref D) else m z) (fun u' s' => Q .next s') xv s₁)) E s) :
  wpAny (model prog w) A (exec (.Assign [.Name y py] (.ListComp elt [⟨.Name x px, iter, [], 0⟩] scope pos) spos) env) Q E s := by
 refine assignCompP Rel hsw hL hh hclos hcell hkind hnames hx hy hp hs _F (wpAny_mono h (fun xv s₁ h₁ => ?_) fun u' u' e => e)
 unfold Hold at h₁ ⊢
 obtain ⟨ax, vs, IsIt, IsSeq, io, Ok, eq6, S, hok, hl, hsz, F, hax, helt, hQ⟩ := h₁
 exact ⟨ax, [ax], _, _, _, _, _, eq6, S.toP, ⟨hok, hl⟩, (by simpa using Ne.symm hax), hsz, F, fun C i v h₃ tk₃ m₃ u' hv => helt C v h₃ tk₃ m₃ (List.mem_of_getElem? hv), fun us D h' tk ys hvn hsn => seen_eq hvn hsn ▸ hQ D h' tk ys⟩
end
end
end
section
open Builtin Builtin.Getset_descriptor Builtin.ObjectAttr PySem.Calls
section
section
variable {prog : Program} {w : World} {A : Around} {K : Frag} {C x L : Addr} {s : Shared} {h₀ : Heap} {m : Str → Option Value}
theorem setSlot {E : Value → Shared → Prop} {B : String} {ox ox' : Obj} {od : Option Obj} {name : Str} {v : Value} {p i : Nat} {cd : ClassData} {pre post : List (Addr × Obj)} {Q : Unit → Shared → Prop} (F : Fr h₀ L s.heap m) (N : News h₀ L s.heap (pre ++ (x, ox) :: post)) (X : K.In s.heap) (I : InstAt s.heap x ox C od)
  (hs : findIn K (.ref C) "__setattr__" = some (some (.builtin "object.__setattr__"))) (hc : clsIn K C = some cd) (hmro : cd.mro = [.ref C, .type B, .type "object"]) (hr : ∀ self, refuseLoop self "__setattr__" [.type B, .type "object"] = pure ())
  (ht : takerIn K C name = some (some (.ref p))) (hT : typeIn K (.ref p) = some (.type "member_descriptor"))
  (hp : slotIn K p C = some i) (hi : i < 1000) (h1 : ∀ p ∈ pre, p.1 ≠ x) (h2 : ∀ p ∈ post, p.1 ≠ x)
  (e : { ox with slots := (ox.slots ++ Array.replicate (i + 1 - ox.slots.size) none).setIfInBounds i (some v) } = ox') (hf : ox'.isFreed = false)
  (h : ∀ h', Fr h₀ L h' m → News h₀ L h' (pre ++ (x, ox') :: post) → Q () { s with heap := h', toks := s.toks + 1 }) :
  wpAny (model prog w) A (setAttr (.ref x) name v) Q E s := by
 have SF := PySem.F.store_object
 obtain ⟨hh, gg, dd, tt, oo⟩ := s
 dsimp only at F N X I h ⊢
 refine set_plain X I hs ?_
 have I' : InstAt hh x ox C od := I
 have sub : Looks (model prog w) hh (isInstance (.ref x) (.type "object")) true := I.type.andThen (looks_mroIn X (by unfold mroIn; rw [hc, Option.bind_some, hmro]; simp))
 refine codeAny_call_builtin SF.slot.plain SF.entry (@check_slot (model prog w) _ _ ⟨hh, gg, dd, tt + 1, oo⟩ "object.__setattr__" "object" "__setattr__" (.ref x) [.str name tt, v] [] _ SF.kind SF.split sub (SF.args (.ref x) (.str name tt) v) ?_)
 refine ob1_2 (Option.bind_eq_some_iff.mp ht) fun attr ha hr' => ?_
 have hm : Looks (model prog w) hh (mroOf (.ref C)) cd.mro := (looks_clsIn X hc).andThen .now
 have L3 : Looks (model prog w) hh (storeTaker? attr) (some (.ref p)) := by
  cases attr with
  | none => cases hr'
  | some a =>
   refine ob1_2 (Option.map_eq_some_iff.mp hr') fun b hb e => ?_
   refine (looks_takesIn X hb).andThen ?_
   cases b <;> cases e
   exact .now
 rw [osa_eq, refuse_eq]
 refine wpAny_bind (wpAny_bind (I'.type.at (wpAny_bind (hm.at ?_))))
 rw [hmro, refuseLoop_ref, hr]
 refine wpAny_pure (wpAny_bind (I'.type.at (wpAny_bind ((looks_findIn X ha).at (wpAny_bind (L3.at ?_))))))
 refine wpAny_bind (wpAny_rule (wpAny_bind (wpAny_holding (wpAny_bind (wpAny_bind ((looks_typeIn X hT).at ((Looks.of_pure KF.slot_mset.lookup).at (wpAny_holding ?_))))))))
 rw [KF.slot_mset.bind]
 refine wpAny_bind (wpAny_pure (wpAny_bind (wpAny_call (codeAny_mono (slot_set (R := fun r s' => r = .ok (.ret .none) ∧ Q () s') (s := ⟨hh, gg, dd, tt + 1, oo⟩) F N X I' hp hi h1 h2 e hf (fun h' F' N' => ⟨rfl, h h' F' N'⟩)) fun r s' z => ?_))))
 obtain ⟨rfl, z⟩ := z
 exact wpAny_pure (wpAny_pure z)
theorem refuseStr (self : Value) : refuseLoop self "__setattr__" [.type "str", .type "object"] = pure () := by
 delta refuseLoop
 kernel_rfl
end
end
end
section
open PySem.Calls PySem.W.X
local macro_rules | `(tactic| walk_at "exec For Tuple Name") => `(tactic| (refine hold ?_))
local macro_rules | `(tactic| walk_at "exec For Name Name") => `(tactic| (refine hold ?_))
local macro_rules | `(tactic| walk_at "wpAt") => `(tactic| (refine hold ?_))
local macro_rules | `(tactic| k_inst) => `(tactic| (refine' instP ?N ?h1 ?h2; (case N => k_asm); (case h1 => k_mem); (case h2 => k_mem)))
local macro_rules | `(tactic| walk_at "eval Call Attribute cons cons") => `(tactic| (k_here; k_dflt (refine any_callStar (fun u' => rfl) (fun u' => rfl) ?_)))
local macro_rules | `(tactic| walk_at "getAttr ref") => `(tactic| (refine hold ?_))
local macro_rules | `(tactic| walk_at "call builtin:dict.items") => `(tactic| (refine hold ?_))
local macro_rules | `(tactic| walk_at "call builtin:iter") => `(tactic| (refine hold ?_))
local macro_rules | `(tactic| walk_at "call builtin:hasattr") => `(tactic| (refine hold ?_))
local macro_rules | `(tactic| walk_at "getMethod ref") => `(tactic| (refine hold ?_))
section
section
variable {prog : Program} {w : World} {A₀ A : Around} {s : Shared} {base h₀ : Heap} {outer : List Env} {L : Addr} {m mg mb : Str → Option Value} {env : Env} {news : List (Addr × Obj)} {K : Frag} {p : Program} {loose : List Str} {mean : ExcName → Option Value}
 {R : Result → Shared → Prop} {name qual : Str} {params : Arguments} {body : List Stmt} {scope : Scope} {dV kV doc pm cdv ct oc : Value} {an od : Option Addr} {osl : Array (Option Value)} {f cc : Addr} {args : Args} {vs : List Value}
theorem both_pl {g₁ : Addr → Sem (List (Str × Value))} {g₂ : Addr → Addr → Sem (List (Str × Value))} {binds : Addr → Addr → List (Str × Value)}
  (B : Below A₀ base outer h₀) (F : Fr h₀ L s.heap m) (X₀ : K.In h₀) (N : News h₀ L s.heap news) (T : Top p loose mean mg mb h₀) (hA : A.frames = some (env :: outer)) (hf : env.frame = some L) (hke : env.scope.kind = .function)
  (ho : K.lookup f = some ⟨oc, od, .func (fnOf name qual params body scope dV kV doc pm an cdv ct), osl⟩) (hcd : codeIn K cdv qual = true) (hroom : A.depth < recursionLimit)
  (hp : peekA K ⟨prog, w.params⟩ (bindArgs (fnOf name qual params body scope dV kV doc pm an cdv ct) args) = some (tupObj vs, g₁))
  (hp₂ : ∀ D, peekA K ⟨prog, w.params⟩ (g₁ D) = some (dictOf [] 0, g₂ D))
  (hk₂ : ∀ C D, g₂ C D = pure (binds C D))
  (hloc : ∀ C D, ∀ y ∈ binds C D, scope.names.lookup y.1 = some .local)
  (h : ∀ C D g L' h₁, (∀ p ∈ news, p.1 < C) → C < D → (D == sysModules) = false → Fr h₀ L g m → Fr g L' h₁ (fun y => (binds C D).reverse.lookup y) → News g L' h₁ ((D, dictOf [] 0) :: (C, tupObj vs) :: news) → Below A base (env :: outer) g → K.In g → Top p loose mean mg mb g →
   wpAny (model prog w) (A.deeper (envX qual scope L' f cdv [])) (execs body (envX qual scope L' f cdv []))
    (fun fl s' => LeaveK h₀ L m g R (match fl with | .ret v => v | _ => .none) s')
    (fun e s' => wpAny (model prog w) (A.deeper (envX qual scope L' f cdv [])) (leaving (envX qual scope L' f cdv []) e) (fun u' s'' => R (.error e) s'') (fun e' s'' => R (.error e') s'') s')
    {s with heap := h₁, toks := s.toks + (binds C D).length })
  (hcell : ∀ x ∈ scope.names, x.2 ≠ .cell := by decide) (hco : scope.isCoroutine = false := by rfl) (hgen : scope.isGenerator = false := by rfl) (hk : scope.kind = .function := by rfl) : codeAny (model prog w) A (.call (.ref f) args) R s := by
 refine codeAny_call_function (fd := fnOf name qual params body scope dV kV doc pm an cdv ct) (body := body) hroom ((X₀.keeps F.keep) _ _ ho) rfl hco hgen rfl (codeRec_of (X₀.keeps F.keep) hcd) ?_
 refine wp_of_peekA (o := tupObj vs) F N (X₀.keeps F.keep) rfl _ g₁ hp fun h' F' N' l => ?_
 refine wp_of_peekA (s := { s with heap := h' }) (o := dictOf [] 0) F' N' (X₀.keeps F'.keep) rfl _ (g₂ s.heap.objs.size) (hp₂ _) fun h'' F'' N'' l' => ?_
 rw [hk₂]
 refine wpAny_pure ?_
 exact kp_frame (cl := []) (s := { s with heap := h'' }) B F'' N'' T.nolimit hA hf hke (hloc _ _)
  (fun g L' h₁ FG FL NG BG st => h _ _ g L' h₁ l (l' _ (.head _)) (F'.notModules (modules_low T.nolimit)) FG FL NG BG (X₀.keeps st) (T.keeps st)) hcell hk
end
section
variable {prog : Program} {w : World} {A : Around} {E Q : Value → Shared → Prop} {s : Shared} {D it vw : Addr}
theorem empty_at (hD : s.heap.get? D = some (dictOf [] 0)) : s.heap.DictAt (strKind prog w) D [] 0 :=
 ⟨_, #[], hD, ⟨rfl, rfl, rfl⟩, rfl, fun e he => by simp at he, .nil, List.nodup_nil⟩
theorem items_call (hD : s.heap.get? D = some (dictOf [] 0)) (hns : (D == sysModules) = false) (hq : Q (.ref s.heap.objs.size) { s with heap := s.heap.push { cls := .type "dict_items", data := .fields #[.ref D] } }) :
  wpAny (model prog w) A (call (.builtin "dict.items") [.ref D]) Q E s := by
 have hT : s.TypeIs (.ref D) "dict" := ⟨_, hD, rfl⟩
 refine wpAny_call_entry PySem.F.slot_dict_items hT PySem.F.entry_dict_items ?_ (PySem.F.args_dict_items_1 _)
 unfold Builtin.«dict.items»
 refine wpAny_bind ?_
 unfold Builtin.Dict.noArgs
 refine wpAny_bind (wpAny_notOrdered_dict hT ?_)
 show wpAny _ _ (pure D) _ _ s
 refine wpAny_pure ?_
 show wpAny _ _ (Builtin.Dict.showsAll D >>= _) _ _ s
 unfold Builtin.Dict.showsAll
 rw [if_neg (by rw [hns]; exact Bool.false_ne_true)]
 refine wpAny_bind (wpAny_pure ?_)
 exact wpAny_bind (wpAny_newObj_type (wpAny_pure ⟨_, rfl, hq⟩))
theorem iter_view (hv : s.heap.get? vw = some { cls := .type "dict_items", data := .fields #[.ref D] }) (hD : s.heap.get? D = some (dictOf [] 0)) (hq : Q (.ref s.heap.objs.size) { s with heap := s.heap.push { cls := .type "dict_itemiterator", data := .fields #[.none, .bool false, .ref D, .int 0 0, .int 0 0, .int 0 0, .none, .none] } }) :
  wpAny (model prog w) A (call (.builtin "iter") [.ref vw]) Q E s := by
 refine call_function_entry (by decide +kernel) (by decide +kernel) (entryFor_of_tree (by kernel_rfl) : entryFor table "iter" = some Builtin.«iter») (by unfold argsOk; kernel_rfl) ?_
 unfold Builtin.«iter»
 refine wpAny_bind (m := someArgs "iter" 1 2 _) (wpAny_pure ?_)
 dsimp only
 exact wpAny_bind (wpAny_pyIter_items (knd := strKind prog w) (kvs := []) (ep := 0) ⟨_, hv, rfl, rfl⟩ (empty_at hD) (wpAny_pure ⟨_, rfl, hq⟩))
theorem iter_self (hit : s.heap.get? it = some { cls := .type "dict_itemiterator", data := .fields #[.none, .bool false, .ref D, .int 0 0, .int 0 0, .int 0 0, .none, .none] }) (hq : Q (.ref it) s) : wpAny (model prog w) A (pyIter (.ref it)) Q E s := by
 have hT : s.TypeIs (.ref it) "dict_itemiterator" := ⟨_, hit, rfl⟩
 refine wpAny_pyIter_slot hT PySem.F.slot_dict_itemiterator_iter (wpAny_call_entry PySem.F.slot_dict_itemiterator_iter hT (entryFor_alias (id' := "dict_keyiterator.__iter__") (by kernel_rfl) (by first | rfl | decide +kernel) (by decide +kernel) (by kernel_rfl) : entryFor table "dict_itemiterator.__iter__" = some Builtin.«dict_keyiterator.__iter__») ?_ (PySem.F.args_dict_itemiterator_iter_1 _))
 show wpAny _ _ (ret (.ref it)) _ _ s
 have hl := PySem.F.slot_dict_itemiterator_next.lookup
 refine wpAny_pure ⟨.ref it, rfl, ?_⟩
 refine Exists.intro "dict_itemiterator" ?_
 exact ⟨_, hT, hl, hq⟩
end
section
variable {w : World} {cn : Str} {cs : Scope} {a : Addr} {ccd : Value} {cl : List (Str × Addr)} {outer : List Env} {L : Addr} {h0 : Heap} {g : Array GenState} {d : Drawn} {tk0 : Nat} {os : OsState} {Q E : Value → Shared → Prop}
set_option hygiene false in
local macro_rules | `(tactic| x_close) => `(tactic| first | exact hret _ _ _ D | exact hret _ _ _ _ D | exact hret _ _ _ _ _ D | exact hret _ _ _ (Mem.start _))
set_option maxHeartbeats 40000000
theorem lf_hasit (X : (K w.params).In h0) (D : Addr) (tn : Tok) (hv : h0.get? D = some ⟨.type "dict", none, .dict #[] 0, #[]⟩)
  (hret : ∀ h' tk nw, Mem h0 h' [] nw → Q (.bool true) ⟨h', g, d, tk, os⟩) :
  wpAny (model pw w) (ktrTop 500 200 none cn cs L a ccd cl outer) (call (.builtin "hasattr") [.ref D, .str "items" tn]) Q E ⟨h0, g, d, tk0, os⟩ := by
 x_run
end
theorem forLoop_end {prog : Program} {w : World} {A : Around} {R : Result → Shared → Prop} {target : PySem.Expr} {it : Value} {body orelse : List Stmt} {env : Env} {s : Shared}
  (h : wpAny (model prog w) A (pyNext it) (fun r s₁ => r = none ∧ wpAny (model prog w) A (execs orelse env) (fun f s₃ => R (.ok f) s₃) (notedBy (model prog w) A env fun e s' => R (.error e) s') s₁) (notedBy (model prog w) A env fun e s' => R (.error e) s') s) :
  codeAny (model prog w) A (.forLoop target it body orelse env) R s := by
 refine codeAny_forLoop_any (fun n s' => n = 1 ∧ s' = s) ?_ 1 ⟨rfl, rfl⟩
 rintro n s' ⟨rfl, rfl⟩
 refine _root_.PySem.wpAny_mono h (fun r s₁ hr => ?_) fun u' u' e => e
 obtain ⟨rfl, hr⟩ := hr
 exact hr
theorem upd_spec {w : World} {mean : ExcName → Option Value} {mg mb : Str → Option Value} {news : List (Addr × Obj)} (v dx : Addr)
  (dp un : Nat) (gd : Option (List Code)) (cn : Str) (cs : Scope) (a : Addr) (ccd : Value) (cl : List (Str × Addr)) (outer : List Env) (A₀ : Around) (base h₀ : Heap) (L : Addr) (m : Str → Option Value) (s : Shared) (R : Result → Shared → Prop)
  (B : Below A₀ base outer h₀) (F : Fr h₀ L s.heap m) (X : (K w.params).In h₀) (N : News h₀ L s.heap news) (hv : (v, (⟨.ref 324, some dx, .dict #[] 0, #[]⟩ : Obj)) ∈ news) (hdx : (dx, dictOf [] 0) ∈ news) (T : Top q0 (looseW q0 loose0) mean mg mb h₀) (hk : cs.kind = .function)
  (hd : dp + 5 < 500) (hu : un + 60 < 200)
  (hret : ∀ (h' : Heap) (tk' : Nat), Fr h₀ L h' m → News h₀ L h' news → R (.ok (.ret .none)) { s with heap := h', toks := tk' }) :
  codeAny (model pw w) (ktrTop dp un gd cn cs L a ccd cl outer) (.call (.ref 164) ⟨[.ref v], []⟩) R s := by
 have hd' : dp + 3 < recursionLimit := by first | exact rc1 (by assumption) rfl | (rw [show recursionLimit = 1000 from rfl]; lia)
 k_dflt (refine' both_pl (binds := fun C D => [("self", .ref v), ("args", .ref C), ("kwargs", .ref D)]) (vs := []) B F X N T ?kA ?kF ?kK ?k6 ?k7 ?k8 ?kP ?kS ?kT ?kB ?_ ?c5 ?c2 ?c3 ?c4; (case kA => exact rfl); (case kF => exact rfl); (case kK => assumption); (case k6 => k_is); (case k7 => k_is); (case k8 => exact Nat.lt_of_lt_of_le (show dp < dp + 3 + 1 by lia) hd'); (case kP => exact rfl); (case kS => exact fun u' => rfl); (case kT => exact fun u' u' => rfl); (case kB => exact fun u' u' => locs rfl); (case c5 => decide); (case c2 => exact rfl); (case c3 => exact rfl); (case c4 => exact rfl))
 intro C D g L' h1 l1 l2 ls FG F' N' B' X' T'
 (try dsimp only)
 (try k_lift B')
 have FQ := frBinds F' (fun y => if y = "kwargs" then some (.ref D) else if y = "args" then some (.ref C) else if y = "self" then some (.ref v) else none) (by kernel_rfl)
 clear F'
 k_steps
 refine unhold ?_
 refine For_unr g ?_ (by intro _; with_unfolding_all rfl)
 k_steps
 refine unhold ?_
 with_reducible rename Fr _ _ _ _ => F3
 with_reducible rename News _ _ _ _ => N3
 refine up (lf_hasit (X'.keeps F3.keep) D _ (N3 _ (List.mem_append_right _ (.tail _ (.tail _ (.tail _ (.head _)))))).1 (fun h4 tk4 nw4 D4 => ?_)) ?_ ?_
 rotate_left
 ·show dp + 1 ≤ 500; first | exact rl1 (by assumption) rfl | lia
 ·show un + 3 ≤ 200; first | exact rl1 (by assumption) rfl | lia
 have F4 := memFr F3 D4
 have N4 := memNews F3 N3 D4
 clear F3 N3
 k_steps
 refine unhold ?_
 have hD4 := N4 (D, dictOf [] 0) (List.mem_append_right _ (List.mem_append_right _ (.tail _ (.tail _ (.tail _ (.head _))))))
 refine getMethod_builtin (T := "dict") ⟨_, hD4.1, rfl⟩ PySem.F.plainAttrs_dict PySem.F.slot_dict_items PySem.F.type_dict_items (fun a e => by cases e; exact ⟨_, hD4.1, rfl⟩) ?_
 dsimp only
 k_steps
 refine unhold ?_
 refine items_call hD4.1 ls ?_
 have F5 := F4.push { cls := .type "dict_items", data := .fields #[.ref D] }
 have N5 := News.push F4 N4 { cls := .type "dict_items", data := .fields #[.ref D] }
 have hD5 := N5 (D, dictOf [] 0) (.tail _ (List.mem_append_right _ (List.mem_append_right _ (.tail _ (.tail _ (.tail _ (.head _)))))))
 clear F4 N4
 k_steps
 refine unhold ?_
 refine iter_view (N5 _ (.head _)).1 hD5.1 ?_
 have hlt := fun p hp => Nat.ne_of_lt (Heap.lt_size (N5 p hp).1)
 have F6 := F5.push { cls := .type "dict_itemiterator", data := .fields #[.none, .bool false, .ref D, .int 0 0, .int 0 0, .int 0 0, .none, .none] }
 have N6 := News.push F5 N5 { cls := .type "dict_itemiterator", data := .fields #[.none, .bool false, .ref D, .int 0 0, .int 0 0, .int 0 0, .none, .none] }
 clear F5
 try dsimp only at F6 N6 hlt
 generalize Heap.push (Heap.push h4 { cls := .type "dict_items", data := .fields #[.ref D] }) { cls := .type "dict_itemiterator", data := .fields #[.none, .bool false, .ref D, .int 0 0, .int 0 0, .int 0 0, .none, .none] } = h6 at *
 generalize (Heap.push h4 { cls := .type "dict_items", data := .fields #[.ref D] }).objs.size = it at *
 clear N5 hD5
 k_steps
 refine unhold ?_
 with_reducible rename Fr _ _ _ _ => F7
 with_reducible rename News _ _ _ _ => N7
 refine wpAny_For ?_ (by intro _; with_unfolding_all rfl)
 k_steps
 refine iter_self (N7 _ (.head _)).1 ?_
 refine forLoop_end ?_
 refine wpAny_pyNext_items_end (knd := strKind pw w) (kvs := []) rfl (N7 _ (.head _)).1 (empty_at (N7 (D, dictOf [] 0) (.tail _ (.tail _ (List.mem_append_right _ (List.mem_append_right _ (.tail _ (.tail _ (.tail _ (.head _))))))))).1) rfl (fun h8 he => ⟨rfl, ?_⟩)
 have F8 := frMove (S := [it]) F7 (by simpa using fun e => (N7 _ (.head _)).2.1 e.symm) (by simpa using (N7 _ (.head _)).2.2) (fun b o hb e => he b o (by simpa using hb) e)
 have N8 : News g L' h8 _ := fun p hp => ⟨he _ _ (hlt p hp) (N7 p (.tail _ hp)).1, (N7 p (.tail _ hp)).2⟩
 clear F7 N7
 dsimp only
 refine wpAny_execs_nil ?_
 dsimp only
 k_steps
 refine LoopStep3.next (LoopStep2.intro F8 (fun p hp => N8 p (.tail _ (List.mem_append_right _ hp))) rfl ?_)
 refine Unr.zero (fun h9 tk9 F9 N9 => ?_)
 clear F8 N8
 k_steps
 with_reducible rename Fr h₀ L _ m => F10
 with_reducible rename News h₀ L _ _ => N10
 exact hret _ _ F10 fun p hp => N10 p (.tail _ (.tail _ (.tail _ (.tail _ (.tail _ hp)))))
end
end
section
theorem uni_kw {w : World} {mean : ExcName → Option Value} {mg mb : Str → Option Value} {news : List (Addr × Obj)} (x : Str) (tx : Tok) (ev : Value)
  (dp un : Nat) (gd : Option (List Code)) (cn : Str) (cs : Scope) (a : Addr) (ccd : Value) (cl : List (Str × Addr)) (outer : List Env) (A₀ : Around) (base h₀ : Heap) (L : Addr) (m : Str → Option Value) (s : Shared) (Q E : Value → Shared → Prop)
  (B : Below A₀ base outer h₀) (F : Fr h₀ L s.heap m) (X : (K w.params).In h₀) (N : News h₀ L s.heap news) (T : Top q0 (looseW q0 loose0) mean mg mb h₀) (hk : cs.kind = .function)
  (hd : dp + 1 < recursionLimit) (hu : un + 8 < cLine)
  (hret : ∀ (h' : Heap) (tk' : Nat), Fr h₀ L h' m → News h₀ L h' news → Q (.str x tx) { s with heap := h', toks := tk' }) :
  wpAny (model pw w) (ktrTop dp un gd cn cs L a ccd cl outer) (call (.ref 68) [.str x tx] [("encoding", ev)]) Q E s := by
 refine wpAny_call ?_
 k_dflt (refine' code_def ?k1 ?k2 ?k3 ?k4 ?k5 ?kA ?kF ?kK ?k6 ?k7 ?k8 ?k9 ?kB ?_ ?c2 ?c3 ?c4 ?c5; (case kA => exact rfl); (case kF => exact rfl); (case kK => first | exact rfl | assumption); (case k1 => k_asm); (case k2 => k_asm); (case k3 => k_asm); (case k4 => k_asm); (case k5 => k_asm); (case k6 => k_is); (case k7 => k_is); (case k8 => ktr_room); (case k9 => first | exact BindsTo.of_eq rfl | exact binds_K (by k_in) rfl (by k_is) rfl rfl rfl | (refine' kp_binds ?kx ?ke; (case kx => k_in); (case ke => exact fun u' => rfl))); (case c5 => decide); (case kB => exact locs rfl); (case c2 => exact rfl); (case c3 => exact rfl); (case c4 => exact rfl); k_whole; intro g' L' h' FG' F' N' B' X' T'; (try dsimp only); (try k_lift B'); (try k_fold))
 k_steps
 all_goals (try dsimp only)
 with_reducible rename Fr _ _ _ _ => F9
 with_reducible rename News _ _ _ _ => N9
 exact hret _ _ F9 N9
local macro_rules | `(tactic| walk_at "call builtin:isinstance") => `(tactic| (refine hold ?_))
theorem uni_vt {w : World} {mean : ExcName → Option Value} {mg mb : Str → Option Value} {news : List (Addr × Obj)} (v : Addr) (x : Str) (tx : Tok) (dx : Addr) (sl : Array (Option Value))
  (dp un : Nat) (gd : Option (List Code)) (cn : Str) (cs : Scope) (a : Addr) (ccd : Value) (cl : List (Str × Addr)) (outer : List Env) (A₀ : Around) (base h₀ : Heap) (L : Addr) (m : Str → Option Value) (s : Shared) (Q E : Value → Shared → Prop)
  (B : Below A₀ base outer h₀) (F : Fr h₀ L s.heap m) (X : (K w.params).In h₀) (N : News h₀ L s.heap news) (hv : (v, vtObj x tx dx sl) ∈ news) (hdx : (dx, dictOf [] 0) ∈ news) (T : Top q0 (looseW q0 loose0) mean mg mb h₀) (hk : cs.kind = .function)
  (hd : dp + 1 < 500) (hu : un + 8 < 200)
  (hret : ∀ (h' : Heap) (tk' : Nat), Fr h₀ L h' m → News h₀ L h' news → Q (.ref v) { s with heap := h', toks := tk' }) :
  wpAny (model pw w) (ktrTop dp un gd cn cs L a ccd cl outer) (call (.ref 68) [.ref v]) Q E s := by
 have hd' : dp + 1 < recursionLimit := by first | exact rc1 (by assumption) rfl | (rw [show recursionLimit = 1000 from rfl]; lia)
 refine wpAny_call ?_
 k_dflt (refine' code_def ?k1 ?k2 ?k3 ?k4 ?k5 ?kA ?kF ?kK ?k6 ?k7 ?k8 ?k9 ?kB ?_ ?c2 ?c3 ?c4 ?c5; (case kA => exact rfl); (case kF => exact rfl); (case kK => first | exact rfl | assumption); (case k1 => k_asm); (case k2 => k_asm); (case k3 => k_asm); (case k4 => k_asm); (case k5 => k_asm); (case k6 => k_is); (case k7 => k_is); (case k8 => ktr_room); (case k9 => first | exact BindsTo.of_eq rfl | exact binds_K (by k_in) rfl (by k_is) rfl rfl rfl | (refine' kp_binds ?kx ?ke; (case kx => k_in); (case ke => exact fun u' => rfl))); (case c5 => decide); (case kB => exact locs rfl); (case c2 => exact rfl); (case c3 => exact rfl); (case c4 => exact rfl); k_whole; intro g' L' h' FG' F' N' B' X' T'; (try dsimp only); (try k_lift B'); (try k_fold))
 k_steps
 refine unhold ?_
 with_reducible rename News _ _ _ _ => N1
 with_reducible rename Fr _ _ _ _ => F1
 with_reducible rename Frag.In _ _ => X0
 have X1 := X0.keeps F1.keep
 refine up (lf_isiS X1 v x tx dx sl (N1 _ hv).1 (N1 _ hdx).1 (fun tk1 => ?_)) ?_ ?_
 ·k_steps
  all_goals (try dsimp only)
  with_reducible rename Fr _ _ _ _ => F9
  with_reducible rename News _ _ _ _ => N9
  exact hret _ _ F9 N9
 ·show dp + 1 ≤ 500; first | exact rl1 (by assumption) rfl | lia
 ·show un + 3 ≤ 200; first | exact rl1 (by assumption) rfl | lia
end
section
open PySem.Calls
section
noncomputable def bytesOf (l : List Nat) : Array UInt8 := (l.map fun c => c.toUInt8).toArray
theorem forIn2 {σ : Type} (f : Nat → σ → Sem (ForInStep σ)) (a b : σ) (h1 : ∀ x, f x a = pure (.yield b)) (h2 : ∀ x, f x b = pure (.done b)) : ∀ l : List Nat, l ≠ [] → forIn l a f = pure b
 | [], h => absurd rfl h
 | [x], _ => by rw [List.forIn_cons, h1]; rfl
 | x :: y :: r, _ => by rw [List.forIn_cons, h1]; show forIn (y :: r) b f = _; rw [List.forIn_cons, h2]; rfl
theorem utf8_ascii {c : Nat} (h : c < 128) : Str.utf8Of c = [c.toUInt8] := by unfold Str.utf8Of; rw [if_pos h]
theorem bytes_fold : ∀ (l : List Nat) (acc : Array UInt8), (∀ c ∈ l, c < 128) → l.foldl (fun acc y => acc ++ (Str.utf8Of y).toArray) acc = acc ++ bytesOf l
 | [], acc, _ => by simp [bytesOf]
 | c :: r, acc, h => by
  rw [List.foldl_cons, bytes_fold r _ (fun d hd => h d (List.mem_cons_of_mem _ hd)), utf8_ascii (h c (List.mem_cons_self ..))]
  simp [bytesOf]
open Builtin._codecs in
theorem clean_ascii (l : List Nat) (h : ∀ c ∈ l, c < 128) : Array.findIdx? utf8Codec.bad (strOf l).cps = none := by
 rw [Array.findIdx?_eq_none_iff]
 intro c hc
 have := h c (by simpa [strOf] using hc)
 show Str.isSurrogate c = false
 unfold Str.isSurrogate
 simp; lia
open Builtin._codecs in
theorem encN (id : String) (self : Value) (l : List Nat) (h : ∀ c ∈ l, c < 128) (hl : l.length ≤ 65536) : encodeNarrow id utf8Codec none self (strOf l) = pure (bytesOf l) := by
 delta encodeNarrow
 dsimp only
 rw [Std.Legacy.Range.forIn_eq_forIn_range']
 cases l with
 | nil => rfl
 | cons c r =>
  have hsz : (strOf (c :: r)).cps.size = (c :: r).length := by simp [strOf]
  have hb : (bytesOf (c :: r)).size = (c :: r).length := by simp [bytesOf]
  rw [forIn2 (σ := Nat × Array UInt8 × Faults) _ (0, #[], {}) ((c :: r).length, bytesOf (c :: r), {}) ?h1 ?h2 _ ?h3]
  case h3 => simp [Std.Legacy.Range.size, strOf, Str.length]
  case h1 =>
   intro x
   dsimp only
   rw [if_neg (by simp)]
   have e0 : (strOf (c :: r)).cps[0]? = some c := by simp [strOf]
   have hbad : (!utf8Codec.bad c) = true := by
    have := h c (List.mem_cons_self ..)
    show (!Str.isSurrogate c) = true
    unfold Str.isSurrogate
    simp; lia
   rw [e0]
   dsimp only
   rw [if_pos hbad]
   have e1 : (strOf (c :: r)).cps.extract = (strOf (c :: r)).cps := by simp
   rw [e1, clean_ascii _ h]
   show pure (ForInStep.yield (0 + (strOf (c :: r)).cps.size, Array.foldl (fun acc y => acc ++ (Str.utf8Of y).toArray) #[] ((strOf (c :: r)).cps.extract 0 (strOf (c :: r)).cps.size), ({} : Faults))) = _
   rw [hsz, Nat.zero_add]
   have e2 : (strOf (c :: r)).cps.extract 0 (c :: r).length = (strOf (c :: r)).cps := by rw [← hsz]; simp
   rw [e2, ← Array.foldl_toList]
   have e3 : (strOf (c :: r)).cps.toList = c :: r := by simp [strOf]
   rw [e3, bytes_fold _ _ h]
   simp
  case h2 =>
   intro x
   dsimp only
   rw [if_neg (by rw [hb, sizeLine_eq]; lia)]
   have e4 : (strOf (c :: r)).cps[(c :: r).length]? = none := by rw [← hsz]; simp
   rw [e4]
  rfl
section
variable {prog : Program} {w : World} {A : Around} {E : Value → Shared → Prop} {s : Shared} {l : List Nat} {t u : Tok} {Q : Value → Shared → Prop}
open Builtin Builtin._codecs in
theorem enc_tree (x : Str) (t u : Tok) : «str.encode» ⟨[.str x t, .str (Str.ofString "utf-8") u], []⟩ = (do ret (← encodeRoad "str.encode" (.str x t) x (Str.ofString "utf-8") none)) := by first | rfl | kernel_rfl
theorem enc_call (h : ∀ c ∈ l, c < 128) (hl : l.length ≤ 65536) (hq : ∀ t' k, Q (.bytes (bytesOf l) t') { s with toks := k }) :
  wpAny (model prog w) A (call (.builtin "str.encode") [.str (strOf l) t, .str (Str.ofString "utf-8") u]) Q E s := by
 refine wpAny_call_entry PySem.F.slot_str_encode (typeIs_str _ _ _) PySem.F.entry_str_encode ?_ (PySem.F.args_str_encode_2 _ _)
 rw [enc_tree, encodeRoad_utf8, encN _ _ _ h hl]
 refine wpAny_bind (wpAny_bind (wpAny_pure ?_))
 unfold mkBytes
 rw [if_neg (by simp [bytesOf, sizeLine_eq]; lia)]
 obtain ⟨hh, gg, dd, tt, oo⟩ := s
 exact wpAny_bind (wpAny_fresh (wpAny_pure (wpAny_pure ⟨_, rfl, hq _ _⟩)))
end
open Builtin Builtin._codecs in
theorem find_ascii {l : List Nat} (h : ∀ c ∈ l, c < 128) {p : Nat} (hp : p < l.length) : utf8Decoder.find true (bytesOf l) p = .text [l[p]] (p + 1) := by
 have e : ((bytesOf l).getD p 0).toNat = l[p] := by
  have hb : p < (bytesOf l).size := by simp [bytesOf]; exact hp
  rw [Array.getD_eq_getD_getElem?, Array.getElem?_eq_getElem hb, Option.getD_some]
  simp only [bytesOf, List.getElem_toArray, List.getElem_map]
  have := h _ (List.getElem_mem hp)
  show (UInt8.ofNat l[p]).toNat = _
  exact Nat.mod_eq_of_lt (by lia)
 have e2 : Bytes.utf8At (bytesOf l) p = (.char l[p], p + 1) := by
  unfold Bytes.utf8At
  dsimp only
  rw [e, if_pos (h _ (List.getElem_mem hp))]
 show (match Bytes.utf8At (bytesOf l) p with | (.char c, nx) => Found.char c nx | (.bad _ stop reason, _) => _) = _
 rw [e2]
 rfl
theorem forInN {σ : Type} (f : Nat → σ → Sem (ForInStep σ)) (g : Nat → σ) (n : Nat) (h : ∀ i x, i < n → f x (g i) = pure (.yield (g (i + 1)))) : ∀ (l : List Nat) (i : Nat), i + l.length = n → forIn l (g i) f = pure (g n)
 | [], i, e => by rw [List.forIn_nil]; simp at e; rw [e]
 | x :: r, i, e => by
  rw [List.forIn_cons, h i x (by simp at e; lia)]
  exact forInN f g n h r (i + 1) (by simp at e; lia)
open Builtin Builtin._codecs in
theorem decN (id : String) (l : List Nat) (h : ∀ c ∈ l, c < 128) (hl : l.length ≤ 65536) : runDecoder id utf8Decoder none true (bytesOf l) 0 [] = pure (l.toArray, l.length) := by
 delta runDecoder
 dsimp only
 rw [Std.Legacy.Range.forIn_eq_forIn_range']
 have hsz : (bytesOf l).size = l.length := by simp [bytesOf]
 show ((forIn _ ((fun i => ((i, (l.take i).toArray, ({} : Faults)) : Nat × Array Nat × Faults)) 0) _ : Sem (Nat × Array Nat × Faults)) >>= _) = _
 rw [forInN (σ := Nat × Array Nat × Faults) _ (fun i => (i, (l.take i).toArray, {})) l.length ?h1 _ 0 ?h2]
 case h2 => simp [Std.Legacy.Range.size, hsz]
 case h1 =>
  intro i x hi
  dsimp only
  rw [if_neg (by simp [sizeLine_eq]; lia), if_neg (by rw [hsz]; lia), find_ascii h hi]
  dsimp only
  congr 3
  rw [List.take_succ_eq_append_getElem hi]
  simp
 show (pure ((l.take l.length).toArray, l.length) : Sem (Array Nat × Nat)) = _
 rw [List.take_length]
section
variable {prog : Program} {w : World} {A : Around} {E : Value → Shared → Prop} {s : Shared} {l : List Nat} {t u : Tok} {Q : Value → Shared → Prop}
open Builtin in
theorem dec_entry {c : UInt8} {cs : List UInt8} {t u : Tok} : «bytes.decode» ⟨[.bytes (c :: cs).toArray t, .str (PySem.Str.ofString "utf-8") u], []⟩ = (mkStr (PySem.Str.ofString "utf-8") >>= fun u' => mkStr (PySem.Str.ofString "utf-8") >>= fun e => mkStr (PySem.Str.ofString "bytes.decode") >>= fun d =>
  call (.builtin "_codecs.decode.text") [.bytes (c :: cs).toArray t, e, .none, d] >>= fun v => ret v) := by kernel_rfl
open Builtin in
theorem dec_nil {t u : Tok} : «bytes.decode» ⟨[.bytes #[] t, .str (PySem.Str.ofString "utf-8") u], []⟩ = (rule "bytes.decode.empty" >>= fun u' => retStr Str.empty) := by kernel_rfl
theorem dec_args (a b : Value) : argsOk "bytes.decode" ⟨[a, b], []⟩ := by unfold argsOk; kernel_rfl
theorem dec_call (h : ∀ c ∈ l, c < 128) (hl : l.length ≤ 65536) (hq : ∀ t' k, Q (.str (strOf l) t') { s with toks := k }) :
  wpAny (model prog w) A (call (.builtin "bytes.decode") [.bytes (bytesOf l) t, .str (PySem.Str.ofString "utf-8") u]) Q E s := by
 refine wpAny_call_entry FB.slot_bytes_decode (typeIs_bytes _ _ _) FB.entry_bytes_decode ?_ (dec_args _ _)
 obtain ⟨hh, gg, dd, tt, oo⟩ := s
 cases l with
 | nil =>
  show wpAny _ _ (Builtin.«bytes.decode» ⟨[.bytes #[] t, .str (PySem.Str.ofString "utf-8") u], []⟩) _ _ _
  rw [dec_nil]
  refine wpAny_bind (wpAny_rule (wpAny_bind (wpAny_mkStr (wpAny_pure ⟨_, rfl, hq _ _⟩) (by decide))))
 | cons c r =>
  have hd := fun id => decN id (c :: r) h hl
  have e : bytesOf (c :: r) = (c.toUInt8 :: r.map fun c => c.toUInt8).toArray := rfl
  rw [e] at hd ⊢
  have hx : (strOf (c :: r)).length ≤ sizeLine := by rw [len_strOf, sizeLine_eq]; lia
  have hc : (strOf (c :: r)).cps = (c :: r).toArray := rfl
  rw [← hc] at hd
  generalize (r.map fun c => c.toUInt8) = cs at hd ⊢
  generalize c.toUInt8 = c0 at hd ⊢
  generalize strOf (c :: r) = y at hd hx hq
  generalize (c :: r).length = n at hd
  rw [dec_entry]
  refine wpAny_bind (wpAny_mkStr ?_ (by decide))
  refine wpAny_bind (wpAny_mkStr ?_ (by decide))
  refine wpAny_bind (wpAny_mkStr ?_ (by decide))
  exact wpAny_bind (call_function_meets KBd.kind_text KBd.plain_text KBd.entry_text (KBd.args_text _ _ _ _) (KBd.meets_text hd) ⟨hx, wpAny_pure ⟨_, rfl, hq _ _⟩⟩)
theorem getEncode {M : Model} {A : Around} {E : Value → Shared → Prop} {s : Shared} {x : Str} {t : Tok} {pl : Sem Bool} {Q : Value × List Value → Shared → Prop} (h : Q (.builtin "str.encode", [.str x t]) s) : wpAny M A (getMethod (.str x t) "encode" pl) Q E s := by
 with_reducible exact GM.of (.str x t) (typeIs_str _ _ _) PySem.F.slot_str_encode PySem.F.type_str_encode GM.noRef h
theorem escL_ascii {l : List Nat} (h : ∀ c ∈ l, c ∈ signs) : ∀ c ∈ escL l, c < 128 := by
 intro c hc
 refine ob1_2 (List.mem_flatMap.mp hc) fun a ha hk => ?_
 have hs := h a ha
 simp only [signs, List.mem_cons, List.not_mem_nil, or_false] at hs
 rcases hs with rfl | rfl | rfl | rfl | rfl | rfl | rfl | rfl | rfl | rfl <;> simp [escC] at hk <;> lia
theorem escL_len : ∀ l : List Nat, (escL l).length ≤ 2 * l.length
 | [] => Nat.le_refl _
 | c :: r => by
  have ih := escL_len r
  unfold escL at ih ⊢
  rw [List.flatMap_cons, List.length_append, List.length_cons]
  have : (escC c).length ≤ 2 := by unfold escC; (repeat' split) <;> simp
  lia
end
end
section
noncomputable def SeqOf (h : Heap) (x : Addr) (items : Array Value) : Prop := ∃ o n, h.get? x = some o ∧ o.data = .seq items n
theorem SeqOf.at {h h' : Heap} {x : Addr} {items : Array Value} (s : SeqOf h x items) (k : ∀ o, h.get? x = some o → h'.get? x = some o) : SeqOf h' x items := let ⟨o, n, e, d⟩ := s; ⟨o, n, k _ e, d⟩
section
variable {prog : Program} {w : World} {A : Around} {E : Value → Shared → Prop} {s : Shared}
theorem nextItem {I x : Addr} {i : Nat} {items : Array Value} {v : Value} {Q : Option Value → Shared → Prop} (hit : s.heap.IsTupleIter I x i) (hx : SeqOf s.heap x items) (hv : items[i]? = some v)
  (hq : ∀ h', h'.IsTupleIter I x (i + 1) → Heap.SameBut I s.heap h' → Q (some v) { s with heap := h' }) : wpAny (model prog w) A (pyNext (.ref I)) Q E s := by
 obtain ⟨oi, e1, e2, e3⟩ := id hit
 obtain ⟨ox, n, f1, f2⟩ := hx
 have body : ∀ E' : Value → Shared → Prop, wpAny (model prog w) A (call (.builtin "tuple_iterator.__next__") [.ref I]) (fun r s' => r = v ∧ Q (some v) s') E' s := fun E' => by
  refine wpAny_call_entry PySem.F.slot_tuple_iterator_next hit.typeIs PySem.F.entry_tuple_iterator_next ?_ (PySem.F.args_tuple_iterator_next_1 _)
  refine wpAny_bind (m := field (.ref I) 0) (wpAny_field e1 e3 (x := .ref x) rfl ?_)
  refine wpAny_bind (m := field (.ref I) 1) (wpAny_field e1 e3 (x := .int i 0) rfl ?_)
  refine wpAny_bind (m := seqItems? (.ref x)) (wpAny_seqItems f1 f2 ?_)
  simp only [Int.toNat_natCast, hv]
  refine wpAny_bind (wpAny_setField e1 e3 (by simp) (wpAny_pure ⟨v, rfl, rfl, hq _ ?_ (Heap.SameBut.update ..)⟩))
  refine ⟨_, Heap.get?_update_self _ e1 (Obj.isFreed_of_fields (Obj.data_mapFields e3 _)), (Obj.cls_mapFields ..).trans e2, ?_⟩
  rw [Obj.data_mapFields e3]; simp [rawInt]
 delta pyNext
 refine wpAny_bind (wpAny_attempt (wpAny_callSpecial?_slot (name := Str.ofString "__next__") hit.typeIs PySem.F.slot_tuple_iterator_next (_root_.PySem.wpAny_mono (body _) (fun r s' hr => ?_) fun u' u' z => z)))
 obtain ⟨rfl, hr⟩ := hr
 exact wpAny_pure hr
theorem nextEnd {I x : Addr} {i : Nat} {items : Array Value} {Q : Option Value → Shared → Prop} (hh : A.handled = none) (hit : s.heap.IsTupleIter I x i) (hx : SeqOf s.heap x items) (hv : items[i]? = none)
  (hq : ∀ h', Heap.ExtBut I s.heap h' → Q none { s with heap := h' }) : wpAny (model prog w) A (pyNext (.ref I)) Q E s := by
 obtain ⟨oi, e1, e2, e3⟩ := id hit
 obtain ⟨ox, n, f1, f2⟩ := hx
 have body : ∀ Q' : Value → Shared → Prop, wpAny (model prog w) A (call (.builtin "tuple_iterator.__next__") [.ref I]) Q' (fun e s' => s'.TypeIs e "StopIteration" ∧ Q none s') s := fun Q' => by
  refine wpAny_call_entry PySem.F.slot_tuple_iterator_next hit.typeIs PySem.F.entry_tuple_iterator_next ?_ (PySem.F.args_tuple_iterator_next_1 _)
  refine wpAny_bind (m := field (.ref I) 0) (wpAny_field e1 e3 (x := .ref x) rfl ?_)
  refine wpAny_bind (m := field (.ref I) 1) (wpAny_field e1 e3 (x := .int i 0) rfl ?_)
  refine wpAny_bind (m := seqItems? (.ref x)) (wpAny_seqItems f1 f2 ?_)
  simp only [Int.toNat_natCast, hv]
  refine wpAny_bind (wpAny_rule (wpAny_bind (wpAny_setField e1 e3 (by simp) ?_)))
  refine wpAny_bind (m := newExc (.type "StopIteration") []) ?_
  simp only [newExc, newTuple]
  refine wpAny_bind (wpAny_newObj_type ?_ (by size_fits))
  refine wpAny_bind (m := firstArgMember _ _) (wpAny_of_eq (a := Value.none) (by first | rfl | (simp only [firstArgMember]; rfl)) (wpAny_newObj_type ?_ (by size_fits)))
  simp only [raiseNew]
  refine wpAny_bind (wpAny_handled ?_)
  rw [show A.in1.handled = none from hh]
  exact wpAny_bind (wpAny_pure (wpAny_throw ⟨⟨_, Heap.get?_push_size _ rfl, rfl⟩, hq _ (((Heap.SameBut.update ..).extBut.push _).push _)⟩))
 delta pyNext
 refine wpAny_bind (wpAny_attempt (wpAny_callSpecial?_slot (name := Str.ofString "__next__") hit.typeIs PySem.F.slot_tuple_iterator_next (_root_.PySem.wpAny_mono (body _) (fun r s' hr => hr) fun e s' he => ?_)))
 obtain ⟨ht, hr⟩ := he
 exact wpAny_bind (wpAny_isInstance (T := "StopIteration") (b := true) ht isSubtype_stop (wpAny_pure hr))
theorem walkSeq (hh : A.handled = none) (I x : Addr) (hne : x ≠ I) (vs : List Value) : Walks prog w A I [I, x] [I] vs.length (fun i v => vs[i]? = some v) (fun i h => h.IsTupleIter I x i ∧ SeqOf h x vs.toArray) where
 sub := fun b hb => by simp at hb; simp [hb]
 frame := fun u' u' u' st hk => ⟨st.1.at fun o e => hk I (by simp) o e, st.2.at fun o e => hk x (by simp) o e⟩
 item := fun i s Q E hi st hQ => nextItem st.1 st.2 (v := vs[i]) (by simp [hi]) fun h' hit' hs' =>
  hQ _ h' s.toks (by simp [hi]) ⟨hit', st.2.at fun o e => hs'.extBut x o hne e⟩ fun b o hb e => hs'.extBut b o (fun h => hb (by simp [h])) e
 done := fun s Q E st hQ => nextEnd hh st.1 st.2 (by simp) fun h' he' => hQ h' s.toks fun b o hb e => he' b o (fun h => hb (by simp [h])) e
 self := fun u' u' u' u' st hQ => wpAny_pyIter_tupleiter st.1 hQ
noncomputable abbrev tupIter (x : Addr) : Obj := { cls := .type "tuple_iterator", data := .fields #[.ref x, .int 0 0] }
theorem srcTuple (x : Addr) (vs : List Value) : Src prog w x vs (fun h I i => h.IsTupleIter I x i) (fun h => h.IsTuple x vs.toArray) (tupIter x) (fun u' => True) where
 walks := fun A hh I hne => by have := Walks.tuple (prog := prog) (w := w) hh I x hne vs.toArray; simpa using this
 itAt := fun a k => a.at k
 seqAt := fun a k => a.at k
 seqHas := fun ⟨o, e, _⟩ => ⟨o, e⟩
 itHas := fun ⟨o, e, _⟩ => ⟨o, e⟩
 start := fun e => ⟨_, e, rfl, rfl⟩
 alive := rfl
 iter := fun u' hl hq => wpAny_pyIter_tuple hl hq
 again := fun hit hq => wpAny_pyIter_tupleiter hit hq
theorem iterSub {K : Frag} {C x : Addr} {ob : Obj} {items : Array Value} {n : Nat} {Q : Value → Shared → Prop} (X : K.In s.heap) (hx : s.heap.get? x = some ob) (hc : ob.cls = .ref C) (_hd : ob.data = .seq items n)
  (hs : findIn K (.ref C) "__iter__" = some (some (.builtin "tuple.__iter__"))) (hm : mroIn K C (.type "tuple") = some true) (hq : Q (.ref s.heap.objs.size) { s with heap := s.heap.push (tupIter x) }) :
  wpAny (model prog w) A (pyIter (.ref x)) Q E s := by
 have L0 : Looks (model prog w) s.heap (typeOf (.ref x)) (.ref C) := by rw [← hc]; exact (Looks.ld hx).andThen .now
 have hi : Looks (model prog w) s.heap (isInstance (.ref x) (.type "tuple")) true := L0.andThen (looks_mroIn X hm)
 have fin : ∀ (Q' : Option Value → Shared → Prop) (E' : Value → Shared → Prop), Q' (some (.ref s.heap.objs.size)) { s with heap := s.heap.push (tupIter x) } → wpAny (model prog w) A (do return some (← call (.builtin "tuple.__iter__") [.ref x])) Q' E' s := fun Q' E' q' => by
  refine wpAny_bind (wpAny_call (codeAny_call_builtin PySem.F.slot_tuple_iter.plain PySem.F.entry_tuple_iter (@check_slot (model prog w) _ _ s "tuple.__iter__" "tuple" "__iter__" (.ref x) [] [] _ (by decide +kernel) (by decide +kernel) hi (PySem.F.args_tuple_iter_1 _) ?_)))
  show wpAny _ _ (do ret (← newFields "tuple_iterator" [.ref x, rawInt 0])) _ _ s
  exact wpAny_bind (wpAny_newObj_type (wpAny_pure (wpAny_pure q')) (by size_fits))
 have one : ∀ refuse : Sem Value, wpAny (model prog w) A (callSpecialIfBoundUnlessNone? (.ref x) "__iter__" refuse) (fun r s' => r = some (.ref s.heap.objs.size) ∧ s' = { s with heap := s.heap.push (tupIter x) }) E s := by
  intro refuse
  simp only [callSpecialIfBoundUnlessNone?, bindSpecialIfBound?]
  refine wpAny_holding (wpAny_bind (wpAny_bind (wpAny_bind (L0.here ((looks_findIn X hs).here ?_)))))
  refine wpAny_bind (wpAny_askSetting (wpAny_ite ?_))
  rw [PySem.F.slot_tuple_iter.bind]
  split
  ·exact wpAny_bind (wpAny_pure (wpAny_pure (fin _ _ ⟨rfl, rfl⟩)))
  ·exact wpAny_tryCatch (wpAny_bind (wpAny_pure (wpAny_pure (fin _ _ ⟨rfl, rfl⟩))))
 delta pyIter
 refine wpAny_bind (wpAny_bind (L0.here ((looks_findIn X hs).here ?_)))
 show wpAny _ A (callSpecialIfBoundUnlessNone? (.ref x) "__iter__" _ >>= _) Q E s
 refine wpAny_bind (_root_.PySem.wpAny_mono (one _) (fun r s' hr => ?_) fun u' u' z => z)
 obtain ⟨rfl, rfl⟩ := hr
 exact wpAny_bind (wpAny_specialOf (T := "tuple_iterator") ⟨_, Heap.get?_push_size _ rfl, rfl⟩ PySem.F.slot_tuple_iterator_next.lookup (wpAny_pure hq))
theorem srcSub {K : Frag} {C : Addr} (x : Addr) (ob : Obj) (vs : List Value) (n : Nat) (hc : ob.cls = .ref C) (hd : ob.data = .seq vs.toArray n) (hs : findIn K (.ref C) "__iter__" = some (some (.builtin "tuple.__iter__"))) (hm : mroIn K C (.type "tuple") = some true) :
  Src prog w x vs (fun h I i => h.IsTupleIter I x i) (fun h => h.get? x = some ob) (tupIter x) (fun h => K.In h) where
 walks := fun A hh I hne => by
  have W := walkSeq (prog := prog) (w := w) hh I x hne vs
  exact { sub := W.sub, frame := fun u' u' u' st hk => ⟨st.1.at fun o e => hk I (by simp) o e, hk x (by simp) _ st.2⟩, item := fun i s Q E hi st hQ => W.item i s Q E hi ⟨st.1, ob, n, st.2, hd⟩ fun v h' tk hp st' hk => hQ v h' tk hp ⟨st'.1, hk x ob (by simpa using hne) st.2⟩ hk, done := fun s Q E st hQ => W.done s Q E ⟨st.1, ob, n, st.2, hd⟩ hQ, self := fun i s Q E st hQ => W.self i s Q E ⟨st.1, ob, n, st.2, hd⟩ hQ }
 itAt := fun a k => a.at k
 seqAt := fun a k => k _ a
 seqHas := fun e => ⟨_, e⟩
 itHas := fun ⟨o, e, _⟩ => ⟨o, e⟩
 start := fun e => ⟨_, e, rfl, rfl⟩
 alive := rfl
 iter := fun X hx hq => iterSub X hx hc hd hs hm hq
 again := fun hit hq => wpAny_pyIter_tupleiter hit hq
end
end
section
open Builtin Builtin.Bytes
theorem tbq (b : Array UInt8) (t : Tok) : takeBufferQuiet? "bytes.join" (.bytes b t) 0 = pure (some (b, none)) := by
 have h1 : specialOf (.bytes b t) "__buffer__" = pure (some (.builtin "bytes.__buffer__")) := by
  show (do typeLookup (← typeOf (.bytes b t)) "__buffer__") = _
  show typeLookup (.type "bytes") "__buffer__" = _
  rw [typeLookup_type, builtinLookup_eq_fast]; kernel_rfl
 have h2 : slotIsOwn (.bytes b t) "__buffer__" = pure true := by kernel_rfl
 have h3 : ownRelease (.bytes b t) = pure false := by kernel_rfl
 unfold takeBufferQuiet? takeBuffer? buffer?
 rw [h1, h2, h3]
 rfl
noncomputable def glue (sep : List Nat) : List (List Nat) → List Nat
 | [] => []
 | [x] => x
 | x :: y :: r => x ++ sep ++ glue sep (y :: r)
noncomputable def total (ls : List (List Nat)) : Nat := (ls.map fun l => l.length + 1).sum
theorem total_le {B : Nat} : ∀ {ls : List (List Nat)}, (∀ l ∈ ls, l.length ≤ B) → total ls ≤ ls.length * (B + 1)
 | [], _ => by simp [total]
 | l :: r, h => by
  have := total_le (ls := r) (B := B) fun x hx => h x (.tail _ hx)
  have h1 := h l (.head _)
  simp only [total, List.map_cons, List.sum_cons, List.length_cons, Nat.add_mul, Nat.one_mul] at this ⊢
  lia
theorem glue_len (c : Nat) : ∀ ls : List (List Nat), (glue [c] ls).length ≤ total ls
 | [] => Nat.zero_le _
 | [x] => by simp [glue, total]
 | x :: y :: r => by
  have := glue_len c (y :: r)
  simp only [glue, total, List.map_cons, List.sum_cons, List.length_append, List.length_singleton] at this ⊢
  lia
theorem strOf_append (a b : List Nat) : strOf (a ++ b) = strOf a ++ strOf b := by
 show (⟨(a ++ b).toArray⟩ : Str) = ⟨a.toArray ++ b.toArray⟩
 rw [List.append_toArray]
theorem join_glue (c : Nat) : ∀ ls : List (List Nat), Str.join (strOf [c]) (ls.map strOf) = strOf (glue [c] ls)
 | [] => rfl
 | [x] => rfl
 | x :: y :: r => by
  have := join_glue c (y :: r)
  show strOf x ++ strOf [c] ++ Str.join (strOf [c]) ((y :: r).map strOf) = _
  rw [this, glue, strOf_append, strOf_append]
theorem foldTot (c : Nat) : ∀ (ls : List (List Nat)) (n : Nat), (ls.map strOf).foldl (fun a s => a + s.length + (strOf [c]).length) n = n + total ls
 | [], n => by simp [total]
 | l :: r, n => by
  rw [List.map_cons, List.foldl_cons, foldTot c r, len_strOf, len_strOf]
  simp only [total, List.map_cons, List.sum_cons, List.length_singleton]
  lia
theorem joinOk_glue (c : Nat) (ls : List (List Nat)) (h : total ls ≤ 65536) : JoinOk (strOf [c]) (ls.map strOf) = true := by
 unfold JoinOk
 rw [Bool.not_eq_true']
 unfold Builtin.Str.tooLong
 rw [decide_eq_false_iff_not, List.foldl_toArray, foldTot]
 unfold sizeLine
 lia
noncomputable def txs (ls : List (List Nat × Tok)) : List Value := strValues (ls.map fun p => (strOf p.1, p.2))
theorem joinS {prog : Program} {w : World} {A : Around} {E : Value → Shared → Prop} {Q : Value → Shared → Prop} {s : Shared} {D : Addr} {ls : List (List Nat × Tok)} {k c : Nat} {t : Tok}
  (hD : s.heap.get? D = some (W.listOf (txs ls).toArray k)) (hlen : total (ls.map (·.1)) ≤ 65536) (h : ∀ t' k', Q (.str (strOf (glue [c] (ls.map (·.1)))) t') { s with toks := k' }) :
  wpAny (model prog w) A (call (.builtin "str.join") [.str (strOf [c]) t, .ref D]) Q E s := by
 have e : (ls.map fun p => (strOf p.1, p.2)).map (·.1) = (ls.map (·.1)).map strOf := by simp
 refine SC.join (l := ls.map fun p => (strOf p.1, p.2)) (texts := (ls.map (·.1)).map strOf) ⟨_, hD, rfl, k, rfl⟩ e (joinOk_glue c _ hlen) (fun t' k' => ?_)
 have : Txt.join (strOf [c]) ((ls.map (·.1)).map strOf) = strOf (glue [c] (ls.map (·.1))) := by
  rw [← join_glue]
  show Builtin.Str.glued _ _ = _
  exact StrLaws.glued_eq_join _ _
 rw [this]
 exact h t' k'
theorem bytesOf_append (a b : List Nat) : bytesOf (a ++ b) = bytesOf a ++ bytesOf b := by simp [bytesOf]
theorem joinedFold (sep : List Nat) : ∀ (ls : List (List Nat)) (n : Nat) (x : List Nat), 0 < n → ((ls.map bytesOf).zipIdx n).foldl (fun out (p, i) => (if i > 0 then out ++ bytesOf sep else out) ++ p) (bytesOf x) = bytesOf (glue sep (x :: ls))
 | [], n, x, _ => rfl
 | y :: r, n, x, h => by
  rw [List.map_cons, List.zipIdx_cons, List.foldl_cons]
  dsimp only
  rw [if_pos h, ← bytesOf_append, ← bytesOf_append, joinedFold sep r (n + 1) _ (Nat.succ_pos n)]
  cases r with
  | nil => rfl
  | cons z r => simp [glue]
theorem joined_glue (sep : List Nat) (ls : List (List Nat)) : joined (bytesOf sep) (ls.map bytesOf) = bytesOf (glue sep ls) := by
 unfold joined
 cases ls with
 | nil => rfl
 | cons x r =>
  rw [List.map_cons, List.zipIdx_cons, List.foldl_cons]
  dsimp only
  rw [if_neg (Nat.lt_irrefl 0)]
  have : (#[] : Array UInt8) ++ bytesOf x = bytesOf x := by simp
  rw [this]
  exact joinedFold sep r (0 + 1) x (by lia)
theorem forInInv {β : Type} {M : Model} {A : Around} {E : Value → Shared → Prop} {s : Shared} {f : Nat → β → Sem (ForInStep β)} (I : Nat → β → Prop) :
  ∀ (k a : Nat) (b : β) {Q : β → Shared → Prop}, (∀ i b, a ≤ i → i < a + k → I i b → wpAny M A (f i b) (fun r s' => s' = s ∧ ∃ b', r = .yield b' ∧ I (i + 1) b') E s) → I a b → (∀ b, I (a + k) b → Q b s) →
  wpAny M A (forIn (List.range' a k) b f) Q E s
 | 0, a, b, Q, _, hi, hq => by
  rw [show List.range' a 0 = [] from rfl, List.forIn_nil]
  exact wpAny_pure (hq b hi)
 | k + 1, a, b, Q, hf, hi, hq => by
  rw [List.range'_succ, List.forIn_cons]
  refine wpAny_bind (_root_.PySem.wpAny_mono (hf a b (Nat.le_refl a) (by lia) hi) (fun r s' hr => ?_) (fun u' u' h => h))
  obtain ⟨rfl, b', rfl, hb⟩ := hr
  refine forInInv I k (a + 1) b' (fun i b h1 h2 => hf i b (by lia) (by lia)) hb (fun b h => hq b (by rw [show a + (k + 1) = a + 1 + k by lia]; exact h))
noncomputable def bytesVals (zs : List (List Nat × Tok)) : List Value := zs.map fun p => .bytes (bytesOf p.1) p.2
theorem bj_slot : Slot "bytes" "join" "bytes.join" :=
 .of (owner := "bytes") (n := "join") (by rw [typeLookup_type, builtinLookup_eq_fast]; kernel_rfl) (by decide +kernel) (by decide +kernel) (by decide +kernel)
  (by first | exact .inl (by decide +kernel) | exact .inr (by decide +kernel)) (by rw [isSubtype_type]; kernel_rfl)
theorem bj_type : typeOf (.builtin "bytes.join") = pure (.type "method_descriptor") := by show builtinType _ = _; rw [builtinType_eq_fast]; kernel_rfl
theorem bj_entry : entryFor table "bytes.join" = some Builtin.«bytes.join» := entryFor_of_tree (by kernel_rfl)
theorem bj_args (a b : Value) : argsOk "bytes.join" ⟨[a, b], []⟩ := by unfold argsOk; kernel_rfl
theorem redW {prog : Program} {w : World} {A : Around} {E : Value → Shared → Prop} {α : Type} {Q : α → Shared → Prop} {s : Shared} {items : Array Value} {f : Value → Sem α} {g : Sem α} (h1 : ¬ items.size = 1) (hp : wpAny (model prog w) A g Q E s) :
  wpAny (model prog w) A (match items with | #[x] => f x | _ => g) Q E s := by
 obtain ⟨l⟩ := items
 match l with
 | [] => exact hp
 | [x] => exact absurd rfl h1
 | x :: y :: r => exact hp
theorem joinLetGo_ok {prog : Program} {w : World} {A : Around} {E : Value → Shared → Prop} {Q : Unit → Shared → Prop} {s : Shared} (h : Q () s) : ∀ (tk : List (Value × Option Value)) (keep : List Value), (∀ p ∈ tk, p.2 = none) → wpAny (model prog w) A (joinLetGo tk keep) Q E s
 | [], _, _ => wpAny_pure h
 | (x, u) :: r, keep, hn => by
  have : u = none := hn (x, u) (.head _)
  subst this
  unfold joinLetGo
  exact wpAny_bind (wpAny_letGo (joinLetGo_ok h r keep fun p hp => hn p (.tail _ hp)))
theorem foldSize : ∀ (zs : List (List Nat)) (n : Nat), (zs.map bytesOf).foldl (fun a b => a + b.size) n = n + (zs.map List.length).sum
 | [], n => by simp
 | z :: r, n => by
  rw [List.map_cons, List.foldl_cons, foldSize r]
  simp only [List.map_cons, List.sum_cons, bytesOf, List.size_toArray, List.length_map]
  lia
theorem total_eq : ∀ zs : List (List Nat), total zs = (zs.map List.length).sum + zs.length
 | [] => by simp [total]
 | z :: r => by
  have := total_eq r
  simp only [total, List.map_cons, List.sum_cons, List.length_cons] at this ⊢
  lia
theorem joinB {prog : Program} {w : World} {A : Around} {E : Value → Shared → Prop} {Q : Value → Shared → Prop} {s : Shared} {D : Addr} {zs : List (List Nat × Tok)} {k c : Nat} {t : Tok}
  (hD : s.heap.get? D = some (W.listOf (bytesVals zs).toArray k)) (hlen : total (zs.map (·.1)) ≤ 65536) (h : ∀ t' k', Q (.bytes (bytesOf (glue [c] (zs.map (·.1)))) t') { s with toks := k' }) :
  wpAny (model prog w) A (call (.builtin "bytes.join") [.bytes (bytesOf [c]) t, .ref D]) Q E s := by
 refine wpAny_call_entry bj_slot (typeIs_bytes _ _ _) bj_entry ?_ (bj_args _ _)
 show wpAny _ _ (joinM .bytes _) _ _ _
 unfold joinM
 refine wpAny_bind (wpAny_of_eq (show selfAndOne _ ⟨[.bytes (bytesOf [c]) t, .ref D], []⟩ = pure (.bytes (bytesOf [c]) t, .ref D) from rfl) ?_)
 dsimp only
 have hT : s.TypeIs (.ref D) "list" := ⟨_, hD, rfl⟩
 have hj : ∀ {A : Around} {Q : Value → Shared → Prop} {E : Value → Shared → Prop}, Q (.ref D) s → wpAny (model prog w) A (joinItems (.ref D)) Q E s := fun {A Q E} hq => by
  unfold joinItems
  exact wpAny_bind (wpAny_typeOf hT (wpAny_pure hq))
 refine wpAny_bind (show wpAny _ _ (joinItems (.ref D)) _ _ _ from hj ?_)
 refine wpAny_bind (wpAny_seqItems hD rfl ?_)
 dsimp only
 rw [if_pos (show (Kind.bytes == Kind.bytes) = true from rfl)]
 have hin : ∀ i, i < zs.length → ∃ q ∈ zs, zs[i]? = some q ∧ (bytesVals zs).toArray.getD i .none = .bytes (bytesOf q.1) q.2 := fun i hi => by
  refine ⟨zs[i], List.getElem_mem hi, List.getElem?_eq_getElem hi, ?_⟩
  simp [bytesVals, hi]
 have hsz : (bytesVals zs).toArray.size = zs.length := by simp [bytesVals]
 have hone : ∀ x, (bytesVals zs).toArray = #[x] → ∃ p, zs = [p] ∧ x = .bytes (bytesOf p.1) p.2 := fun x hx => by
  cases zs with
   | nil => simp [bytesVals] at hx
   | cons p r => cases r with
    | nil => exact ⟨p, rfl, by simpa [bytesVals] using hx.symm⟩
    | cons q r => simp [bytesVals] at hx
 generalize (bytesVals zs).toArray = items at *
 by_cases h1 : items.size = 1
 ·obtain ⟨x, rfl⟩ : ∃ x, items = #[x] := ⟨items[0]'(by lia), by apply Array.ext <;> simp [h1]; intro i hi; subst hi; rfl⟩
  refine ob1_2 (hone _ rfl) fun p eq1 eq2 => ?_
  subst eq1
  subst eq2
  refine wpAny_bind (wpAny_of_eq (show typeOf (.bytes (bytesOf p.1) p.2) = pure (.type "bytes") from rfl) ?_)
  rw [if_pos (by decide)]
  exact wpAny_bind (wpAny_rule (wpAny_pure ⟨_, rfl, h _ _⟩))
 ·refine redW h1 ?_
  rw [Std.Legacy.Range.forIn_eq_forIn_range']
  refine wpAny_bind ?_
  refine forInInv (s := s) (fun i (b : Array (Array UInt8) × List (Value × Option Value)) => b.1 = ((zs.take i).map fun p => bytesOf p.1).toArray ∧ ∀ p ∈ b.2, p.1.onHeap = false ∧ p.2 = none) _ _ _ (fun i b h1 h2 hi => ?_) ?_ (fun b hb => ?_)
  ·have hi' : i < zs.length := by simpa [Std.Legacy.Range.size, hsz] using h2
   refine ob1_3 (hin i hi') fun q hq hq1 hq2 => ?_
   refine wpAny_bind (wpAny_seqItems hD rfl ?_)
   dsimp only
   rw [hq2, if_neg (by
    simp only [Bool.or_eq_true, not_or]
    refine ⟨by decide, ?_⟩
    rw [Bool.not_eq_true, List.any_eq_false]
    intro p hp
    simp [(hi.2 p hp).1])]
   refine wpAny_bind (wpAny_holding (show wpAny _ _ (takeBufferQuiet? "bytes.join" _ 0) _ _ _ from wpAny_of_eq (tbq _ _) ?_))
   dsimp only
   refine wpAny_bind (wpAny_seqItems hD rfl ?_)
   dsimp only
   rw [if_neg (by simp)]
   refine wpAny_pure ⟨rfl, _, rfl, ?_, fun p hp => ?_⟩
   ·rw [hi.1, List.take_add_one, hq1]; simp
   ·rcases List.mem_append.mp hp with hp | hp
    ·exact hi.2 p hp
    ·rw [List.mem_singleton.mp hp]; exact ⟨rfl, rfl⟩
  ·exact ⟨by simp, fun p hp => nomatch hp⟩
  ·have hb1 : b.1 = ((zs.map (·.1)).map bytesOf).toArray := by
    have h0 : (0 + [:items.size].size) = zs.length := by simp [Std.Legacy.Range.size, hsz]
    rw [hb.1, h0, List.take_length]; simp
   refine wpAny_bind (wpAny_of_eq (show payload (.bytes (bytesOf [c]) t) = pure (bytesOf [c]) from rfl) ?_)
   rw [hb1, if_neg (by
    unfold tooLong
    rw [decide_eq_true_eq, List.foldl_toArray, foldSize]
    have := total_eq (zs.map (·.1))
    have h1 : (bytesOf [c]).size = 1 := rfl
    rw [h1, List.size_toArray, List.length_map, List.length_map, sizeLine_eq]
    rw [List.length_map] at this
    lia)]
   rw [joined_glue]
   have hg := glue_len c (zs.map (·.1))
   refine wpAny_bind (show wpAny _ _ (mkBytes _) _ _ _ from wpAny_mkBytes ?_ (by rw [sizeLine_eq]; simp only [bytesOf, List.size_toArray, List.length_map]; lia))
   refine wpAny_bind (wpAny_holding (wpAny_point ?_))
   refine wpAny_bind (joinLetGo_ok ?_ _ _ (fun p hp => (hb.2 p hp).2))
   exact wpAny_pure ⟨_, rfl, h _ _⟩
theorem getJoinB {M : Model} {A : Around} {E : Value → Shared → Prop} {s : Shared} {b : Array UInt8} {t : Tok} {pl : Sem Bool} {Q : Value × List Value → Shared → Prop} (h : Q (.builtin "bytes.join", [.bytes b t]) s) : wpAny M A (getMethod (.bytes b t) "join" pl) Q E s := by
 with_reducible exact getMethod_builtin (typeIs_bytes _ _ _) FB.plainAttrs_bytes bj_slot bj_type (fun u' e => nomatch e) h
end
section
local macro_rules | `(tactic| walk_at "wpAt") => `(tactic| (refine hold ?_))
section
local macro_rules | `(tactic| k_inst) => `(tactic| (refine' instP ?N ?h1 ?h2; (case N => k_asm); (case h1 => k_mem); (case h2 => k_mem)))
local macro_rules | `(tactic| walk_at "eval Call Attribute cons cons") => `(tactic| (k_here; k_dflt (refine any_callStar (fun u' => rfl) (fun u' => rfl) ?_)))
local macro_rules | `(tactic| walk_at "getAttr ref") => `(tactic| (refine hold ?_))
theorem cd_init {w : World} {mean : ExcName → Option Value} {mg mb : Str → Option Value} {news : List (Addr × Obj)} (v dx : Addr)
  (dp un : Nat) (gd : Option (List Code)) (cn : Str) (cs : Scope) (a : Addr) (ccd : Value) (cl : List (Str × Addr)) (outer : List Env) (A₀ : Around) (base h₀ : Heap) (L : Addr) (m : Str → Option Value) (s : Shared) (R : Result → Shared → Prop)
  (B : Below A₀ base outer h₀) (F : Fr h₀ L s.heap m) (X : (K w.params).In h₀) (N : News h₀ L s.heap news) (hv : (v, (⟨.ref 324, some dx, .dict #[] 0, #[]⟩ : Obj)) ∈ news) (hdx : (dx, dictOf [] 0) ∈ news) (T : Top q0 (looseW q0 loose0) mean mg mb h₀) (hk : cs.kind = .function)
  (hd : dp + 10 < 500) (hu : un + 80 < 200)
  (hret : ∀ (h' : Heap) (tk' : Nat), Fr h₀ L h' m → News h₀ L h' news → R (.ok (.ret .none)) { s with heap := h', toks := tk' }) :
  codeAny (model pw w) (ktrTop dp un gd cn cs L a ccd cl outer) (.call (.ref 84) ⟨[.ref v], []⟩) R s := by
 k_dflt (refine' both_at (binds := fun C D => [("self", .ref v), ("args", .ref C), ("kwargs", .ref D)]) (vs := []) B F X N T ?hA ?hf ?hke ?ho ?hcd ?room ?hp ?hp2 ?hk2 ?hloc ?_ ?c1 ?c2 ?c3 ?c4; (case hA => exact rfl); (case hf => exact rfl); (case hke => assumption); (case ho => k_is); (case hcd => k_is); (case room => (show dp < 1000; lia)); (case hp => exact rfl); (case hp2 => exact fun u' => rfl); (case hk2 => exact fun u' u' => rfl); (case hloc => exact fun u' u' => locs rfl); (case c1 => decide); (case c2 => exact rfl); (case c3 => exact rfl); (case c4 => exact rfl))
 intro C D g' L' h' l1 l2 lm FG' F' N' B' X' T'
 (try dsimp only)
 (try k_lift B')
 have hv' : (v, (⟨.ref 324, some dx, .dict #[] 0, #[]⟩ : Obj)) ∈ (D, dictOf [] 0) :: (C, tupObj []) :: news := .tail _ (.tail _ hv)
 have hdx' : (dx, dictOf [] 0) ∈ (D, dictOf [] 0) :: (C, tupObj []) :: news := .tail _ (.tail _ hdx)
 refine ks_wpAt_execs_cons (wpAt_of_wpAny ?_)
 k_steps
 refine unhold ?_
 refine ks_wpAt_execs_cons ?_
 refine ks_wpAt_Expr_any ?_
 refine ks_wpAt_MethodCall ?_
 k_dflt (refine super_node (cc := 72) F' X' T' (by k_is) (by rfl) (by rfl) (by k_is) (by rfl) (by first | rfl | decide +kernel) (by k_is) (by k_is) (by k_is) (by decide) (by rfl) (by rfl) (by rfl) (by rfl) (by decide +kernel) (by first | boot_by_name | rfl | kernel_rfl) (by rfl) ?_)
 have I' := instP N' hv' hdx'
 have XX := X'.keeps F'.keep
 obtain ⟨oD, hD1, cdD, hD2⟩ : ∃ oD, h'.get? 195 = some oD ∧ ∃ cd, oD.data = .cls cd := ⟨_, XX 195 _ rfl, _, rfl⟩
 refine ks_wpAny_call_super hD1 hD2 I'.at_ I'.cls (fun c e => by cases e) (looks_mroIn XX (by k_is)) (fun h2 e2 k2 => ?_)
 refine ob0_3 (ks_newsPush (o := ks_superObj 195 v 324) F' N' rfl e2 k2) fun F2 N2 l3 => ?_
 have X2 := X'.keeps F2.keep
 obtain ⟨cdP, hc, hcm⟩ : ∃ cd, clsIn (K w.params) 324 = some cd ∧ cd.mro = [.ref 324, .ref 195, .type "dict", .type "object"] := ⟨_, rfl, rfl⟩
 have hne : (Value.ref v == Value.ref 324) = false := by
  have := ks_ne (C := 324) XX I' hc
  simpa using this
 refine super_meth (c0 := .type "dict") (a0 := .builtin "dict.__init__") (ty := .type "wrapper_descriptor") (gv := some (.builtin "wrapper_descriptor.__get__")) (rest := [.type "object"]) (N2 _ (.head _)).1 (looks_opaque X2 (by k_is))
  (fun A Q E s k q => wpAny_bind ((looks_clsIn X2 hc) A _ E s k (wpAny_pure q))) (by rw [hcm]; decide) (Looks.of_pure (by kernel_rfl)) (Looks.of_pure (by kernel_rfl)) (Looks.of_pure (by kernel_rfl)) (by decide) (fun gg e => ?_) (fun e => by cases e)
 cases e
 rw [hne, if_neg Bool.false_ne_true]
 refine up (lf_mwget X2 v dx (N2 _ (.tail _ hv')).1 (fun q h3 tk3 D3 => ⟨rfl, ?_⟩)) ?_ ?_
 ·have F3 := memFr F2 D3
  have N3 := memNews F2 N2 D3
  have X3 := X'.keeps F3.keep
  refine callMw0 (b := "dict.__init__") (self := .ref v) (N3 _ (.head _)).1 ?_
  refine up (lf_mwcall X3 v dx q (N3 _ (.tail _ (.tail _ hv'))).1 (N3 _ (.head _)).1 (fun tk4 => ?_)) ?_ ?_
  ·dsimp only
   refine ks_wpAt_execs_cons (wpAt_of_wpAny ?_)
   clear N2 N' F2 F' D3 e2 k2
   have FQ := frBinds F3 (fun y => if y = "kwargs" then some (.ref D) else if y = "args" then some (.ref C) else if y = "self" then some (.ref v) else none) (by kernel_rfl)
   clear F3 X3 X2 XX I'
   k_steps
   refine unhold ?_
   have hv3 := List.mem_cons_of_mem (q, mwObj "dict.__init__" v) (List.mem_cons_of_mem (h'.objs.size, ks_superObj 195 v 324) hv')
   have hdx3 := List.mem_cons_of_mem (q, mwObj "dict.__init__" v) (List.mem_cons_of_mem (h'.objs.size, ks_superObj 195 v 324) hdx')
   replace N3 : News g' L' h3 ((q, mwObj "dict.__init__" v) :: (h'.objs.size, ks_superObj 195 v 324) :: (D, dictOf [] 0) :: (C, tupObj []) :: news) := N3
   have I3 := instP N3 hv3 hdx3
   have X3 := X'.keeps FQ.keep
   refine attr_own (C := 324) (ga := "dict.__getattribute__") I3.type (looks_findIn X3 (by k_is)) (by decide) (looks_findIn X3 (by k_is)) (by kernel_rfl) ?_
   refine up (lf_getupd X3 v dx _ (N3 _ hv3).1 (N3 _ hdx3).1 (fun q5 h5 tk5 D5 => ⟨rfl, ?_⟩)) ?_ ?_
   rotate_left
   ·show dp + 1 ≤ 500; first | exact rl1 (by assumption) rfl | lia
   ·show un + 3 ≤ 200; first | exact rl1 (by assumption) rfl | lia
   have F5 := memFr FQ D5
   have N5 : News g' L' h5 ((q5, methodObj (.ref 164) (.ref v)) :: (q, mwObj "dict.__init__" v) :: (h'.objs.size, ks_superObj 195 v 324) :: (D, dictOf [] 0) :: (C, tupObj []) :: news) := memNews FQ N3 D5
   dsimp only
   refine callStar0 F5 N5 X' (C := C) (D := D) (by simp) (by simp) lm (.head _) (by k_is) ?_ ?_ (fun h6 F6 N6 => ?_)
   ·intro Q' q'
    exact nameX_L F5 rfl q' rfl rfl (by decide)
   ·intro Q' E' s' kk q'
    exact wpAny_Name (wpAny_loadName_local rfl rfl (F5.ns.keeps kk) rfl q') (by decide)
   ·have X6 := X'.keeps F6.keep
    refine wpAny_call (ks_codeAny_call_bound (N6 _ (.head _)).1 (upd_spec v dx _ _ _ _ _ _ _ _ _ _ _ _ _ _ _ _ B' F6 X' N6 (.tail _ hv3) (.tail _ hdx3) T' rfl ?_ ?_ (fun h7 tk7 F7 N7 => ?_)))
    rotate_left
    rotate_left
    ·dsimp only
     refine wpAt_of_wpAny ?_
     clear N3 N5 N6 FQ F5 F6 D5
     k_steps
     with_reducible rename Fr h₀ L _ m => F9
     with_reducible rename News h₀ L _ _ => N9
     exact hret _ _ F9 fun p hp => N9 p (.tail _ (.tail _ (.tail _ (.tail _ (.tail _ hp)))))
    ·show dp + 1 + 5 < 500; first | exact rm2 (by assumption) rfl | lia
    ·show un + 3 + 60 < 200; first | exact rm2 (by assumption) rfl | lia
  ·show dp + 1 ≤ 500; first | exact rl1 (by assumption) rfl | lia
  ·show un + 3 ≤ 200; first | exact rl1 (by assumption) rfl | lia
 ·show dp + 1 ≤ 500; first | exact rl1 (by assumption) rfl | lia
 ·show un + 4 ≤ 200; first | exact rl1 (by assumption) rfl | lia
end
section
local macro_rules | `(tactic| walk_at "subscriptTail Name Slice ref ref") => `(tactic| (refine hold ?_))
local macro_rules | `(tactic| walk_at "exec Assign cons DictComp") => `(tactic| (refine hold ?_))
local macro_rules | `(tactic| walk_at "exec For") => `(tactic| (refine hold ?_))
local macro_rules | `(tactic| walk_at "exec For Tuple Call") => `(tactic| (refine hold ?_))
local macro_rules | `(tactic| walk_at "exec For Tuple Call cons nil") => `(tactic| (refine hold ?_))
theorem p_init {w : World} {mean : ExcName → Option Value} {mg mb : Str → Option Value} {news : List (Addr × Obj)} (v dx : Addr)
  (dp un : Nat) (gd : Option (List Code)) (cn : Str) (cs : Scope) (a : Addr) (ccd : Value) (cl : List (Str × Addr)) (outer : List Env) (A₀ : Around) (base h₀ : Heap) (L : Addr) (m : Str → Option Value) (s : Shared) (R : Result → Shared → Prop)
  (B : Below A₀ base outer h₀) (F : Fr h₀ L s.heap m) (X : (K w.params).In h₀) (N : News h₀ L s.heap news) (hv : (v, (⟨.ref 324, some dx, .dict #[] 0, #[]⟩ : Obj)) ∈ news) (hdx : (dx, dictOf [] 0) ∈ news) (T : Top q0 (looseW q0 loose0) mean mg mb h₀) (hk : cs.kind = .function)
  (hd : dp + 12 < 500) (hu : un + 90 < 200)
  (hret : ∀ (h' : Heap) (tk' : Nat), Fr h₀ L h' m → News h₀ L h' news → R (.ok (.ret .none)) { s with heap := h', toks := tk' }) :
  codeAny (model pw w) (ktrTop dp un gd cn cs L a ccd cl outer) (.call (.ref 285) ⟨[.ref v, .none], []⟩) R s := by
 k_dflt (refine' bothCell_at (n1 := "self") (n2 := "args") (n3 := "kwargs") (v1 := .ref v) (vs := [.none]) B F X N T ?hA ?hf ?hke ?ho ?hcd ?room ?hp ?hp2 ?hk2 ?hcs ?hps ?q1 ?q2 ?q3 ?_ ?c2 ?c3 ?c4; (case hA => exact rfl); (case hf => exact rfl); (case hke => assumption); (case ho => k_is); (case hcd => k_is); (case room => (show dp < 1000; lia)); (case hp => exact rfl); (case hp2 => exact fun u' => rfl); (case hk2 => exact fun u' u' => rfl); (case hcs => exact fun u' => rfl); (case hps => exact fun u' => rfl); (case q1 => exact rfl); (case q2 => exact rfl); (case q3 => exact rfl); (case c2 => exact rfl); (case c3 => exact rfl); (case c4 => exact rfl))
 intro C D c o g' L' h' tk l1 l2 l3 l4 lm hoc FG' F' N' B' X' T'
 (try dsimp only)
 (try k_lift B')
 have hkd : Obj.IsDictOf (PySem.strKind pw w) (dictOf [] 0) [] := dict0
 generalize hokw : dictOf [] 0 = okw at N' hkd
 refine ks_wpAt_execs_cons (wpAt_of_wpAny ?_)
 k_steps
 refine unhold ?_
 refine ks_wpAt_execs_cons (wpAt_of_wpAny ?_)
 k_steps
 refine unhold ?_
 k_dflt (refine' slice_tuple_from ?F ?N ?t ?a ?b ?_ ?s ?g ?z; (case F => k_asm); (case N => k_asm); (case t => exact ⟨_, News.get (by assumption) (by k_mem), rfl, _, rfl⟩); (case a => decide); (case b => decide); (case s => with_unfolding_all rfl); (case g => (intro _; with_unfolding_all rfl)); (case z => decide); k_whole); intro _ _ _
 k_steps
 refine unhold ?_
 refine ks_wpAt_execs_cons (wpAt_of_wpAny ?_)
 k_steps
 refine unhold ?_
 k_dflt (refine' dictCompA_nil ?hsw ?hL ?hh ?hclos ?hcell ?hkind ?hnames ?hx ?hy ?hp ?hs ?hF ?_; (case hF => k_asm); (case hsw => with_unfolding_all rfl); (case hL => with_unfolding_all rfl); (case hh => with_unfolding_all rfl); (case hclos => with_unfolding_all rfl); (case hcell => decide); (case hkind => with_unfolding_all rfl); (case hnames => decide); (case hx => with_unfolding_all rfl); (case hy => with_unfolding_all rfl); (case hp => with_unfolding_all rfl); (case hs => intro _; with_unfolding_all rfl))
 k_steps
 with_reducible rename Fr g' L' _ _ => F1
 with_reducible rename News g' L' _ _ => N1
 refine unhold ⟨_, _, rfl, N1.isList (.head _), F1, N1, fun D2 o2 h2 tk2 F2 N2 ne2 hio => ?_⟩
 subst hokw
 refine ks_wpAt_execs_cons ?_
 refine ks_wpAt_Expr_any ?_
 refine at_callStar (fun u' => rfl) ?_
 k_dflt (refine super_node (cc := 275) F2 X' T' (by k_is) (by rfl) (by rfl) (by k_is) (by rfl) (by first | rfl | decide +kernel) (by k_is) (by k_is) (by k_is) (by decide) (by rfl) (by rfl) (by rfl) (by rfl) (by decide +kernel) (by first | boot_by_name | rfl | kernel_rfl) (by rfl) ?_)
 have I2 := instP N2 (v := v) (dx := dx) (by repeat (first | exact hv | refine List.Mem.tail _ ?_)) (by repeat (first | exact hdx | refine List.Mem.tail _ ?_))
 have X2 := X'.keeps F2.keep
 obtain ⟨oD, hD1, cdD, hD2⟩ : ∃ oD, h2.get? 324 = some oD ∧ ∃ cd, oD.data = .cls cd := ⟨_, X2 324 _ rfl, _, rfl⟩
 refine ks_wpAny_call_super hD1 hD2 I2.at_ I2.cls (fun c e => by cases e) (looks_mroIn X2 (by k_is)) (fun h3 e3 k3 => ?_)
 refine ob0_3 (ks_newsPush (s := { s with heap := h2, toks := tk2 }) (h' := h3) (q := h2.objs.size) (o := ks_superObj 324 v 324) F2 N2 rfl e3 k3) fun F3 N3 l5 => ?_
 have X3 := X'.keeps F3.keep
 obtain ⟨cdP, hc, hcm⟩ : ∃ cd, clsIn (K w.params) 324 = some cd ∧ cd.mro = [.ref 324, .ref 195, .type "dict", .type "object"] := ⟨_, rfl, rfl⟩
 have hne : (Value.ref v == Value.ref 324) = false := by
  have := ks_ne (C := 324) X2 I2 hc
  simpa using this
 refine super_attr (c0 := .ref 195) (a0 := .ref 84) (ty := .type "function") (gv := some (.builtin "function.__get__")) (rest := [.type "dict", .type "object"]) (N3 _ (.head _)).1 (looks_opaque X3 (by k_is))
  (fun A Q E s k q => wpAny_bind ((looks_clsIn X3 hc) A _ E s k (wpAny_pure q))) (by rw [hcm]; decide) (looks_ownIn X3 (by first | rfl | kernel_rfl)) (looks_typeIn X3 (by k_is)) (Looks.of_pure PySem.F.ks_slot_function_get.lookup) (by decide) (fun gg e => ?_) (fun e => by cases e)
 cases e
 rw [hne, if_neg Bool.false_ne_true]
 refine fnGet (of := _) (X3 84 _ rfl) rfl rfl ⟨rfl, ?_⟩
 dsimp only
 have F4 := F3.push (methodObj (.ref 84) (.ref v))
 have N4 := News.push F3 N3 (methodObj (.ref 84) (.ref v)) rfl
 refine callStar0 F4 N4 X' (C := h'.objs.size + 1) (D := D) (by repeat (first | exact List.Mem.head _ | refine List.Mem.tail _ ?_)) (by repeat (first | exact List.Mem.head _ | refine List.Mem.tail _ ?_)) lm (.head _) (by k_is) ?_ ?_ (fun h6 F6 N6 => ?_)
 ·intro Q' q'
  exact nameX_L F4 rfl q' rfl rfl (by decide)
 ·intro Q' E' s' kk q'
  exact wpAny_Name (wpAny_loadName_cell rfl rfl rfl ⟨o, kk _ _ (N4 (c, o) (by repeat (first | exact List.Mem.head _ | refine List.Mem.tail _ ?_))).1, hoc⟩ q') (by decide)
 refine call_meth N6 (.head _) ?_
 refine cd_init v dx _ _ _ _ _ _ _ _ _ _ _ _ _ _ _ _ B' F6 X' N6 (by repeat (first | exact hv | refine List.Mem.tail _ ?_)) (by repeat (first | exact hdx | refine List.Mem.tail _ ?_)) T' rfl ?_ ?_ (fun h7 tk7 F7 N7 => ?_)
 ·show dp + 1 + 10 < 500; first | exact rm2 (by assumption) rfl | lia
 ·show un + 3 + 80 < 200; first | exact rm2 (by assumption) rfl | lia
 have lm2 : (D2 == sysModules) = false := by
  have e := (N2 _ (.head _)).2.2
  rw [beq_eq_false_iff_ne]
  rintro rfl
  rw [X' sysModules _ rfl] at e
  cases e
 have T7 : TabAt (PySem.strKind pw w) PyData.str h7 D2 [] := TabAt.ofNews N7 (.tail _ (.tail _ (.head _))) lm2 hio .nil
 clear N1 N2 N3 N4 N6 F1 F2 F3 F4 F6
 refine wpAt_of_wpAny ?_
 k_steps
 refine unhold ?_
 refine For_pair_unrF F7 ?_ (fun u' => rfl)
 refine MethodCall_ ?_
 refine nameX_L F7 rfl ?_ rfl rfl (by decide)
 refine getMethod_tab PySem.F.slot_dict_items PySem.F.type_dict_items T7 ?_
 refine callWith_method0 ?_
 refine call_items_tab T7 F7 N7 ?_
 intro h8 o8 hv8 F8 N8
 refine Iter_strItems_unr (by rfl) (by rfl) (by rfl) (by rfl) hv8 (TabAt.ofNews N8 (.tail _ (.tail _ (.tail _ (.head _)))) lm2 hio .nil) F8 N8 (.inr ⟨_, .tail _ (.tail _ (.tail _ (.head _)))⟩) ?_
 refine UnrI.zero ?_
 intro h9 tk9 F9 N9
 k_steps
 with_reducible rename Fr h₀ L _ m => F10
 with_reducible rename News h₀ L _ _ => N10
 exact hret _ _ F10 fun p hp => N10 p (by repeat (first | exact hp | refine List.Mem.tail _ ?_))
end
end
end
section
local macro_rules | `(tactic| walk_at "eval Name") => `(tactic| (k_here; k_dflt (refine' ld ?k1 ?k2 ?_; (case k1 => k_asm); (case k2 => assumption); k_whole)))
local macro_rules | `(tactic| walk_at "loadName") => `(tactic| (k_here; k_dflt (refine' ldn ?k1 ?k2 ?_; (case k1 => k_asm); (case k2 => assumption); k_whole)))
section
local macro_rules | `(tactic| walk_at "exec While BoolOp") => `(tactic| (k_here; refine hold ?_))
local macro_rules | `(tactic| walk_at "call builtin:len") => `(tactic| (refine hold ?_))
noncomputable def digsF : Nat → Nat → List Nat
 | 0, _ => []
 | k + 1, n => if n = 0 then [] else n % 9 :: digsF k (n / 9)
noncomputable def intVals (ds : List (Nat × Tok)) : List Value := ds.map fun p => .int (p.1 : Int) p.2
theorem intVals_len (ds : List (Nat × Tok)) : (intVals ds).length = ds.length := by simp [intVals]
theorem intVals_snoc (ds : List (Nat × Tok)) (x : Nat) (t : Tok) : intVals (ds ++ [(x, t)]) = intVals ds ++ [.int (x : Int) t] := by simp [intVals]
theorem fdiv9 (y : Nat) : (y : Int).fdiv 9 = ((y / 9 : Nat) : Int) := by
 rw [Int.fdiv_eq_ediv_of_nonneg _ (by decide)]; rfl
theorem fmod9 (y : Nat) : (y : Int).fmod 9 = ((y % 9 : Nat) : Int) := by
 rw [Int.fmod_eq_emod_of_nonneg _ (by decide)]; rfl
theorem digs_step {ds : List (Nat × Tok)} {y x : Nat} {t : Tok} (h : ds.map (·.1) ++ digsF (6 - ds.length) y = digsF 6 x) (hd : ds.length < 6) (hy : 0 < y) :
  (ds ++ [(y % 9, t)]).map (·.1) ++ digsF (6 - (ds ++ [(y % 9, t)]).length) (y / 9) = digsF 6 x := by
 rw [← h]
 have e : 6 - ds.length = (6 - (ds ++ [(y % 9, t)]).length) + 1 := by simp; lia
 rw [e]
 conv => rhs; rw [digsF, if_neg (by lia)]
 simp
theorem digs_stop {ds : List (Nat × Tok)} {y x : Nat} (h : ds.map (·.1) ++ digsF (6 - ds.length) y = digsF 6 x) (hd : 6 ≤ ds.length ∨ y = 0) : ds.map (·.1) = digsF 6 x := by
 rw [← h]
 rcases hd with hd | rfl
 ·rw [show 6 - ds.length = 0 by lia, digsF, List.append_nil]
 ·cases 6 - ds.length with
  | zero => rw [digsF, List.append_nil]
  | succ k => rw [digsF, if_pos rfl, List.append_nil]
inductive InvD (x : Nat) (news : List (Addr × Obj)) (l : Addr) (n : Nat) (m₁ : Str → Option Value) (news₁ : List (Addr × Obj)) : Prop
 | mk (y : Nat) (ty : Tok) (ds : List (Nat × Tok)) (k : Nat) (hy : m₁ "number" = some (.int (y : Int) ty)) (hr : m₁ "digits" = some (.ref l)) (hn : news₁ = (l, W.listOf (intVals ds).toArray k) :: news)
  (hl : ∀ p ∈ news, p.1 < l) (hd : (intVals ds).length ≤ 6) (hm : n = 6 - ds.length) (hcat : ds.map (·.1) ++ digsF (6 - ds.length) y = digsF 6 x)
theorem digits_spec {w : World} {mean : ExcName → Option Value} {mg mb : Str → Option Value} {news : List (Addr × Obj)} (x : Nat) (tx : Tok)
  (dp un : Nat) (gd : Option (List Code)) (cn : Str) (cs : Scope) (a : Addr) (ccd : Value) (cl : List (Str × Addr)) (outer : List Env) (A₀ : Around) (base h₀ : Heap) (L : Addr) (m : Str → Option Value) (s : Shared) (Q E : Value → Shared → Prop)
  (B : Below A₀ base outer h₀) (F : Fr h₀ L s.heap m) (X : (K w.params).In h₀) (N : News h₀ L s.heap news) (T : Top q0 (looseW q0 loose0) mean mg mb h₀) (hk : cs.kind = .function)
  (hd : dp + 1 < recursionLimit) (hu : un + 8 < cLine)
  (hret : ∀ (l : Addr) (ds : List (Nat × Tok)) (k : Nat) (h' : Heap) (tk' : Nat), Fr h₀ L h' m → News h₀ L h' ((l, W.listOf (intVals ds).toArray k) :: news) → (∀ p ∈ news, p.1 < l) → ds.map (·.1) = digsF 6 x → Q (.ref l) { s with heap := h', toks := tk' }) :
  wpAny (model pw w) (ktrTop dp un gd cn cs L a ccd cl outer) (call (.ref 882) [.int (x : Int) tx]) Q E s := by
 refine wpAny_call ?_
 k_dflt cell_enter
 with_reducible rename Fr _ _ _ (fun y => _) => F1
 replace F1 := frBinds F1 (fun y => if y = "number" then some (.int (x : Int) tx) else none) (by kernel_rfl)
 k_steps
 refine unhold ?_
 with_reducible rename Fr _ _ _ (fun y => _) => F1
 with_reducible rename News _ _ _ _ => N1
 with_reducible rename (∀ p ∈ news, p.1 < _) => hl1
 refine While_l (InvD x news) (n₀ := 6) F1 N1
  ⟨x, tx, [], 0, rfl, rfl, rfl, hl1, Nat.zero_le _, rfl, rfl⟩ ?_ (by passes_own)
 rintro n m₁ news₁ h₁ tx₁ F₁ N₁ ⟨y, ty, ds, k, hn, hr, rfl, hl3, hdl, rfl, hcat⟩
 clear F1 N1 hl1
 k_steps
 ·refine unhold ?_
  with_reducible rename Fr _ _ _ _ => F2
  with_reducible rename News _ _ _ _ => N2
  refine len_list (items := (intVals ds).toArray) ⟨_, (N2 _ (.head _)).1, rfl, _, rfl⟩ (by simp; lia) ?_
  k_steps
  ·with_reducible rename Fr _ _ _ _ => F9
   with_reducible rename News _ _ _ _ => N9
   have hsz : (intVals ds).toArray.size = ds.length := by simp [intVals]
   have h6 : ds.length < 6 := by lia
   rw [fdiv9] at F9
   rw [fmod9, List.push_toArray, ← intVals_snoc] at N9
   refine WhileStep.intro F9 N9 ?_ ⟨y / 9, _, ds ++ [(y % 9, _)], k + 1, rfl, hr, rfl, hl3, ?_, rfl, digs_step hcat h6 (by lia)⟩
   ·simp; lia
   ·simp [intVals]; lia
  ·with_reducible rename Fr h₀ L _ _ => F9
   with_reducible rename News h₀ L _ _ => N9
   have hsz : (intVals ds).toArray.size = ds.length := by simp [intVals]
   exact hret _ ds k _ _ F9 N9 hl3 (digs_stop hcat (.inl (by lia)))
 ·with_reducible rename Fr h₀ L _ _ => F9
  with_reducible rename News h₀ L _ _ => N9
  exact hret _ ds k _ _ F9 N9 hl3 (digs_stop hcat (.inr (by lia)))
end
section
local macro_rules | `(tactic| walk_at "exec While Compare") => `(tactic| (k_here; refine hold ?_))
section
set_option maxHeartbeats 0
inductive InvU (x : Str) (tx : Tok) (news : List (Addr × Obj)) (l : Addr) (n : Nat) (m₁ : Str → Option Value) (news₁ : List (Addr × Obj)) : Prop
 | mk (i : Nat) (ti : Tok) (ls : List (Str × Tok)) (k : Nat) (hi : m₁ "i" = some (.int i ti)) (hr : m₁ "result" = some (.ref l)) (hv : m₁ "val" = some (.str x tx))
  (hn : news₁ = (l, W.listOf (strValues ls).toArray k) :: news) (hil : (strValues ls).length ≤ i) (hle : i ≤ x.length) (hm : n = x.length - i) (hcat : cat ls ++ unescL (x.cps.toList.drop i) = unescL x.cps.toList)
inductive InvS (q : Nat) (x : Str) (tx : Tok) (news : List (Addr × Obj)) (r : Addr) (n : Nat) (m₁ : Str → Option Value) (news₁ : List (Addr × Obj)) : Prop
 | mk (i : Nat) (ti : Tok) (c : Addr) (cls rls : List (Str × Tok)) (k k' : Nat) (hi : m₁ "i" = some (.int i ti)) (ht : m₁ "text" = some (.str x tx)) (hr : m₁ "result" = some (.ref r)) (hc : m₁ "current" = some (.ref c))
  (hn : news₁ = (c, W.listOf (strValues cls).toArray k) :: (r, W.listOf (strValues rls).toArray k') :: news) (hl3 : ∀ p ∈ news, p.1 < r) (hl4 : @LT.lt Nat _ r c ∧ AllLt c news) (hcl : (strValues cls).length ≤ i)
  (hrl : (strValues rls).length ≤ i) (hcc : (cat cls).length ≤ i) (hle : i ≤ x.length) (hm : n = x.length - i) (hcat : rls.map (·.1) ++ readAll (splitG q (cat cls) (x.cps.toList.drop i)) = splitS q x)
theorem unesc_spec {hv : Option Value} {w : World} {mean : ExcName → Option Value} {mg mb : Str → Option Value} {news : List (Addr × Obj)} (x : Str) (tx : Tok)
  (dp un : Nat) (gd : Option (List Code)) (cn : Str) (cs : Scope) (a : Addr) (ccd : Value) (cl : List (Str × Addr)) (outer : List Env) (A₀ : Around) (base h₀ : Heap) (L : Addr) (m : Str → Option Value) (s : Shared) (Q E : Value → Shared → Prop)
  (B : Below A₀ base outer h₀) (F : Fr h₀ L s.heap m) (X : (K w.params).In h₀) (N : News h₀ L s.heap news) (T : Top q0 (looseW q0 loose0) mean mg mb h₀) (hk : cs.kind = .function) (hpre : x.length ≤ 65536)
  (hd : dp + 1 < recursionLimit) (hu : un + 8 < cLine)
  (hret : ∀ (t : Tok) (h' : Heap) (tk' : Nat), Fr h₀ L h' m → News h₀ L h' news → Q (.str (unescS x) t) { s with heap := h', toks := tk' }) :
  wpAny (model pw w) (ktrH hv dp un gd cn cs L a ccd cl outer) (call (.ref 45) [.str x tx]) Q E s := by
 refine wpAny_call ?_
 k_dflt cell_enter
 with_reducible rename Fr _ _ _ (fun y => _) => F1
 replace F1 := frBinds F1 (fun y => if y = "val" then some (.str x tx) else none) (by kernel_rfl)
 k_steps
 refine unhold ?_
 with_reducible rename Fr _ _ _ _ => F1
 with_reducible rename News _ _ _ _ => N1
 refine While_l (InvU x tx news) (n₀ := x.length) F1 N1
  ⟨0, _, [], 0, rfl, rfl, rfl, rfl, Nat.le_refl _, Nat.zero_le _, rfl, rfl⟩ ?_ (by passes_own)
 rintro n m₁ news₁ h₁ tx₁ F₁ N₁ ⟨i, ti, ls, k, hi, hr, hv, rfl, hil, hle, rfl, hcat⟩
 clear F1 N1
 k_steps
 ·with_reducible rename Fr _ _ _ _ => F9
  with_reducible rename News _ _ _ _ => N9
  refine WhileStep.intro F9 N9 ?_ ⟨i + 1, _, ls ++ [(_, _)], k + 1, rfl, hr, hv, led_snoc _ _ _ _ _ _, ?_, ?_, rfl, un1 hcat (by lia) (by assumption)⟩
  all_goals (try rw [sv_len])
  all_goals lia
 ·with_reducible rename Fr _ _ _ _ => F9
  with_reducible rename News _ _ _ _ => N9
  refine WhileStep.intro F9 N9 ?_ ⟨i + 2, _, ls ++ [(_, _)], k + 1, rfl, hr, hv, led_snoc _ _ _ _ _ _, ?_, ?_, rfl, un2 hcat (by lia) (by assumption) (by assumption) (by assumption)⟩
  all_goals (try rw [sv_len])
  all_goals lia
 ·with_reducible rename Fr _ _ _ _ => F9
  with_reducible rename News _ _ _ _ => N9
  refine WhileStep.intro F9 N9 ?_ ⟨i + 2, _, ls ++ [(_, _)], k + 1, rfl, hr, hv, led_snoc _ _ _ _ _ _, ?_, ?_, rfl, un3 hcat (by lia) (by assumption) (by assumption) (by assumption)⟩
  all_goals (try rw [sv_len])
  all_goals lia
 ·with_reducible rename Fr _ _ _ _ => F9
  with_reducible rename News _ _ _ _ => N9
  refine WhileStep.intro F9 N9 ?_ ⟨i + 1, _, ls ++ [(_, _)], k + 1, rfl, hr, hv, led_snoc _ _ _ _ _ _, ?_, ?_, rfl, un4 hcat (by lia) (by lia)⟩
  all_goals (try rw [sv_len])
  all_goals lia
 ·with_reducible rename Fr _ _ _ _ => F9
  with_reducible rename News _ _ _ _ => N9
  refine WhileStep.intro F9 N9 ?_ ⟨i + 1, _, ls ++ [(_, _)], k + 1, rfl, hr, hv, led_snoc _ _ _ _ _ _, ?_, ?_, rfl, un5 hcat (by lia) (by assumption)⟩
  all_goals (try rw [sv_len])
  all_goals lia
 ·obtain ⟨e1, e2⟩ := unEnd hcat (by lia)
  refine SC.join (News.isList N₁ (List.Mem.head _)) rfl (e2 hpre) fun t' k' => ?_
  rw [e1]
  k_steps
  with_reducible rename Fr _ _ _ _ => F9
  with_reducible rename News _ _ _ _ => N9
  exact hret _ _ _ F9 (cb_drop N9 fun p hp => List.Mem.tail _ hp)
end
section
local macro_rules | `(tactic| walk_at "call builtin:str.join") => `(tactic| (k_here; k_dflt (refine' join_K ?jN ?jm ?jl ?_; (case jN => k_asm); (case jm => k_mem); (case jl => lia); k_whole); intro t9 k9))
local macro_rules | `(tactic| walk_at "call ref") => `(tactic| (refine hold ?_))
section
set_option maxHeartbeats 400000
theorem splitc_spec {w : World} {mean : ExcName → Option Value} {mg mb : Str → Option Value} {news : List (Addr × Obj)} (x : Str) (tx : Tok)
  (dp un : Nat) (gd : Option (List Code)) (cn : Str) (cs : Scope) (a : Addr) (ccd : Value) (cl : List (Str × Addr)) (outer : List Env) (A₀ : Around) (base h₀ : Heap) (L : Addr) (m : Str → Option Value) (s : Shared) (Q E : Value → Shared → Prop)
  (B : Below A₀ base outer h₀) (F : Fr h₀ L s.heap m) (X : (K w.params).In h₀) (N : News h₀ L s.heap news) (T : Top q0 (looseW q0 loose0) mean mg mb h₀) (hk : cs.kind = .function) (hx : x.length ≤ 65536)
  (hd : dp + 2 < recursionLimit) (hu : un + 16 < cLine)
  (hret : ∀ (l : Addr) (ls : List (Str × Tok)) (k : Nat) (h' : Heap) (tk' : Nat), Fr h₀ L h' m → News h₀ L h' ((l, W.listOf (strValues ls).toArray k) :: news) → (∀ p ∈ news, p.1 < l) → ls.map (·.1) = splitS 44 x → Q (.ref l) { s with heap := h', toks := tk' }) :
  wpAny (model pw w) (ktrTop dp un gd cn cs L a ccd cl outer) (call (.ref 52) [.str x tx]) Q E s := by
 refine wpAny_call ?_
 k_dflt cell_enter
 with_reducible rename Fr _ _ _ (fun y => _) => F1
 replace F1 := frBinds F1 (fun y => if y = "text" then some (.str x tx) else none) (by kernel_rfl)
 k_steps
 all_goals (try refine unhold ?_)
 ·with_reducible rename Fr _ _ _ _ => F1
  with_reducible rename News _ _ _ _ => N1
  rename (∀ p ∈ news, p.1 < _) => hl1
  rename (_ ∧ AllLt _ _) => hl2
  refine While_l2 (InvS 44 x tx news) (n₀ := x.length) F1 N1
   ⟨0, _, _, [], [], 0, 0, rfl, rfl, rfl, rfl, rfl, hl1, hl2, Nat.le_refl _, Nat.le_refl _, Nat.le_refl _, Nat.zero_le _, rfl, rfl⟩ ?_ (by passes_own)
  rintro n m₁ news₁ h₁ tx₁ F₁ N₁ ⟨i, ti, c, cls, rls, k, k', hi, ht, hr, hc, rfl, hl3, hl4, hcl, hrl, hcc, hle, rfl, hcat⟩
  clear F1 N1 hl1 hl2
  k_steps
  ·with_reducible rename Fr _ _ _ _ => F9
   with_reducible rename News _ _ _ _ => N9
   refine WhileStep.intro F9 N9 ?_ ⟨i + 2, _, c, (cls ++ [(_, _)]) ++ [(_, _)], rls, k + 1 + 1, k', rfl, ht, hr, hc, led_snoc2 _ _ _ _ _ _ _ _, hl3, hl4, ?_, ?_, ?_, ?_, rfl, sp1 hcat (by lia) (by assumption)⟩
   all_goals (try rw [sv_len, sv_len])
   all_goals (try rw [cat_len_item, cat_len_item])
   all_goals lia
  ·refine unhold ?_
   refine unesc_spec _ _ _ _ _ _ _ _ _ _ _ _ _ _ _ _ _ _ _ (by k_asm) (by k_asm) (by k_asm) (by k_asm) (by k_asm) rfl (by rw [len_strOf]; lia) (by simp only [depth_deeper]; lia) (by simp only [units_deeper]; lia) ?_
   intro _ _ _ _ _
   k_steps
   with_reducible rename Fr _ _ _ _ => F9
   with_reducible rename News _ _ _ _ => N9
   rename (_ ∧ _ ∧ AllLt _ _) => hq
   replace N9 := drop2 N9
   refine WhileStep.intro F9 N9 ?_ ⟨i + 1, _, _, [], rls ++ [(_, _)], 0, k' + 1, rfl, ht, hr, rfl, led_two _ _ _ _ _ _ _, hl3, hq.2, Nat.zero_le _, ?_, Nat.zero_le _, ?_, rfl, sp2 hcat (by lia) (fun q => by first | lia | exact absurd (q.symm.trans (by assumption : (Txt.item x (i : Int) == Str.ofString "\\") = false)) (by decide)) comma_is (by assumption) (unescS_strOf _)⟩
   all_goals (try rw [sv_len])
   all_goals lia
  ·with_reducible rename Fr _ _ _ _ => F9
   with_reducible rename News _ _ _ _ => N9
   refine WhileStep.intro F9 N9 ?_ ⟨i + 1, _, c, cls ++ [(_, _)], rls, k + 1, k', rfl, ht, hr, hc, led_snoc _ _ _ _ _ _, hl3, hl4, ?_, ?_, ?_, ?_, rfl, sp3 hcat (by lia) (fun q => by first | lia | exact absurd (q.symm.trans (by assumption : (Txt.item x (i : Int) == Str.ofString "\\") = false)) (by decide)) comma_is (by assumption)⟩
   all_goals (try rw [sv_len])
   all_goals (try rw [cat_len_item])
   all_goals lia
  ·refine unhold ?_
   refine unesc_spec _ _ _ _ _ _ _ _ _ _ _ _ _ _ _ _ _ _ _ (by k_asm) (by k_asm) (by k_asm) (by k_asm) (by k_asm) rfl (by rw [len_strOf]; lia) (by simp only [depth_deeper]; lia) (by simp only [units_deeper]; lia) ?_
   intro _ _ _ _ _
   k_steps
   with_reducible rename Fr _ _ _ _ => F9
   with_reducible rename News _ _ _ _ => N9
   rename (_ ∧ _ ∧ AllLt _ _) => hq
   replace N9 := drop2 N9
   refine WhileStep.intro F9 N9 ?_ ⟨i + 1, _, _, [], rls ++ [(_, _)], 0, k' + 1, rfl, ht, hr, rfl, led_two _ _ _ _ _ _ _, hl3, hq.2, Nat.zero_le _, ?_, Nat.zero_le _, ?_, rfl, sp2 hcat (by lia) (fun q => by first | lia | exact absurd (q.symm.trans (by assumption : (Txt.item x (i : Int) == Str.ofString "\\") = false)) (by decide)) comma_is (by assumption) (unescS_strOf _)⟩
   all_goals (try rw [sv_len])
   all_goals lia
  ·with_reducible rename Fr _ _ _ _ => F9
   with_reducible rename News _ _ _ _ => N9
   refine WhileStep.intro F9 N9 ?_ ⟨i + 1, _, c, cls ++ [(_, _)], rls, k + 1, k', rfl, ht, hr, hc, led_snoc _ _ _ _ _ _, hl3, hl4, ?_, ?_, ?_, ?_, rfl, sp3 hcat (by lia) (fun q => by first | lia | exact absurd (q.symm.trans (by assumption : (Txt.item x (i : Int) == Str.ofString "\\") = false)) (by decide)) comma_is (by assumption)⟩
   all_goals (try rw [sv_len])
   all_goals (try rw [cat_len_item])
   all_goals lia
  ·refine unhold ?_
   refine unesc_spec _ _ _ _ _ _ _ _ _ _ _ _ _ _ _ _ _ _ _ (by k_asm) (by k_asm) (by k_asm) (by k_asm) (by k_asm) rfl (by rw [len_strOf]; lia) (by simp only [depth_deeper]; lia) (by simp only [units_deeper]; lia) ?_
   intro _ _ _ _ _
   k_steps
   with_reducible rename Fr _ _ _ _ => F9
   with_reducible rename News _ _ _ _ => N9
   replace N9 := drop1 N9
   rw [strValues_snoc] at N9
   exact hret _ (rls ++ [(_, _)]) (k' + 1) _ _ F9 N9 hl3 (spEnd hcat (by lia) (unescS_strOf _))
 ·with_reducible rename Fr _ _ _ _ => F9
  with_reducible rename News _ _ _ _ => N9
  rename (∀ p ∈ news, p.1 < _) => hl1
  rename ((x.length : Int) = 0) => h0
  exact hret _ [(Str.ofString "", _)] 0 _ _ F9 N9 hl1 (splitS_nil 44 (by lia)).symm
end
section
set_option maxHeartbeats 400000
theorem splits_spec {hv : Option Value} {w : World} {mean : ExcName → Option Value} {mg mb : Str → Option Value} {news : List (Addr × Obj)} (x : Str) (tx : Tok)
  (dp un : Nat) (gd : Option (List Code)) (cn : Str) (cs : Scope) (a : Addr) (ccd : Value) (cl : List (Str × Addr)) (outer : List Env) (A₀ : Around) (base h₀ : Heap) (L : Addr) (m : Str → Option Value) (s : Shared) (Q E : Value → Shared → Prop)
  (B : Below A₀ base outer h₀) (F : Fr h₀ L s.heap m) (X : (K w.params).In h₀) (N : News h₀ L s.heap news) (T : Top q0 (looseW q0 loose0) mean mg mb h₀) (hk : cs.kind = .function) (hx : x.length ≤ 65536)
  (hd : dp + 2 < recursionLimit) (hu : un + 16 < cLine)
  (hret : ∀ (l : Addr) (ls : List (Str × Tok)) (k : Nat) (h' : Heap) (tk' : Nat), Fr h₀ L h' m → News h₀ L h' ((l, W.listOf (strValues ls).toArray k) :: news) → (∀ p ∈ news, p.1 < l) → ls.map (·.1) = splitS 59 x → Q (.ref l) { s with heap := h', toks := tk' }) :
  wpAny (model pw w) (ktrH hv dp un gd cn cs L a ccd cl outer) (call (.ref 59) [.str x tx]) Q E s := by
 refine wpAny_call ?_
 k_dflt cell_enter
 with_reducible rename Fr _ _ _ (fun y => _) => F1
 replace F1 := frBinds F1 (fun y => if y = "text" then some (.str x tx) else none) (by kernel_rfl)
 k_steps
 all_goals (try refine unhold ?_)
 ·with_reducible rename Fr _ _ _ _ => F1
  with_reducible rename News _ _ _ _ => N1
  rename (∀ p ∈ news, p.1 < _) => hl1
  rename (_ ∧ AllLt _ _) => hl2
  refine While_l2 (InvS 59 x tx news) (n₀ := x.length) F1 N1
   ⟨0, _, _, [], [], 0, 0, rfl, rfl, rfl, rfl, rfl, hl1, hl2, Nat.le_refl _, Nat.le_refl _, Nat.le_refl _, Nat.zero_le _, rfl, rfl⟩ ?_ (by passes_own)
  rintro n m₁ news₁ h₁ tx₁ F₁ N₁ ⟨i, ti, c, cls, rls, k, k', hi, ht, hr, hc, rfl, hl3, hl4, hcl, hrl, hcc, hle, rfl, hcat⟩
  clear F1 N1 hl1 hl2
  k_steps
  ·with_reducible rename Fr _ _ _ _ => F9
   with_reducible rename News _ _ _ _ => N9
   refine WhileStep.intro F9 N9 ?_ ⟨i + 2, _, c, (cls ++ [(_, _)]) ++ [(_, _)], rls, k + 1 + 1, k', rfl, ht, hr, hc, led_snoc2 _ _ _ _ _ _ _ _, hl3, hl4, ?_, ?_, ?_, ?_, rfl, sp1 hcat (by lia) (by assumption)⟩
   all_goals (try rw [sv_len, sv_len])
   all_goals (try rw [cat_len_item, cat_len_item])
   all_goals lia
  ·refine unhold ?_
   refine unesc_spec _ _ _ _ _ _ _ _ _ _ _ _ _ _ _ _ _ _ _ (by k_asm) (by k_asm) (by k_asm) (by k_asm) (by k_asm) rfl (by rw [len_strOf]; lia) (by simp only [depth_deeper]; lia) (by simp only [units_deeper]; lia) ?_
   intro _ _ _ _ _
   k_steps
   with_reducible rename Fr _ _ _ _ => F9
   with_reducible rename News _ _ _ _ => N9
   rename (_ ∧ _ ∧ AllLt _ _) => hq
   replace N9 := drop2 N9
   refine WhileStep.intro F9 N9 ?_ ⟨i + 1, _, _, [], rls ++ [(_, _)], 0, k' + 1, rfl, ht, hr, rfl, led_two _ _ _ _ _ _ _, hl3, hq.2, Nat.zero_le _, ?_, Nat.zero_le _, ?_, rfl, sp2 hcat (by lia) (fun q => by first | lia | exact absurd (q.symm.trans (by assumption : (Txt.item x (i : Int) == Str.ofString "\\") = false)) (by decide)) semi_is (by assumption) (unescS_strOf _)⟩
   all_goals (try rw [sv_len])
   all_goals lia
  ·with_reducible rename Fr _ _ _ _ => F9
   with_reducible rename News _ _ _ _ => N9
   refine WhileStep.intro F9 N9 ?_ ⟨i + 1, _, c, cls ++ [(_, _)], rls, k + 1, k', rfl, ht, hr, hc, led_snoc _ _ _ _ _ _, hl3, hl4, ?_, ?_, ?_, ?_, rfl, sp3 hcat (by lia) (fun q => by first | lia | exact absurd (q.symm.trans (by assumption : (Txt.item x (i : Int) == Str.ofString "\\") = false)) (by decide)) semi_is (by assumption)⟩
   all_goals (try rw [sv_len])
   all_goals (try rw [cat_len_item])
   all_goals lia
  ·refine unhold ?_
   refine unesc_spec _ _ _ _ _ _ _ _ _ _ _ _ _ _ _ _ _ _ _ (by k_asm) (by k_asm) (by k_asm) (by k_asm) (by k_asm) rfl (by rw [len_strOf]; lia) (by simp only [depth_deeper]; lia) (by simp only [units_deeper]; lia) ?_
   intro _ _ _ _ _
   k_steps
   with_reducible rename Fr _ _ _ _ => F9
   with_reducible rename News _ _ _ _ => N9
   rename (_ ∧ _ ∧ AllLt _ _) => hq
   replace N9 := drop2 N9
   refine WhileStep.intro F9 N9 ?_ ⟨i + 1, _, _, [], rls ++ [(_, _)], 0, k' + 1, rfl, ht, hr, rfl, led_two _ _ _ _ _ _ _, hl3, hq.2, Nat.zero_le _, ?_, Nat.zero_le _, ?_, rfl, sp2 hcat (by lia) (fun q => by first | lia | exact absurd (q.symm.trans (by assumption : (Txt.item x (i : Int) == Str.ofString "\\") = false)) (by decide)) semi_is (by assumption) (unescS_strOf _)⟩
   all_goals (try rw [sv_len])
   all_goals lia
  ·with_reducible rename Fr _ _ _ _ => F9
   with_reducible rename News _ _ _ _ => N9
   refine WhileStep.intro F9 N9 ?_ ⟨i + 1, _, c, cls ++ [(_, _)], rls, k + 1, k', rfl, ht, hr, hc, led_snoc _ _ _ _ _ _, hl3, hl4, ?_, ?_, ?_, ?_, rfl, sp3 hcat (by lia) (fun q => by first | lia | exact absurd (q.symm.trans (by assumption : (Txt.item x (i : Int) == Str.ofString "\\") = false)) (by decide)) semi_is (by assumption)⟩
   all_goals (try rw [sv_len])
   all_goals (try rw [cat_len_item])
   all_goals lia
  ·refine unhold ?_
   refine unesc_spec _ _ _ _ _ _ _ _ _ _ _ _ _ _ _ _ _ _ _ (by k_asm) (by k_asm) (by k_asm) (by k_asm) (by k_asm) rfl (by rw [len_strOf]; lia) (by simp only [depth_deeper]; lia) (by simp only [units_deeper]; lia) ?_
   intro _ _ _ _ _
   k_steps
   with_reducible rename Fr _ _ _ _ => F9
   with_reducible rename News _ _ _ _ => N9
   replace N9 := drop1 N9
   rw [strValues_snoc] at N9
   exact hret _ (rls ++ [(_, _)]) (k' + 1) _ _ F9 N9 hl3 (spEnd hcat (by lia) (unescS_strOf _))
 ·with_reducible rename Fr _ _ _ _ => F9
  with_reducible rename News _ _ _ _ => N9
  rename (∀ p ∈ news, p.1 < _) => hl1
  rename ((x.length : Int) = 0) => h0
  exact hret _ [(Str.ofString "", _)] 0 _ _ F9 N9 hl1 (splitS_nil 59 (by lia)).symm
end
end
end
end
theorem escL_cons (c : Nat) (l : List Nat) : escL (c :: l) = escC c ++ escL l := by simp [escL]
theorem escC_cases (c : Nat) : (∃ x, escC c = [92, x] ∧ x ∈ [92, 44, 59, 58, 110, 78] ∧ (if x ∈ [110, 78] then 10 else x) = c) ∨ (escC c = [c] ∧ c ≠ 92 ∧ c ≠ 44 ∧ c ≠ 59) := by
 delta escC
 by_cases h1 : c = 92
 ·exact .inl ⟨92, by simp [h1], by decide, by simp [h1]⟩
 ·by_cases h2 : c = 59
  ·exact .inl ⟨59, by simp [h2], by decide, by simp [h2]⟩
  ·by_cases h3 : c = 44
   ·exact .inl ⟨44, by simp [h3], by decide, by simp [h3]⟩
   ·by_cases h4 : c = 10
    ·exact .inl ⟨110, by simp [h4], by decide, by simp [h4]⟩
    ·exact .inr ⟨by simp [h1, h2, h3, h4], h1, h3, h2⟩
theorem unesc_esc : ∀ l : List Nat, unescL (escL l) = l
 | [] => rfl
 | c :: l => by
  rw [escL_cons]
  rcases escC_cases c with ⟨x, e, hx, hc⟩ | ⟨e, h1, _⟩
  ·rw [e]
   show unescL (92 :: x :: escL l) = _
   rw [unescL_two hx, hc, unesc_esc l]
  ·rw [e]
   show unescL (c :: escL l) = _
   rw [unescL_plain (.inl h1), unesc_esc l]
theorem split_esc {sep : Nat} (hs : sep = 44 ∨ sep = 59) : ∀ (l cur rest : List Nat), splitG sep cur (escL l ++ rest) = splitG sep (cur ++ escL l) rest
 | [], cur, rest => by simp [escL]
 | c :: l, cur, rest => by
  rw [escL_cons]
  rcases escC_cases c with ⟨x, e, _, _⟩ | ⟨e, h1, h2, h3⟩
  ·rw [e]
   show splitG sep cur (92 :: x :: (escL l ++ rest)) = _
   rw [splitG_bs, split_esc hs l]
   simp
  ·rw [e]
   show splitG sep cur (c :: (escL l ++ rest)) = _
   rw [splitG_one _ _ (.inl h1) (by rcases hs with rfl | rfl <;> assumption), split_esc hs l]
   simp
theorem split_glue {sep : Nat} (hs : sep = 44 ∨ sep = 59) : ∀ (ls : List (List Nat)), ls ≠ [] → (splitG sep [] (glue [sep] (ls.map escL))).map unescL = ls
 | [], h => absurd rfl h
 | [x], _ => by
  have := split_esc hs x [] []
  rw [List.append_nil, splitG_nil] at this
  show (splitG sep [] (escL x)).map unescL = _
  rw [this]
  simp [unesc_esc]
 | x :: y :: r, _ => by
  have ih := split_glue hs (y :: r) (by simp)
  have h92 : sep ≠ 92 := by rcases hs with rfl | rfl <;> decide
  show (splitG sep [] (escL x ++ [sep] ++ glue [sep] ((y :: r).map escL))).map unescL = _
  rw [List.append_assoc, split_esc hs x]
  show (splitG sep ([] ++ escL x) (sep :: glue [sep] ((y :: r).map escL))).map unescL = _
  rw [splitG_sep _ _ (.inl h92) rfl, List.map_cons, ih]
  simp [unesc_esc]
section
open PySem.Calls PySem.Spec
section
inductive TrC (h base : Heap) (e : Addr) (X : String) (fl ctx : Value) : Prop
 | mk (oe : Obj) (vs : Array Value) (T : Addr) (oT : Obj) (ts : Array Value) (c0 : h.get? e = some oe) (c1 : oe.cls = .type X) (c2 : oe.data = .fields vs) (c3 : vs[1]? = some (.ref T)) (c4 : vs[2]? = some ctx) (c5 : base.get? T = none) (c6 : T ≠ e) (c7 : h.get? T = some oT) (c8 : oT.data = .fields ts) (c9 : ts[3]? = some fl)
noncomputable def SC (base : Heap) (l : List Env) (e : Addr) (X : String) (fl ctx : Value) (h : Heap) : Prop := base.StaysIn h ∧ base.get? e = none ∧ h.FunFrames base l ∧ TrC h base e X fl ctx
section
variable {M : Model} {A : Around} {E : Value → Shared → Prop} {s : Shared} {base : Heap} {env : Env} {outer : List Env} {L e : Addr} {X : String} {ctx fl : Value} {Q : Unit → Shared → Prop}
theorem entryC {oe : Obj} {vs : Array Value} {head : Value} {hadNext : Bool}
  (hfr : A.frames = some (env :: outer)) (hl : s.heap.FunFrames base (env :: outer)) (hf : env.frame = some L) (he : s.heap.get? e = some oe) (hX : oe.cls = .type X) (hkb : base.StaysIn s.heap) (hen : base.get? e = none) (hd : oe.data = .fields vs) (hsz : 2 < vs.size) (h2 : vs[2]? = some ctx)
  (h : ∀ h', SC base (env :: outer) e X (rawInt L) ctx h' → s.heap.UpToSlots h' → Q () { s with heap := h' }) :
  wpAny M A (do let a ← frameOf env; let pl ← entryPlaceOf L hadNext; let b ← EntryCells.newEntry head a .none (rawInt L) .none pl; setField (.ref e) 1 b) Q E s := by
 have hene : e ∉ (env :: outer).filterMap (·.frame) := fun hm => by
  obtain ⟨_, o, ho, hnf⟩ := hl.mem hm
  rw [he] at ho; cases ho; exact hnf vs hd
 refine wpAny_bind (wpAny_frameOf_fun hfr hl hf fun h₁ hs₁ => ?_)
 refine wpAny_bind (wpAny_entryPlaceOf fun pl hpl => ?_)
 delta EntryCells.newEntry newFields
 refine wpAny_bind (wpAny_newObj_type ?_ (hpl.sizeOk5 _ _ _ _ _))
 have he₁ : h₁.get? e = some oe := (hs₁.2.1 e hene).trans he
 have kb₁ : base.StaysIn h₁ := fun b o hbo => (hs₁.2.1 b fun hm => by rw [(hl.mem hm).1] at hbo; cases hbo).trans (hkb b o hbo)
 generalize hlist : ([head, .ref L, .none, rawInt L, .none] ++ (if pl.isEmpty then List.replicate 6 Value.none else pl)).toArray = rec at *
 have hrec : rec[3]? = some (rawInt L) := by rw [← hlist]; simp
 have he₂ := Heap.get?_push_of_some (h := h₁) ({ cls := .type "traceback", dict := none, data := .fields rec } : Obj) he₁
 refine wpAny_setField he₂ hd (by lia) (h _ ?_ ?_)
 all_goals
  have hTe : h₁.objs.size ≠ e := Nat.ne_of_gt (Heap.lt_size he₁)
  have keep : ∀ b o, b ≠ e → h₁.get? b = some o → ((h₁.push { cls := .type "traceback", dict := none, data := .fields rec }).update e (Obj.mapFields (·.setIfInBounds 1 (Value.ref h₁.objs.size)))).get? b = some o := fun b o hbe hb => by
   rw [Heap.get?_update_other _ _ (Ne.symm hbe)]
   exact Heap.get?_push_of_some _ hb
  have noRecord : ∀ b o, s.heap.get? b = some o → (∀ vs, o.data ≠ .fields vs) → b ≠ e := fun b o hb hnf q => by
   rw [q, he] at hb; cases hb; exact hnf vs hd
 ·refine ⟨fun b o hbo => keep b o (fun q => by rw [q, hen] at hbo; cases hbo) (kb₁ b o hbo), hen, hl.of_keeps fun b o hb hnf => ?_, ?_⟩
  ·obtain ⟨sl, hs⟩ := hs₁.2.2 b o hb
   exact ⟨_, keep b _ (noRecord b o hb hnf) hs, rfl⟩
  ·have hd₃ := Obj.data_mapFields hd (·.setIfInBounds 1 (Value.ref h₁.objs.size))
   refine ⟨_, vs.setIfInBounds 1 (.ref h₁.objs.size), h₁.objs.size, { cls := .type "traceback", dict := none, data := .fields rec }, rec, Heap.get?_update_self _ he₂ (Obj.isFreed_of_fields hd₃), (Obj.cls_mapFields _ _).trans hX, hd₃, by rw [Array.getElem?_setIfInBounds, if_pos rfl, if_pos (by lia)], by rw [Array.getElem?_setIfInBounds_ne (by decide)]; exact h2, kb₁.fresh, hTe, ?_, rfl, hrec⟩
   rw [Heap.get?_update_other _ _ (Ne.symm hTe)]
   exact Heap.get?_push_size h₁ rfl
 ·intro b o hb hnf
  obtain ⟨sl, hs⟩ := hs₁.2.2 b o hb
  exact ⟨sl, keep b _ (noRecord b o hb hnf) hs⟩
theorem upd3 {T : Addr} {oT : Obj} {ts : Array Value} {x : Value} {h : Heap} (hT : h.get? T = some oT) (hdT : oT.data = .fields ts) (S : SC base (env :: outer) e X fl ctx h) (hb : base.get? T = none) :
  base.StaysIn (h.update T (Obj.mapFields (·.setIfInBounds 3 x))) ∧ (h.update T (Obj.mapFields (·.setIfInBounds 3 x))).FunFrames base (env :: outer) ∧ h.UpToSlots (h.update T (Obj.mapFields (·.setIfInBounds 3 x))) := by
 have other : ∀ b, b ≠ T → (h.update T (Obj.mapFields (·.setIfInBounds 3 x))).get? b = h.get? b := fun b hb => Heap.get?_update_other _ _ (Ne.symm hb)
 have noRecord : ∀ b o, h.get? b = some o → (∀ vs, o.data ≠ .fields vs) → b ≠ T := fun b o hb hnf q => by
  rw [q, hT] at hb; cases hb; exact hnf ts hdT
 exact ⟨fun b o hbo => (other b fun q => by rw [q, hb] at hbo; cases hbo).trans (S.1 b o hbo), S.2.2.1.of_keeps fun b o hb hnf => ⟨o, (other b (noRecord b o hb hnf)).trans hb, rfl⟩,
  fun b o hb hnf => ⟨o.slots, (other b (noRecord b o hb hnf)).trans hb⟩⟩
theorem flightC (S : SC base (env :: outer) e X fl ctx s.heap) (h : ∀ h', SC base (env :: outer) e X .none ctx h' → s.heap.UpToSlots h' → Q () { s with heap := h' }) : wpAny M A (setFlight (.ref e) none) Q E s := by
 obtain ⟨oe, vs, T, oT, ts, he, hX, hd, h1, h2, hnT, hTe, hT, hdT, h3⟩ := id S.2.2.2
 have hsz3 : 3 < ts.size := (Array.getElem?_eq_some_iff.mp h3).1
 delta setFlight
 refine wpAny_bind (wpAny_field he hd h1 ?_)
 refine w_if (show (Value.ref T != Value.none) = true from by simp) ?_
 refine ob0_3 (upd3 (x := (none : Option Addr).elim Value.none fun f => rawInt f) hT hdT S hnT) fun u1 u2 u3 => ?_
 refine wpAny_setField hT hdT hsz3 (h _ ⟨u1, S.2.1, u2, ?_⟩ u3)
 exact ⟨oe, vs, T, _, _, (Heap.get?_update_other _ _ hTe).trans he, hX, hd, h1, h2, hnT, hTe, Heap.get?_update_self _ hT (Obj.isFreed_of_fields (Obj.data_mapFields hdT _)), Obj.data_mapFields hdT _, by simp [hsz3]⟩
theorem noteC (hfr : A.frames = some (env :: outer)) (hf : env.frame = some L) (S : SC base (env :: outer) e X .none ctx s.heap) (h : ∀ h', SC base (env :: outer) e X (rawInt L) ctx h' → s.heap.UpToSlots h' → Q () { s with heap := h' }) : wpAny M A (noteFrame (.ref e) env) Q E s := by
 obtain ⟨oe, vs, T, oT, ts, he, hX, hd, h1, h2, hnT, hTe, hT, hdT, h3⟩ := id S.2.2.2
 delta noteFrame
 simp only [hf]
 refine wpAny_bind (wpAny_field he hd h1 ?_)
 refine w_if (show (Value.ref T != Value.none) = true from by simp) ?_
 refine wpAny_bind (wpAny_field hT hdT h3 ?_)
 refine w_else (show ¬ ((Value.none == rawInt L) = true) from by simp [rawInt]) ?_
 refine wpAny_bind (wpAny_setField hT hdT (Array.getElem?_eq_some_iff.mp h3).1 ?_)
 refine ob0_3 (upd3 (x := .none) hT hdT S hnT) fun u1 u2 u3 => ?_
 exact entryC hfr u2 hf ((Heap.get?_update_other _ _ hTe).trans he) hX u1 S.2.1 hd (Array.getElem?_eq_some_iff.mp h2).1 h2 fun h' S' U => h h' S' (u3.trans U)
theorem firstC {oe : Obj} {vs : Array Value} (hfr : A.frames = some (env :: outer)) (hl : s.heap.FunFrames base (env :: outer)) (hf : env.frame = some L) (he : s.heap.get? e = some oe) (hX : oe.cls = .type X) (hkb : base.StaysIn s.heap) (hen : base.get? e = none) (hd : oe.data = .fields vs) (h1 : vs[1]? = some .none) (h2 : vs[2]? = some ctx)
  (h : ∀ h', SC base (env :: outer) e X .none ctx h' → s.heap.UpToSlots h' → Q () { s with heap := h' }) : wpAny M A (leaving env (.ref e)) Q E s := by
 delta leaving noteFrame
 simp only [hf]
 refine wpAny_bind (wpAny_bind (wpAny_field he hd h1 ?_))
 refine w_else (by decide) ?_
 exact entryC hfr hl hf he hX hkb hen hd (Array.getElem?_eq_some_iff.mp h2).1 h2 fun h₁ S₁ U₁ => flightC S₁ fun h₂ S₂ U₂ => h h₂ S₂ (U₁.trans U₂)
end
noncomputable def RaisedC (base G : Heap) (l : List Env) (e : Addr) (X : String) (ctx : Value) (news : List (Addr × Obj)) (h : Heap) : Prop :=
 ∃ B, base.StaysIn B ∧ (∀ b o, G.get? b = some o → b ∉ l.filterMap (·.frame) → B.get? b = some o) ∧ (∀ q ∈ news, B.get? q.1 = some q.2 ∧ G.get? q.1 = none ∧ base.get? q.1 = none) ∧ SC B l e X .none ctx h
section
variable {M : Model} {A : Around} {E : Value → Shared → Prop} {s' : Shared} {base g h : Heap} {outer : List Env} {L a e : Addr} {m : Str → Option Value} {name : Str} {scope : Scope} {cd : Value} {Q : Unit → Shared → Prop} {news : List (Addr × Obj)} {X : String} {ctx : Value}
theorem leaveC {oe : Obj} {vs : Array Value} (K : Below A base outer g) (hkeep : ∀ b o, h.get? b = some o → s'.heap.get? b = some o) (hnew : h.get? e = none) (he : s'.heap.get? e = some oe) (hX : oe.cls = .type X) (hd : oe.data = .fields vs) (h1 : vs[1]? = some .none) (h2 : vs[2]? = some ctx) (F : Fr g L h m) (N : News g L h news)
  (hQ : ∀ h', RaisedC base g outer e X ctx news h' → g.UpToSlots h' → Q () { s' with heap := h' }) (hk : scope.kind = .function := by rfl) :
  wpAny M (A.deeper (envOf name scope L a cd)) (leaving (envOf name scope L a cd) (.ref e)) Q E s' := by
 have K' := K.push (name := name) (a := a) (cd := cd) F hk
 have hin : ∀ env ∈ (envOf name scope L a cd :: outer), ∀ b, env.frame = some b → b ∈ (envOf name scope L a cd :: outer).filterMap (·.frame) := fun env he b hb => List.mem_filterMap.mpr ⟨env, he, hb⟩
 have st : base.StaysIn (hideAll h ((envOf name scope L a cd :: outer).filterMap (·.frame))) := fun b o q => hideAll_get _ (K'.stays b o q) fun hm => by
  rw [(K'.frames.mem hm).1] at q; cases q
 have sg : ∀ b o, g.get? b = some o → b ∉ outer.filterMap (·.frame) → (hideAll h ((envOf name scope L a cd :: outer).filterMap (·.frame))).get? b = some o := fun b o q nm => hideAll_get _ (F.keep b o q) fun hm => by
  rcases kts_mem hm with z | z
  ·rw [z, kts_self F] at q; cases q
  ·exact nm z
 have hl : ∀ q ∈ news, (hideAll h ((envOf name scope L a cd :: outer).filterMap (·.frame))).get? q.1 = some q.2 ∧ g.get? q.1 = none ∧ base.get? q.1 = none := fun q hq => by
  refine ⟨hideAll_get _ (N q hq).1 fun hm => ?_, (N q hq).2.2, fresh_of_stays K.stays (N q hq).2.2⟩
  refine ob1_2 (List.mem_filterMap.mp hm) fun env he hf => ?_
  rcases List.mem_cons.mp he with rfl | he
  ·exact (N q hq).2.1 (Option.some.inj hf).symm
  ·refine ob1_2 ((K.frames.mem (List.mem_filterMap.mpr ⟨env, he, hf⟩)).2) fun o ho u' => ?_
   rw [(N q hq).2.2] at ho; cases ho
 have hen : (hideAll h ((envOf name scope L a cd :: outer).filterMap (·.frame))).get? e = none := by
  cases q : (hideAll h ((envOf name scope L a cd :: outer).filterMap (·.frame))).get? e with
  | none => rfl
  | some o => have := of_hideAll _ q; rw [hnew] at this; cases this
 refine firstC K'.stack ((funFrames_hide K'.frames hin).of_keeps fun b o hb u' => ⟨o, hkeep b o hb, rfl⟩) rfl he hX (fun b o hb => hkeep b o (of_hideAll _ hb)) hen hd h1 h2 fun h' S U => ?_
 obtain ⟨k1, k2, ⟨_, _, k3⟩, k4⟩ := S
 exact hQ h' ⟨_, st, sg, hl, k1, hen, k3, k4⟩ (((Heap.UpToSlots.of_keeps F.keep).trans (Heap.UpToSlots.of_keeps hkeep)).trans U)
end
section
variable {prog : Program} {w : World} {A A₀ : Around} {E : Value → Shared → Prop} {s' : Shared} {base g G : Heap} {outer : List Env} {L a e : Addr} {m : Str → Option Value} {name : Str} {scope : Scope} {cd : Value}
 {n : Str} {b₀ : Stmt} {suite : List Stmt} {pos np : Pos} {rest : List ExceptHandler} {Q : Flow → Shared → Prop} {news : List (Addr × Obj)} {KF : Frag}
 {p : Program} {loose : List Str} {mean : ExcName → Option Value} {mg mb : Str → Option Value} {ctx : Value}
theorem caughtC (hA : A.frames = some (envOf name scope L a cd :: outer)) (R : RaisedC base G (envOf name scope L a cd :: outer) e "ValueError" ctx news s'.heap) (F : Fr g L G m) (K : Below A₀ base outer g) (hsm : G.UpToSlots s'.heap) (XB : KF.In base) (TB : Top p loose mean mg mb base)
  (ex : nsIn KF mainGlobals "ValueError" = some none)
  (k : ∀ h' g' oe vs, KtsTurn (outer.filterMap (·.frame)) g g' → Fr g' L h' m → News g' L h' ((e, oe) :: news) → oe.data = .fields vs → vs[2]? = some ctx → Below A₀ base outer g' →
   wpAny (model prog w) (A.mark (some (.ref e))) (execs (b₀ :: suite) (envOf name scope L a cd)) Q (notedBy (model prog w) (A.mark (some (.ref e))) (envOf name scope L a cd) (cameBackBy (model prog w) A (envOf name scope L a cd) E)) { s' with heap := h' })
  (hk : scope.kind = .function := by rfl) (hx : (envOf name scope L a cd).kindOf "ValueError" = some .globalImplicit := by rfl) :
  wpAny (model prog w) A (noteFrame (.ref e) (envOf name scope L a cd))
   (fun u' s₂ => wpAny (model prog w) A (setFlight (.ref e) none) (fun u' s₃ =>
    wpAny (model prog w) A (handleBy (.ref e) (envOf name scope L a cd) (.ExceptHandler (some (.Name "ValueError" np)) none (b₀ :: suite) pos :: rest)) Q E s₃) E s₂) E s' := by
 obtain ⟨B, hB, hBG, hl, hS⟩ := R
 have hL : B.get? L = none := by
  obtain ⟨_, ⟨L', _, hf, hn', _⟩, _⟩ := hS.2.2.1
  obtain rfl : L = L' := Option.some.inj hf
  exact hn'
 refine noteC hA rfl hS fun h₄ S₄ U₄ => ?_
 refine flightC S₄ fun h₅ S₅ U₅ => ?_
 refine ob1_3 (kts_ground K F hBG S₅.1 ((hsm.trans U₄).trans U₅)) fun g₅ T₅ F₅ K₅ => ?_
 obtain ⟨oe5, _, _, _, _, he5, hX5, _⟩ := id S₅.2.2.2
 refine wpAny_handleBy_builtin (X := "ValueError") (T := "ValueError") (b := true) PySem.F.isExc_ValueError PySem.F.notTuple_ValueError (by rw [isSubtype_type]; kernel_rfl) (name_B F₅ (XB.keeps K₅.stays) (topRead_of (TB.keeps K₅.stays)) ex PyProof.Rows.Boot.«ValueError» (by decide +kernel) ⟨rfl, ⟨oe5, he5, hX5⟩, ?_⟩ hk hx (by decide))
 refine flightC S₅ fun h₆ S₆ U₆ => ?_
 have U : G.UpToSlots h₆ := ((hsm.trans U₄).trans U₅).trans U₆
 refine ob1_3 (kts_ground K F hBG S₆.1 U) fun g₆ T₆ F₆ K₆ => ?_
 obtain ⟨oe, vs, T', oT, ts, he, hX, hd, g1, g2, _⟩ := id S₆.2.2.2
 have ne₆ : g₆.get? e = none := T₆.none_ _ (kts_fresh F hBG S₆.2.1 fun o ho m => by
  obtain ⟨_, o', ho', hd'⟩ := K.frames.mem m
  rw [ho] at ho'
  cases ho'
  obtain ⟨sl, hs⟩ := U _ _ (F.keep _ _ ho) hd'
  rw [he] at hs
  cases hs
  exact hd' _ hd)
 refine k h₆ g₆ oe vs T₆ F₆ (fun q hq => ?_) hd g2 K₆
 rcases List.mem_cons.mp hq with rfl | hq
 ·refine ⟨he, fun q => ?_, ne₆⟩
  obtain ⟨oL, es, ep, eL, dL, _⟩ := F₆.ns
  rw [← q] at eL
  dsimp only at eL
  rw [he] at eL
  cases eL
  rw [hd] at dL; cases dL
 ·exact ⟨S₆.1 _ _ (hl q hq).1, (fun z => by have := (hl q hq).1; rw [z, hL] at this; cases this), T₆.none_ _ (kts_none F.keep (hl q hq).2.1)⟩
end
end
section
set_option tactic.hygienic true
noncomputable def tabs3 : List (Addr × Addr) := [(535, 531), (767, 763), (819, 815)]
theorem tabs_at {w : World} {h : Heap} (Y : (KA w.params).In h) : TabsAt tabs3 h := by
 have X : (K w.params).In h := fun a o e => Y a o (by
  have : (KA w.params).lookup a = some o := by
   delta KA
   rw [List.lookup_append, e]; rfl
  exact this)
 intro q hq
 simp only [tabs3, List.mem_cons, List.not_mem_nil, or_false] at hq
 rcases hq with rfl | rfl | rfl
 ·exact ⟨codeHd_of_K X (by kernel_rfl), Y _ _ (by kernel_rfl)⟩
 ·exact ⟨codeHd_of_K X (by kernel_rfl), Y _ _ (by kernel_rfl)⟩
 ·exact ⟨codeHd_of_K X (by kernel_rfl), Y _ _ (by kernel_rfl)⟩
theorem inK_of {w : World} {h : Heap} (Y : (KA w.params).In h) : (K w.params).In h := fun a o e => Y a o (by
  have : (KA w.params).lookup a = some o := by
   delta KA
   rw [List.lookup_append, e]; rfl
  exact this)
noncomputable def tabsApart (P : Params) : Bool := (recsOf q0).all fun d => match tabIn (K P) d.name with
 | some (_, Q) => !(tabs3.map (·.2)).contains Q
 | none => false
theorem tabs_apart (P : Params) : tabsApart P = true := by kernel_rfl
theorem owns_none : ownsOf q0 = [] := by kernel_rfl
theorem ghost_noseer {tabs : List (Addr × Addr)} {h₁ : Heap} (hT : TabsAt tabs h₁) (S : h₁.NoSeer) : (ghostOf h₁ tabs).NoSeer where
 statics := let ⟨mc, a, b⟩ := S.statics; ⟨mc, ghost_ns hT a, b⟩
 mods := let ⟨mc, a, b⟩ := S.mods; ⟨mc, ghost_ns hT a, b⟩
 imp := let ⟨mc, a, b⟩ := S.imp; ⟨mc, ghost_ns hT a, b⟩
 main := let ⟨mg, bm, ob, a, b, c, d, e⟩ := S.main; ⟨mg, bm, ob, ghost_ns hT a, b, ghost_get hT c (fun q => by rw [q] at d; cases d), d, e⟩
theorem ghost_rec {tabs : List (Addr × Addr)} {h₁ : Heap} {cd : Value} {q : Str} (hT : TabsAt tabs h₁) (x : h₁.CodeRec cd q) : (ghostOf h₁ tabs).CodeRec cd q :=
 let ⟨c, o, vs, t, e, g, d, r⟩ := x
 ⟨c, o, vs, t, e, ghost_get hT g (fun z => by rw [z] at d; cases d; simp at r), d, r⟩
theorem tabIn_vs {K : Frag} {x : Str} {c P : Addr} (e : tabIn K x = some (c, P)) : ∃ oc od vs sl, K.lookup c = some ⟨oc, od, .fields vs, sl⟩ ∧ vs[11]? = some (.ref P) := by
 delta tabIn at e
 split at e
 ·split at e
  ·split at e
   ·split at e
    ·rename_i hco
     split at e
     ·rename_i hv
      cases e
      exact ⟨_, _, _, _, hco, hv⟩
     ·cases e
    ·cases e
   ·cases e
  ·cases e
 ·cases e
theorem isCode_move {h h' : Heap} {c P : Addr} {ps : Array Value} (x : h.IsCode c P ps) {oc : Value} {od : Option Addr} {vs : Array Value} {sl : Array (Option Value)} (k3 : h.get? c = some ⟨oc, od, .fields vs, sl⟩) (hc : h'.get? c = some ⟨oc, od, .fields vs, sl⟩)
  (hP : ∀ op, h.get? P = some op → op = tabObj ps → h'.get? P = some (tabObj ps)) (e : h.get? P = some (tabObj ps)) : h'.IsCode c P ps := by
 obtain ⟨o5, v5, file, tf, flags, tg, inF, text, tt, op, g1, g2, g3, g4, g5, g6, g7, g8, g9, g10, g11⟩ := x
 rw [k3] at g1
 cases g1
 cases g2
 exact ⟨_, vs, file, tf, flags, tg, inF, text, tt, _, hc, rfl, g3, g4, g5, g6, g7, hP _ e rfl, rfl, g10, g11⟩
theorem ex5imp {α β γ δ ε : Sort _} {P Q : α → β → γ → δ → ε → Prop} (h : ∃ a b c d e, P a b c d e) (f : ∀ a b c d e, P a b c d e → Q a b c d e) : ∃ a b c d e, Q a b c d e := by
 obtain ⟨a, b, c, d, e, h⟩ := h
 exact ⟨a, b, c, d, e, f _ _ _ _ _ h⟩
theorem ghost_topQ {w : World} {mean : ExcName → Option Value} {mg mb : Str → Option Value} {h₁ : Heap} {loose : List Str} (Y : (KA w.params).In h₁) (T : Top q0 loose mean mg mb h₁) : Top q0 loose mean mg mb (ghostOf h₁ tabs3) :=
 have hT := tabs_at Y
 have X := inK_of Y
 {g := ghost_ns hT T.g
  b := ghost_ns hT T.b
  nolimit := let ⟨mc, a, r⟩ := T.nolimit; ⟨mc, ghost_ns hT a, r⟩
  nodigits := let ⟨mc, a, r⟩ := T.nodigits; ⟨mc, ghost_ns hT a, r⟩
  fn := fun d hd => ex5imp (T.fn d hd) fun a o pm code doc h => ⟨h.1, ghost_get hT h.2.1 (fun q => by have h3 := h.2.2.1; rw [q] at h3; cases h3), h.2.2.1, ghost_rec hT h.2.2.2⟩
  own := fun o ho => by rw [owns_none] at ho; cases ho
  const := T.const
  free := T.free
  builtins := T.builtins
  tab := fun d hd => by
   refine ob5_6 (T.tab d hd) fun a o fd c P h1 h2 h3 h4 h5 h6 => ?_
   have ap := List.all_eq_true.mp (tabs_apart w.params) d hd
   cases e : tabIn (K w.params) d.name with
   | none => rw [e] at ap; cases ap
   | some q =>
    obtain ⟨c2, P2⟩ := q
    rw [e] at ap
    dsimp only at ap
    have h7 := law_code X T.g e h1 h2 h3
    rw [h4] at h7
    cases h7
    refine ob4_2 (tabIn_vs e) fun oc od vs sl k1 k2 => ?_
    have k3 := X _ _ k1
    obtain ⟨⟨o6, v6, f1, f2, f3, f4⟩, f5⟩ := id h6
    rw [k3] at f1
    cases f1
    cases f3
    rw [k2] at f4
    cases f4
    have hP : P ∉ tabs3.map (·.2) := fun hm => by
     have : (tabs3.map (·.2)).contains P = true := by simpa using hm
     rw [this] at ap; cases ap
    have hc : (ghostOf h₁ tabs3).get? c = some ⟨oc, od, .fields vs, sl⟩ := ghost_get hT k3 (fun q => by
     have q2 := congrArg Obj.data q
     dsimp only at q2
     injection q2 with q3
     rw [q3] at k2; simp at k2)
    have hPg : (ghostOf h₁ tabs3).get? P = some (tabObj #[]) := ghost_ne f5 hP
    exact ⟨a, o, fd, c, P, h1, ghost_get hT h2 (fun q => by rw [q] at h3; cases h3), h3, h4, isCode_move h5 k3 hc (fun u' u' u' => hPg) f5, ⟨⟨_, vs, hc, f2, rfl, k2⟩, hPg⟩⟩
  bmain := let ⟨bm, ob, a1, a2, a3, a4, r⟩ := T.bmain; ⟨bm, ob, a1, a2, ghost_get hT a3 (fun q => by rw [q] at a4; cases a4), a4, r⟩
  seer := fun hi => ghost_noseer hT (T.seer hi) }
end
section
set_option maxHeartbeats 4000000
noncomputable def dLaw : {d : DefRec × List (Str × PySem.Expr) // defOf q0 "law" = some d} := ⟨(_, _), by rfl⟩
structure Stmts where
 (s0 s1 s2 s3 s4 s5 s6 s7 s8 s9 s10 s11 s12 s13 : Stmt)
noncomputable def LS : {x : Stmts // dLaw.1.1.body = [x.s0, x.s1, x.s2, x.s3, x.s4, x.s5, x.s6, x.s7, x.s8, x.s9, x.s10, x.s11, x.s12, x.s13]} := ⟨⟨_, _, _, _, _, _, _, _, _, _, _, _, _, _⟩, by rfl⟩
noncomputable def lawScope : {s : Scope // dLaw.1.1.scope = s} := ⟨{ kind := _, names := _, isGenerator := _, isCoroutine := _, more := _ }, by rfl⟩
end
section
theorem entry_unchain : entryFor table "proto.unchain" = some Builtin.«proto.unchain» := entryFor_of_tree (by kernel_rfl)
section
variable {prog : Program} {w : World} {A : Around} {E : Value → Shared → Prop} {s : Shared} {env : Env}
theorem raiseNewH {α : Type} {c e : Addr} {oc oe : Obj} {vs ws : Array Value} {Q : α → Shared → Prop} (hh : A.handled = some (.ref c)) (hce : c ≠ e) (hc : s.heap.get? c = some oc) (hdc : oc.data = .fields vs) (h2 : vs[2]? = some .none) (he : s.heap.get? e = some oe) (hde : oe.data = .fields ws) (hsz : 2 < ws.size)
  (h : E (.ref e) { s with heap := s.heap.update e (Obj.mapFields (·.setIfInBounds 2 (.ref c))) }) : wpAny (model prog w) A (raiseNew (.ref e) : Sem α) Q E s := by
 unfold raiseNew
 refine wpAny_bind (wpAny_handled ?_)
 rw [hh]
 dsimp only
 refine w_if (by simpa using hce) ?_
 refine wpAny_bind ?_
 refine wpAny_holding (wpAny_runValue (codeAny_builtin entry_unchain ?_))
 unfold Builtin.«proto.unchain»
 dsimp only
 refine wpAny_bind (wpAny_field hc hdc h2 ?_)
 refine w_if (show (Value.none == Value.none) = true from rfl) ?_
 refine wpAny_pure ?_
 dsimp only
 exact wpAny_bind (show wpAny (model prog w) A (setField (.ref e) 2 (.ref c)) _ E s from wpAny_setField he hde hsz (wpAny_throw h))
theorem raiseStmtH {cls : String} (F : ExcRaiseFacts cls) {c : Addr} {x : Sem Value} {Q : Flow → Shared → Prop} (hh : A.handled = some (.ref c))
  (h : wpAny (model prog w) A x (fun v s₁ => ∃ e t oc vs, v = .ref e ∧ s₁.heap.get? e = some { cls := .type cls, data := .fields #[.ref t, .none, .none, .none, .bool false, .none] } ∧ c ≠ e ∧ s₁.heap.get? c = some oc ∧ oc.data = .fields vs ∧ vs[2]? = some .none ∧
   E (.ref e) { s₁ with heap := s₁.heap.update e (Obj.mapFields (·.setIfInBounds 2 (.ref c))) }) E s) :
  wpAny (model prog w) A (raiseStmt env (some x) none) Q E s := by
 unfold raiseStmt
 refine wpAny_bind (_root_.PySem.wpAny_mono h (fun v s₁ h₁ => ?_) fun u' u' x => x)
 refine ob4_7 h₁ fun e t oc vs eq4 he hce hc hdc h2 hE => ?_
 clear h₁
 subst eq4
 obtain ⟨hp, g, d, tk, os⟩ := s₁
 have hsub := F.isExc
 have hmeta := F.plainMeta
 repeat (first | refine wpAny_loadPart he ?_ | wp_step)
 exact raiseNewH hh hce hc hdc h2 he rfl (by simp) hE
theorem RaiseH {cls newId initId : String} (F : ExcCallFacts cls newId initId) (G : ExcRaiseFacts cls) {c : Addr} {x : Str} {np cpos pos : Pos} {e₀ : PySem.Expr} {Q : Flow → Shared → Prop}
  (hh : A.handled = some (.ref c)) (hs : starEach [e₀] env = [(false, eval e₀ env)])
  (h : wpAny (model prog w) A (eval (.Name x np) env) (fun f s₁ => f = .type cls ∧ wpAny (model prog w) A (eval e₀ env)
   (fun u' s₂ => Hold ((∃ oc vs, s₂.heap.get? c = some oc ∧ oc.data = .fields vs ∧ vs[2]? = some .none) ∧
    ∀ h' e t, (∀ b o, s₂.heap.get? b = some o → h'.get? b = some o) → s₂.heap.get? e = none → h'.get? e = some { cls := .type cls, data := .fields #[.ref t, .none, .ref c, .none, .bool false, .none] } → E (.ref e) { s₂ with heap := h' })) E s₁) E s) :
  wpAny (model prog w) A (exec (.Raise (some (.Call (.Name x np) [e₀] [] cpos)) none pos) env) Q E s := by
 show wpAny (model prog w) A (do standAt pos; raiseStmt env (some (do let v ← eval (.Call (.Name x np) [e₀] [] cpos) env; standAt pos; pure v)) none) Q E s
 refine wpAny_bind (wpAny_standAt (raiseStmtH G hh ?_))
 refine wpAny_bind (wpAny_Call_ofName (_root_.PySem.wpAny_mono h (fun f s₁ h₁ => ?_) fun u' u' x => x))
 obtain ⟨rfl, h₁⟩ := h₁
 rw [hs]
 refine PyProof.Rows.callWith_type rfl (evalArgs_plain (spliced_cons (_root_.PySem.wpAny_mono h₁ (fun v s₂ h₂ => spliced_nil ?_) fun u' u' x => x)))
 unfold Hold at h₂
 obtain ⟨⟨oc, vs, hc, hdc, hv2⟩, hE⟩ := h₂
 obtain ⟨hp, g, d, tk, os⟩ := s₂
 refine wpAny_call_exc F (hrest := by show 1 ≤ sizeLine; rw [sizeLine_eq]; lia) fun h' e hm => ?_
 refine wpAny_bind (wpAny_standAt (wpAny_pure ?_))
 refine ob1_3 hm.there fun t ht u' u' => ?_
 have hce : c ≠ e := fun q => by have := hm.new; rw [← q] at this; dsimp only at hc; rw [hc] at this; cases this
 refine ⟨e, t, oc, vs, rfl, ht, hce, hm.keeps _ _ hc, hdc, hv2, ?_⟩
 refine hE (h'.update e (Obj.mapFields (·.setIfInBounds 2 (.ref c)))) e t (fun b o hb => ?_) hm.new ?_
 ·have hbe : b ≠ e := fun q => by have := hm.new; rw [← q] at this; dsimp only at hb; rw [hb] at this; cases this
  rw [Heap.get?_update_other _ _ (Ne.symm hbe)]
  exact hm.keeps _ _ hb
 ·exact Heap.get?_update_self _ ht (Obj.isFreed_of_fields (Obj.data_mapFields rfl _))
end
section
variable {prog : Program} {w : World} {A₀ A : Around} {s : Shared} {base h₀ : Heap} {L : Addr} {m : Str → Option Value} {env : Env} {news : List (Addr × Obj)} {K : Frag} {p : Program} {loose : List Str} {mean : ExcName → Option Value} {mg mb : Str → Option Value}
  {R : Result → Shared → Prop} {name qual : Str} {params : Arguments} {body : List Stmt} {scope : Scope} {dV kV doc pm cdv ct oc : Value} {an od : Option Addr} {osl : Array (Option Value)} {f : Addr} {args : Args} {binds : List (Str × Value)}
theorem code_defT (B : Below A₀ base [] h₀) (F : Fr h₀ L s.heap m) (X₀ : K.In h₀) (N : News h₀ L s.heap news) (T : Top p loose mean mg mb h₀) (hA : A.frames = some [env]) (hf : env.frame = some L) (hke : env.scope.kind = .function)
  (ho : K.lookup f = some ⟨oc, od, .func (fnOf name qual params body scope dV kV doc pm an cdv ct), osl⟩) (hcd : codeIn K cdv qual = true) (hroom : A.depth < recursionLimit)
  (hbind : BindsTo s (fnOf name qual params body scope dV kV doc pm an cdv ct) args binds) (hloc : ∀ y ∈ binds, scope.names.lookup y.1 = some .local)
  (h : ∀ g L' h₁, Fr h₀ L g m → Fr g L' h₁ (fun y => binds.reverse.lookup y) → News g L' h₁ news → Below A base [env] g → K.In g → Top p loose mean mg mb g →
   wpAny (model prog w) (A.deeper (envOf qual scope L' f cdv)) (execs body (envOf qual scope L' f cdv))
    (fun fl s' => LeaveS0 ([env].filterMap (·.frame)) h₀ L m g R (match fl with | .ret v => v | _ => .none) s')
    (fun e s' => wpAny (model prog w) (A.deeper (envOf qual scope L' f cdv)) (leaving (envOf qual scope L' f cdv) e) (fun u' s'' => R (.error e) s'') (fun e' s'' => R (.error e') s'') s')
    {s with heap := h₁, toks := s.toks + binds.length })
  (hco : scope.isCoroutine = false) (hgen : scope.isGenerator = false) (hk : scope.kind = .function)
  (hcell : ∀ x ∈ scope.names, x.2 ≠ .cell) : codeAny (model prog w) A (.call (.ref f) args) R s := by
 refine ob0_4 (groundX (R := R) B F N hA hf hke) fun FG BG st u' => ?_
 have X := X₀.keeps F.keep
 refine codeAny_call_def (fd := fnOf name qual params body scope dV kV doc pm an cdv ct) (body := body) (binds := binds) hroom (X _ _ ho) rfl (T.nolimit.keeps F.keep) (codeRec_of X hcd) rfl hbind hcell hloc (fun h₁ hns hk₁ => ?_) hco hgen hk
 refine _root_.PySem.wpAny_mono (h _ s.heap.objs.size h₁ FG ⟨hns, fun b o e => hk₁ b o (of_hideAll _ e), Nat.le_of_eq (hideAll_size _ _)⟩
  (fun p hp => ⟨hk₁ _ _ (N p hp).1, Nat.ne_of_lt (Heap.lt_size (N p hp).1), hideAll_none _ (List.mem_map_of_mem hp)⟩) BG (X₀.keeps st) (T.keeps st)) (fun fl s' hl => ?_) fun u' u' y => y
 obtain ⟨g', L', m', news', T', F', N', k⟩ := hl
 have nL₀ : h₀.get? L = none := kts_self F
 obtain ⟨oL, es, ep, hLg, hLd, hLk, hLf⟩ := FG.ns
 obtain ⟨sl, hs⟩ := T'.up hLg
 have memL : ∀ b, b ∈ [env].filterMap (·.frame) → b = L := fun b hb => by
  simp only [List.filterMap_cons, hf, List.filterMap_nil, List.mem_singleton] at hb
  exact hb
 refine k ⟨⟨_, es, ep, F'.keep _ _ hs, hLd, hLk, hLf⟩, fun b o e => F'.keep b o (T'.other b o (st b o e) (fun q => by rw [memL b q, nL₀] at e; cases e)), F.above⟩ fun p hp => ⟨(N' p hp).1, fun q => ?_, ?_⟩
 ·have := (N' p hp).2.2; rw [q, hs] at this; cases this
 ·cases q : h₀.get? p.1 with
  | none => rfl
  | some o =>
   obtain ⟨sl', hs'⟩ := T'.up (st _ _ q)
   have := (N' p hp).2.2
   rw [hs'] at this
   cases this
end
end
section
set_option maxHeartbeats 4000000
structure Stmts7 where
 (target iter : Expr) (pos : Pos) (b0 b1 b2 b3 b4 b5 b6 : Stmt)
noncomputable def LB7 : {x : Stmts7 // LS.1.s12 = .For x.target x.iter [x.b0, x.b1, x.b2, x.b3, x.b4, x.b5, x.b6] [] x.pos} := ⟨⟨_, _, _, _, _, _, _, _, _, _⟩, by rfl⟩
end
end
theorem uni_spec {hv : Option Value} {w : World} {mean : ExcName → Option Value} {mg mb : Str → Option Value} {news : List (Addr × Obj)} (x : Str) (tx : Tok)
  (dp un : Nat) (gd : Option (List Code)) (cn : Str) (cs : Scope) (a : Addr) (ccd : Value) (cl : List (Str × Addr)) (outer : List Env) (A₀ : Around) (base h₀ : Heap) (L : Addr) (m : Str → Option Value) (s : Shared) (Q E : Value → Shared → Prop)
  (B : Below A₀ base outer h₀) (F : Fr h₀ L s.heap m) (X : (K w.params).In h₀) (N : News h₀ L s.heap news) (T : Top q0 (looseW q0 loose0) mean mg mb h₀) (hk : cs.kind = .function)
  (hd : dp + 1 < recursionLimit) (hu : un + 8 < cLine)
  (hret : ∀ (h' : Heap) (tk' : Nat), Fr h₀ L h' m → News h₀ L h' news → Q (.str x tx) { s with heap := h', toks := tk' }) :
  wpAny (model pw w) (ktrH hv dp un gd cn cs L a ccd cl outer) (call (.ref 68) [.str x tx]) Q E s := by
 refine wpAny_call ?_
 k_dflt (refine' code_def ?k1 ?k2 ?k3 ?k4 ?k5 ?kA ?kF ?kK ?k6 ?k7 ?k8 ?k9 ?kB ?_ ?c2 ?c3 ?c4 ?c5; (case kA => exact rfl); (case kF => exact rfl); (case kK => first | exact rfl | assumption); (case k1 => k_asm); (case k2 => k_asm); (case k3 => k_asm); (case k4 => k_asm); (case k5 => k_asm); (case k6 => k_is); (case k7 => k_is); (case k8 => ktr_room); (case k9 => first | exact BindsTo.of_eq rfl | exact binds_K (by k_in) rfl (by k_is) rfl rfl rfl); (case c5 => decide); (case kB => exact locs rfl); (case c2 => exact rfl); (case c3 => exact rfl); (case c4 => exact rfl); k_whole; intro g' L' h' FG' F' N' B' X' T'; (try dsimp only); (try k_lift B'); (try k_fold))
 k_steps
 all_goals (try dsimp only)
 with_reducible rename Fr _ _ _ _ => F9
 with_reducible rename News _ _ _ _ => N9
 exact hret _ _ F9 N9
section
open PySem.Calls
section
theorem checkMeth {M : Model} {A : Around} {E : Value → Shared → Prop} {s : Shared} {i owner n : String} {self : Value} {rest : List Value} {Q : Unit → Shared → Prop}
  (hk : builtinKind i = some .method) (hs : splitId i = some (owner, n)) (hi : Looks M s.heap (isInstance self (.type owner)) true) (ha : argsOk i ⟨self :: rest, []⟩) (q : Q () s) :
  wpAny M A (checkBuiltinCall i ⟨self :: rest, []⟩) Q E s := by
 simp only [checkBuiltinCall, hk, hs]
 refine wpAny_bind (hi.here ?_)
 simp only [Bool.not_true, Bool.false_eq_true, if_false]
 cases hsig : Manifest.signature? i with
 | none => exact wpAny_pure q
 | some sig =>
  simp only [argsOk, hsig] at ha
  have h2 : Bind.checkArgs i sig ⟨self :: rest, []⟩ = pure () := ha
  show wpAny M A (Bind.checkArgs i sig ⟨self :: rest, []⟩) Q E s
  rw [h2]; exact wpAny_pure q
section
variable {prog : Program} {w : World} {A : Around} {E : Value → Shared → Prop} {h : Heap} {g : Array GenState} {d : Drawn} {t : Nat} {os : OsState}
theorem repl_args (a : Value) (y z : Str) (u v : Tok) : argsOk "str.replace" ⟨[a, .str y u, .str z v], []⟩ := by unfold argsOk; kernel_rfl
theorem replT {v : Addr} {o : Obj} {x y z : Str} {tx u u' : Tok} {Q : Value → Shared → Prop} (hv : h.get? v = some o) (hd : o.data = .prim (.str x tx)) (hi : Looks (model prog w) h (isInstance (.ref v) (.type "str")) true)
  (hocc : (Builtin.Str.occurrences x y 0 x.length (x.length + 1)).isEmpty = true) (hx : x.length ≤ 65536) (hq : ∀ t' k, @LT.lt Nat _ 0 k → Q (.str x t') ⟨h, g, d, k, os⟩) :
  wpAny (model prog w) A (call (.builtin "str.replace") [.ref v, .str y u, .str z u']) Q E ⟨h, g, d, t, os⟩ := by
 refine wpAny_call (codeAny_call_builtin PySem.F.slot_str_replace.plain PySem.F.entry_str_replace (@checkMeth _ _ _ ⟨h, g, d, t, os⟩ "str.replace" "str" "replace" (.ref v) [.str y u, .str z u'] _ (by decide +kernel) (by decide +kernel) hi (repl_args _ _ _ _ _) ?_))
 delta Builtin.«str.replace» Builtin.Str.strSelf Builtin.Str.textOf asStr?
 have b1 : Builtin.Str.bindOptional "str.replace" "replace" 2 ["count"] [.str y u, .str z u'] [] = pure [some (.str y u), some (.str z u'), none] := by kernel_rfl
 refine wpAny_bind (wpAny_bind ?_)
 refine wpAny_bind ?_
 refine wpAny_bind (wpAny_load hv ?_)
 rw [hd]
 refine wpAny_pure ?_
 refine wpAny_pure (wpAny_pure ?_)
 dsimp only
 rw [b1]
 refine wpAny_bind (wpAny_pure ?_)
 dsimp only
 refine wpAny_bind (show wpAny _ _ (pure y) _ _ _ from wpAny_pure ?_)
 refine wpAny_bind (show wpAny _ _ (pure z) _ _ _ from wpAny_pure ?_)
 refine wpAny_bind (show wpAny _ _ (pure (x.length + 1)) _ _ _ from wpAny_pure ?_)
 rw [hocc, Bool.true_or, if_pos rfl]
 refine wpAny_bind (wpAny_rule (wpAny_bind ?_))
 show wpAny _ _ (mkStr x) _ _ _
 exact wpAny_mkStr (wpAny_pure (hq _ _ (Nat.succ_pos _))) (by rw [sizeLine_eq]; lia)
theorem getM_T {v dx C : Addr} {dt : Data} {sl : Array (Option Value)} {ga id : String} {name : Str} {pl : Sem Bool} {Q : Value × List Value → Shared → Prop}
  (hv : h.get? v = some ⟨.ref C, some dx, dt, sl⟩) (hdx : h.get? dx = some (dictOf [] 0)) (hga : Looks (model prog w) h (typeLookup (.ref C) "__getattribute__") (some (.builtin ga))) (hcan : (Manifest.canonical ga != "object.__getattribute__") = false)
  (hgt : Looks (model prog w) h (typeLookup (.ref C) "__getattr__") none) (hf : Looks (model prog w) h (typeLookup (.ref C) name) (some (.builtin id))) (hty : typeOf (.builtin id) = pure (.type "method_descriptor"))
  (hq : Q (.builtin id, [.ref v]) ⟨h, g, d, t, os⟩) : wpAny (model prog w) A (getMethod (.ref v) name pl) Q E ⟨h, g, d, t, os⟩ := by
 have L0 : Looks (model prog w) h (typeOf (.ref v)) (.ref C) := (Looks.ld hv).andThen .now
 delta getMethod specialOf
 refine wpAny_bind (wpAny_bind (L0.at (hga.at ?_)))
 dsimp only
 rw [hcan, if_neg Bool.false_ne_true]
 refine wpAny_bind (wpAny_bind (L0.at (hgt.at ?_)))
 refine w_else (by decide) ?_
 refine wpAny_bind (wpAny_bind (L0.at (hf.at ?_)))
 dsimp only
 rw [hty]
 refine wpAny_bind (wpAny_pure ?_)
 refine w_else (by decide) ?_
 refine wpAny_bind (wpAny_loadPart hv ?_)
 dsimp only
 refine wpAny_bind (wpAny_bind (wpAny_loadPart hdx ?_))
 rw [nsLook_of (r := none) rfl]
 refine wpAny_pure ?_
 refine w_else (by decide) ?_
 exact wpAny_bind (wpAny_rule (wpAny_pure hq))
end
local macro_rules | `(tactic| walk_at "call builtin:isinstance") => `(tactic| (refine hold ?_))
local macro_rules | `(tactic| walk_at "getMethod ref") => `(tactic| (refine hold ?_))
local macro_rules | `(tactic| walk_at "call ref") => `(tactic| (refine hold ?_))
local macro_rules | `(tactic| walk_at "call builtin:str.replace") => `(tactic| (refine hold ?_))
theorem replaceM {prog : Program} {w : World} {A : Around} {E : Value → Shared → Prop} {s : Shared} {x y z : Str} {t u v : Tok} {Q : Value → Shared → Prop} (hu : u ≠ 0) (hv : v ≠ 0) (huv : u ≠ v) (hyz : (y == z) = false) (hx : x.length ≤ 65536) (hz : z.length ≤ 14)
  (hq : ∀ t' k, s.toks ≤ k → Q (.str (Txt.replace x y z) t') { s with toks := k }) : wpAny (model prog w) A (call (.builtin "str.replace") [.str x t, .str y u, .str z v]) Q E s := by
 have hb : x.length + (x.length + 1) * z.length ≤ 16777216 := by
  have h1 : (x.length + 1) * z.length ≤ (x.length + 1) * 14 := Nat.mul_le_mul_left _ hz
  lia
 have hl : Builtin.Str.tooLong (x.length + (Builtin.Str.occurrences x y 0 x.length (x.length + 1)).length * z.length) = false := by
  have h1 := StrLaws.occ_length_le x y 0 x.length (x.length + 1)
  have h2 : (Builtin.Str.occurrences x y 0 x.length (x.length + 1)).length * z.length ≤ (x.length + 1) * z.length := Nat.mul_le_mul_right _ h1
  delta Builtin.Str.tooLong
  rw [sizeLine_eq]
  exact decide_eq_false (by lia)
 refine call_gives PySem.F.slot_str_replace (typeIs_str _ _ _) PySem.F.entry_str_replace (PySem.F.args_str_replace_3 _ _ _)
  (gives_str_replace x y z t u v fun u' => ⟨by simp [hu, hv], by simp [huv], hyz, hl⟩) ?_
 have hq' := hq
 unfold Txt.replace at hq'
 cases hc : ((Builtin.Str.occurrences x y 0 x.length (x.length + 1)).isEmpty || (y.length == 0 && z.length == 0))
 ·rw [hc] at hq'
  simp only [Bool.false_eq_true, if_false] at hq' ⊢
  exact ⟨fits_replaced y hb, hq' _ _ (Nat.le_succ _)⟩
 ·rw [hc] at hq'
  simp only [if_true] at hq' ⊢
  exact hq' t s.toks (Nat.le_refl _)
theorem rep1 {prog : Program} {w : World} {A : Around} {E : Value → Shared → Prop} {s : Shared} {l : List Nat} (c : Nat) {y z : Str} (zl : List Nat) {t u v : Tok} {Q : Value → Shared → Prop} (hy : y = ⟨#[c]⟩) (hzl : z.cps.toList = zl) (hu : @Ne Nat u 0) (hv : @Ne Nat v 0) (huv : @Ne Nat u v) (hyz : (y == z) = false) (hl : l.length ≤ 65536) (hz : z.length ≤ 14)
  (hq : ∀ t' k, s.toks ≤ k → Q (.str (strOf (subst c zl l)) t') { s with toks := k }) : wpAny (model prog w) A (call (.builtin "str.replace") [.str (strOf l) t, .str y u, .str z v]) Q E s :=
 replaceM hu hv huv hyz (by rw [len_strOf]; lia) hz (fun t' k hk => by rw [hy, replace_strOf, hzl]; exact hq t' k hk)
theorem rep0 {prog : Program} {w : World} {A : Around} {E : Value → Shared → Prop} {s : Shared} {l : List Nat} (c : Nat) {y z : Str} {t u v : Tok} {Q : Value → Shared → Prop} (hy : c ∈ y.cps.toList) (hc : c ∉ l) (hu : @Ne Nat u 0) (hv : @Ne Nat v 0) (huv : @Ne Nat u v) (hyz : (y == z) = false) (hl : l.length ≤ 65536) (hz : z.length ≤ 14)
  (hq : ∀ t' k, s.toks ≤ k → Q (.str (strOf l) t') { s with toks := k }) : wpAny (model prog w) A (call (.builtin "str.replace") [.str (strOf l) t, .str y u, .str z v]) Q E s :=
 replaceM hu hv huv hyz (by rw [len_strOf]; lia) hz (fun t' k hk => by rw [replace_lack (strOf l) y z c hy (by simpa [strOf] using hc)]; exact hq t' k hk)
theorem esc_spec {w : World} {mean : ExcName → Option Value} {mg mb : Str → Option Value} {news : List (Addr × Obj)} (v : Addr) (l : List Nat) (tx : Tok) (dx : Addr) (sl : Array (Option Value))
  (dp un : Nat) (gd : Option (List Code)) (cn : Str) (cs : Scope) (a : Addr) (ccd : Value) (cl : List (Str × Addr)) (outer : List Env) (A₀ : Around) (base h₀ : Heap) (L : Addr) (m : Str → Option Value) (s : Shared) (Q E : Value → Shared → Prop)
  (B : Below A₀ base outer h₀) (F : Fr h₀ L s.heap m) (X : (K w.params).In h₀) (N : News h₀ L s.heap news) (hv : (v, vtObj (strOf l) tx dx sl) ∈ news) (hdx : (dx, dictOf [] 0) ∈ news) (T : Top q0 (looseW q0 loose0) mean mg mb h₀) (hk : cs.kind = .function)
  (hx : l.length ≤ 1024) (hsg : ∀ c ∈ l, c ∈ signs)
  (hd : dp + 3 < 500) (hu : un + 20 < 200)
  (hret : ∀ (t : Tok) (h' : Heap) (tk' : Nat), Fr h₀ L h' m → News h₀ L h' news → Q (.str (strOf (escL l)) t) { s with heap := h', toks := tk' }) :
  wpAny (model pw w) (ktrTop dp un gd cn cs L a ccd cl outer) (call (.ref 206) [.ref v]) Q E s := by
 have hd' : dp + 3 < recursionLimit := by first | exact rc1 (by assumption) rfl | (rw [show recursionLimit = 1000 from rfl]; lia)
 have n78 : 78 ∉ l := fun h => absurd (hsg _ h) (by decide)
 have n13 : 13 ∉ l := fun h => absurd (hsg _ h) (by decide)
 have l1 := subst_len 92 [92, 92] (by decide) l
 have l2 := subst_len 59 [92, 59] (by decide) (subst 92 [92, 92] l)
 have l3 := subst_len 44 [92, 44] (by decide) (subst 59 [92, 59] (subst 92 [92, 92] l))
 have l4 := subst_len 10 [92, 110] (by decide) (subst 44 [92, 44] (subst 59 [92, 59] (subst 92 [92, 92] l)))
 have n13a : 13 ∉ subst 44 [92, 44] (subst 59 [92, 59] (subst 92 [92, 92] l)) := fun h => by
  rcases subst_mem h with h | h
  ·rcases subst_mem h with h | h
   ·rcases subst_mem h with h | h
    ·exact n13 h
    ·revert h; decide
   ·revert h; decide
  ·revert h; decide
 have n13b : 13 ∉ subst 10 [92, 110] (subst 44 [92, 44] (subst 59 [92, 59] (subst 92 [92, 92] l))) := fun h => by
  rcases subst_mem h with h | h
  ·exact n13a h
  ·revert h; decide
 have hocc : (Builtin.Str.occurrences (strOf l) (Str.ofString "\\N") 0 (strOf l).length ((strOf l).length + 1)).isEmpty = true := by
  rw [occ_lack (strOf l) _ 78 (by decide) (by simpa [strOf] using n78)]; rfl
 refine wpAny_call ?_
 k_dflt cell_enter
 with_reducible rename Fr _ _ _ (fun y => _) => F1
 with_reducible rename Below _ _ _ _ => B1
 with_reducible rename Top _ _ _ _ _ _ => T1
 with_reducible rename Frag.In _ _ => X1
 replace F1 := frBinds F1 (fun y => if y = "text" then some (.ref v) else none) (by kernel_rfl)
 k_steps
 refine unhold ?_
 with_reducible rename Fr _ _ _ _ => F2
 with_reducible rename News _ _ _ _ => N2
 have X2 := X1.keeps F2.keep
 refine up (lf_isiT X2 v _ (strOf l) tx dx sl (N2 _ (.tail _ hv)).1 (N2 _ (.tail _ hdx)).1 (N2 _ (.head _)).1 (fun tk2 => ?_)) ?_ ?_
 rotate_left
 ·show dp + 1 ≤ 500; first | exact rl1 (by assumption) rfl | lia
 ·show un + 3 ≤ 200; first | exact rl1 (by assumption) rfl | lia
 k_steps
 refine unhold ?_
 refine uni_vt v (strOf l) tx dx sl _ _ _ _ _ _ _ _ _ _ _ _ _ _ _ _ _ B1 F2 X1 N2 (.tail _ hv) (.tail _ hdx) T1 rfl ?_ ?_ (fun h3 tk3 F3 N3 => ?_)
 ·show dp + 1 + 1 < 500; first | exact rm2 (by assumption) rfl | lia
 ·show un + 3 + 8 < 200; first | exact rm2 (by assumption) rfl | lia
 clear F2 N2
 k_steps
 refine unhold ?_
 with_reducible rename Fr _ _ _ _ => F4
 with_reducible rename News _ _ _ _ => N4
 have X4 := X1.keeps F4.keep
 refine getM_T (C := 387) (ga := "object.__getattribute__") (id := "str.replace") (N4 _ (.tail _ hv)).1 (N4 _ (.tail _ hdx)).1 (looks_findIn X4 (by k_is)) PySem.F.canon_object_ga (looks_findIn X4 (by k_is)) (looks_findIn X4 (by k_is)) (by kernel_rfl) ?_
 k_steps
 refine unhold ?_
 refine replT (N4 _ (.tail _ hv)).1 rfl (((Looks.ld (N4 _ (.tail _ hv)).1).andThen .now).andThen (looks_mroIn X4 (by k_is))) hocc (by rw [len_strOf]; lia) (fun t5 k5 p5 => ?_)
 k_steps
 refine unhold ?_
 refine rep1 92 [92, 92] bs_is (by decide) (by lia) (by lia) (by lia) (by decide) (by lia) (by decide) (fun t6 k6 p6 => ?_)
 replace p6 := Nat.lt_of_lt_of_le (show 0 < _ by simp) p6
 k_steps
 refine unhold ?_
 refine rep1 59 [92, 59] semi_is (by decide) (by lia) (by lia) (by lia) (by decide) (by lia) (by decide) (fun t7 k7 p7 => ?_)
 replace p7 := Nat.lt_of_lt_of_le (show 0 < _ by simp) p7
 k_steps
 refine unhold ?_
 refine rep1 44 [92, 44] comma_is (by decide) (by lia) (by lia) (by lia) (by decide) (by lia) (by decide) (fun t8 k8 p8 => ?_)
 replace p8 := Nat.lt_of_lt_of_le (show 0 < _ by simp) p8
 k_steps
 refine unhold ?_
 refine rep0 13 (by decide) n13a (by lia) (by lia) (by lia) (by decide) (by lia) (by decide) (fun t9 k9 p9 => ?_)
 replace p9 := Nat.lt_of_lt_of_le (show 0 < _ by simp) p9
 k_steps
 refine unhold ?_
 refine rep1 10 [92, 110] nl_is (by decide) (by lia) (by lia) (by lia) (by decide) (by lia) (by decide) (fun t10 k10 p10 => ?_)
 replace p10 := Nat.lt_of_lt_of_le (show 0 < _ by simp) p10
 k_steps
 refine unhold ?_
 refine rep0 13 (by decide) n13b (by lia) (by lia) (by lia) (by decide) (by lia) (by decide) (fun t11 k11 p11 => ?_)
 replace p11 := Nat.lt_of_lt_of_le (show 0 < _ by simp) p11
 k_steps
 with_reducible rename Fr h₀ L _ m => F9
 with_reducible rename News h₀ L _ _ => N9
 rw [esc_steps]
 exact hret _ _ _ F9 (drop1 N9)
end
section
noncomputable def ent (w : World) (n : Str) (t : Tok) (v : Value) : DictEntry := ⟨PyData.keyHash w.params n, .str n t, v⟩
section
variable {prog : Program} {w : World} {A : Around} {E : Value → Shared → Prop} {K : Frag} {C x L : Addr} {s : Shared} {h₀ : Heap} {m : Str → Option Value} {news : List (Addr × Obj)}
theorem setFld {es es' : List DictEntry} {n n' : Nat} {dx : Addr} {name : Str} {v : Value} {Q : Unit → Shared → Prop} (F : Fr h₀ L s.heap m) (N : News h₀ L s.heap ((dx, dictOf es n) :: news)) (X : K.In s.heap) (ho : (x, instObj C dx) ∈ news)
  (hs : findIn K (.ref C) "__setattr__" = some (some (.builtin "object.__setattr__"))) (hp : plainOver K C = true) (ht : takerIn K C name = some none) (hh : (clsIn K C).any (·.hasDict) = true)
  (hl : (lookIn name (dictOf es n)).isSome = true) (h2 : ∀ p ∈ news, p.1 ≠ dx)
  (e : Obj.putName name (PyData.keyHash w.params name) (.str name (s.toks + 1)) v (dictOf es n) = dictOf es' n') (hz : es'.length ≤ 1000)
  (h : ∀ h', Fr h₀ L h' m → News h₀ L h' ((dx, dictOf es' n') :: news) → Q () { s with heap := h', toks := s.toks + 1 + 1 }) :
  wpAny (model prog w) A (setAttr (.ref x) name v) Q E s := by
 have I : InstAt s.heap x (instObj C dx) C (some (dictOf es n)) := ⟨(N _ (.tail _ ho)).1, rfl, rfl, (N _ (.head _)).1⟩
 refine set_plain X I hs ?_
 have I' : InstAt ({ s with toks := s.toks + 1 } : Shared).heap x (instObj C dx) C (some (dictOf es n)) := I
 refine osa_dict (s := { s with toks := s.toks + 1 }) (pre := []) F N X I' rfl hp ht hh hl (fun p hp => nomatch hp) h2 e rfl hz (fun h' F' N' => ?_)
 exact h h' F' N'
theorem setNew {es : List DictEntry} {n : Nat} {dx : Addr} {name : Str} {v : Value} {Q : Unit → Shared → Prop} (F : Fr h₀ L s.heap m) (N : News h₀ L s.heap ((dx, dictOf es n) :: news)) (X : K.In s.heap) (ho : (x, instObj C dx) ∈ news)
  (hs : findIn K (.ref C) "__setattr__" = some (some (.builtin "object.__setattr__"))) (hp : plainOver K C = true) (ht : takerIn K C name = some none) (hh : (clsIn K C).any (·.hasDict) = true)
  (hl : (lookIn name (dictOf es n)).isSome = true) (h2 : ∀ p ∈ news, p.1 ≠ dx)
  (e : Obj.putName name (PyData.keyHash w.params name) (.str name (s.toks + 1)) v (dictOf es n) = dictOf (es ++ [ent w name (s.toks + 1) v]) (n + 1)) (hz : es.length ≤ 900)
  (h : ∀ h', Fr h₀ L h' m → News h₀ L h' ((dx, dictOf (es ++ [ent w name (s.toks + 1) v]) (n + 1)) :: news) → Q () { s with heap := h', toks := s.toks + 1 + 1 }) :
  wpAny (model prog w) A (setAttr (.ref x) name v) Q E s :=
 setFld F N X ho hs hp ht hh hl h2 e (by rw [List.length_append, List.length_singleton]; lia) h
theorem getFld {es : List DictEntry} {n : Nat} {dx : Addr} {name : Str} {v : Value} {ex : Bool} {Q : Value → Shared → Prop} (X : K.In s.heap) (hx : s.heap.get? x = some (instObj C dx)) (hdx : s.heap.get? dx = some (dictOf es n))
  (hg : plainGet K C name = true) (hh : hasDictIn K C = true) (ha : findIn K (.ref C) name = some none) (hl : getL name es = some (some v)) (hv : handedIn v = true) (h : Q v { s with toks := s.toks + 1 }) :
  wpAny (model prog w) A (getAttr (.ref x) name ex) Q E s := by
 have I : InstAt s.heap x (instObj C dx) C (some (dictOf es n)) := ⟨hx, rfl, rfl, hdx⟩
 exact get_value X I (plainGet_of hg).1 (findObj_own hh ha rfl (by show lookIn name (dictOf es n) = _; rw [lookIn_dict, hl])) hv h
end
inductive RelAll (Rel : Value → Value → List (Addr × Obj) → Prop) : List Value → List Value → List (Addr × Obj) → Prop
 | nil : RelAll Rel [] [] []
 | cons {v y : Value} {objs os : List (Addr × Obj)} {vs ys : List Value} : Rel v y objs → RelAll Rel vs ys os → RelAll Rel (v :: vs) (y :: ys) (objs ++ os)
theorem RelAll.of {Rel : Value → Value → List (Addr × Obj) → Prop} {S : List Addr} {s0 h : Heap} : ∀ {vs ys : List Value}, Paired (ObjAt S s0 Rel h) vs ys → ∃ objs, RelAll Rel vs ys objs ∧ ∀ p ∈ objs, s0.get? p.1 = none ∧ p.1 ∉ S ∧ h.get? p.1 = some p.2
 | _, _, .nil => ⟨[], .nil, fun u' hp => nomatch hp⟩
 | _, _, .cons hx t => by
  obtain ⟨objs, hr, ho⟩ := hx
  refine ob1_2 (RelAll.of t) fun os hrs hos => ?_
  refine ⟨objs ++ os, .cons hr hrs, fun p hp => ?_⟩
  rcases List.mem_append.mp hp with hp | hp
  ·exact ho p hp
  ·exact hos p hp
theorem compNews {h₀ h h' : Heap} {L D : Addr} {m : Str → Option Value} {ys : Array Value} {objs news : List (Addr × Obj)} {S : List Addr} (F : Fr h₀ L h m) (N : News h₀ L h news) (hD : h.get? D = none) (hDL : D ≠ L) (hpl : h'.PlainList D ys)
  (ho : ∀ p ∈ objs, h.get? p.1 = none ∧ p.1 ∉ L :: S ∧ h'.get? p.1 = some p.2) (hk : ∀ b o, b ≠ L → h.get? b = some o → h'.get? b = some o) :
  ∃ k, News h₀ L h' ((D, W.listOf ys k) :: (objs ++ news)) ∧ ∀ p ∈ news, p.1 ≠ D ∧ ∀ q ∈ objs, p.1 ≠ q.1 := by
 obtain ⟨k, hDo⟩ := hpl
 have g0 : ∀ a, h.get? a = none → h₀.get? a = none := fun a ha => by
  cases e : h₀.get? a with
  | none => rfl
  | some o' => rw [F.keep _ _ e] at ha; cases ha
 refine ⟨k, fun p hp => ?_, fun p hp => ⟨fun e => (by rw [← e, (N p hp).1] at hD; cases hD), fun q hq e => (by have := (ho q hq).1; rw [← e, (N p hp).1] at this; cases this)⟩⟩
 rcases List.mem_cons.mp hp with rfl | hp
 ·exact ⟨hDo, hDL, g0 _ hD⟩
 ·rcases List.mem_append.mp hp with hp | hp
  ·refine ob0_3 (ho p hp) fun q1 q2 q3 => ?_
   exact ⟨q3, fun e => q2 (by rw [e]; exact .head _), g0 _ q1⟩
  ·exact ⟨hk _ _ (N p hp).2.1 (N p hp).1, (N p hp).2⟩
end
section
section
variable {prog : Program} {w : World}
noncomputable abbrev rangeIt (n : Nat) : Obj := { cls := .type "range_iterator", data := .fields #[rawInt 0, rawInt (Builtin.Range.rangeSize 0 n 1), rawInt 1] }
theorem srcRange {r : Addr} (n : Nat) (t u v : Tok) (hs : Builtin.Range.small 0 (n : Int) 1 = true) (hz : (Builtin.Range.rangeSize 0 n 1 : Int) = n) :
  SrcP prog w r [] n (fun i x => ∃ t, x = .int (i : Int) t) (fun h I i => IsRangeIter h I (i : Nat) ((n : Int) - (i : Nat)) 1) (rangeIt n) (fun h => IsRange h r 0 (n : Int) 1 t u v) where
 walks := fun A hh I u' => by
  have W := Walks.range (prog := prog) (w := w) hh I 0 1 n
  simpa using W
 itAt := fun a k => k _ (.inl rfl) _ a
 itHas := fun a => ⟨_, a⟩
 has := fun u' b hb => by cases hb
 start := fun u' u' e => by
  unfold IsRangeIter
  rw [e]
  unfold rangeIt
  rw [hz]; simp
 alive := rfl
 iter := fun hr hq => wpAny_pyIter_range hr hs hq
 again := fun hit hq => wpAny_pyIter_rangeiter hit hq
end
end
section
section
variable {M : Model} {A : Around} {E : Value → Shared → Prop} {s : Shared} {x : Str} {v : Value} {m mg mb : Str → Option Value} {pos : Pos} {env : Env} {Q : Value → Shared → Prop} {h₀ : Heap} {L : Addr} {K : Frag} {p : Program} {loose : List Str}
theorem cnL (hn : s.heap.Ns env.locals m) (hm : m x = some v) (hk : env.scope.kind = .function) (hx : env.kindOf x = some .local) (hd : (x == ("__debug__" : Str)) = false) (h : Q v s) : wpAny M A (eval (.Name x pos) env) Q E s :=
 wpAny_Name (wpAny_loadName_local hk hx hn hm h) hd
theorem cnB {mf : Str → Option Value} (F : Fr h₀ L s.heap mf) (X : K.In h₀) (T : TopRead p loose mg mb h₀) (e : nsIn K mainGlobals x = some none) (hv : bootBuiltins x = some v) (hn : x ≠ "__name__") (hg : env.globals = mainGlobals) (hb : env.builtins = builtinsNs) (hk : env.scope.kind = .function) (hx : env.kindOf x = some .globalImplicit) (hd : (x == ("__debug__" : Str)) = false) (h : Q v s) :
  wpAny M A (eval (.Name x pos) env) Q E s :=
 Name_function_global hk hx (loadGlobal_builtin (env := env) (by rw [hg]; exact T.g.keeps F.keep) (mg_none_of X T.g e) (by rw [hb]; exact T.b.keeps F.keep) ((T.builtins x hn).trans hv) h) hd
end
theorem getM_F {prog : Program} {w : World} {A : Around} {E : Value → Shared → Prop} {h : Heap} {g : Array GenState} {d : Drawn} {t : Nat} {os : OsState} {v dx C f : Addr} {dt : Data} {sl : Array (Option Value)} {ga : String} {name : Str} {pl : Sem Bool} {Q : Value × List Value → Shared → Prop}
  (hv : h.get? v = some ⟨.ref C, some dx, dt, sl⟩) (hdx : h.get? dx = some (dictOf [] 0)) (hga : Looks (model prog w) h (typeLookup (.ref C) "__getattribute__") (some (.builtin ga))) (hcan : (Manifest.canonical ga != "object.__getattribute__") = false)
  (hgt : Looks (model prog w) h (typeLookup (.ref C) "__getattr__") none) (hf : Looks (model prog w) h (typeLookup (.ref C) name) (some (.ref f))) (hty : Looks (model prog w) h (typeOf (.ref f)) (.type "function"))
  (hq : Q (.ref f, [.ref v]) ⟨h, g, d, t, os⟩) : wpAny (model prog w) A (getMethod (.ref v) name pl) Q E ⟨h, g, d, t, os⟩ := by
 have L0 : Looks (model prog w) h (typeOf (.ref v)) (.ref C) := (Looks.ld hv).andThen .now
 delta getMethod specialOf
 refine wpAny_bind (wpAny_bind (L0.at (hga.at ?_)))
 dsimp only
 rw [hcan, if_neg Bool.false_ne_true]
 refine wpAny_bind (wpAny_bind (L0.at (hgt.at ?_)))
 refine w_else (by decide) ?_
 refine wpAny_bind (wpAny_bind (L0.at (hf.at ?_)))
 dsimp only
 refine wpAny_bind (hty.at ?_)
 refine w_else (by decide) ?_
 refine wpAny_bind (wpAny_loadPart hv ?_)
 dsimp only
 refine wpAny_bind (wpAny_bind (wpAny_loadPart hdx ?_))
 rw [nsLook_of (r := none) rfl]
 refine wpAny_pure ?_
 refine w_else (by decide) ?_
 exact wpAny_bind (wpAny_rule (wpAny_pure hq))
end
section
local macro_rules | `(tactic| walk_at "eval Name") => `(tactic| ((fail_if_success (with_reducible show wpAny _ _ (eval _ (envX _ _ _ _ _ _)) _ _ _)); (fail_if_success (with_reducible show wpAny _ _ (eval _ (envOf _ _ _ _ _)) _ _ _)); refine hold ?_))
section
inductive TabRel (tab : Nat → List Nat) (v y : Value) (objs : List (Addr × Obj)) : Prop
 | mk (d : Nat) (t t' : Tok) (c0 : v = .int (d : Int) t) (c1 : y = .str (strOf (tab d)) t') (c2 : objs = [])
structure IsTab (w : World) (nm : Str) (tb : Addr) (tab : Nat → List Nat) : Prop where
 name : nsIn (K w.params) mainGlobals nm = some (some (.ref tb))
 obj : ∃ tv kt, (K w.params).lookup tb = some ⟨.type "list", none, .seq tv kt, #[]⟩ ∧ ∀ d < 9, ∃ t, tv[d]? = some (.str (strOf (tab d)) t)
 dbg : (nm == ("__debug__" : Str)) = false
 ne0 : (nm == (".0" : Str)) = false
 ned : (nm == ("digit" : Str)) = false
 short : ∀ d < 9, (tab d).length ≤ 2
noncomputable def signTab (d : Nat) : List Nat := [[97], [44], [59], [92], [58], [110], [32], [10], [90]].getD d []
noncomputable def escTab (d : Nat) : List Nat := [[97], [92, 44], [92, 59], [92, 92], [58], [110], [32], [92, 110], [90]].getD d []
theorem signsTab (w : World) : IsTab w "_law_signs" 874 signTab where
 name := by k_is
 obj := ⟨_, _, rfl, all9 ⟨1907, rfl⟩ ⟨1908, rfl⟩ ⟨1909, rfl⟩ ⟨1910, rfl⟩ ⟨1911, rfl⟩ ⟨1912, rfl⟩ ⟨1913, rfl⟩ ⟨1914, rfl⟩ ⟨1915, rfl⟩⟩
 dbg := by decide
 ne0 := by decide
 ned := by decide
 short := by decide
theorem escsTab (w : World) : IsTab w "_law_escaped" 875 escTab where
 name := by k_is
 obj := ⟨_, _, rfl, all9 ⟨1917, rfl⟩ ⟨1918, rfl⟩ ⟨1919, rfl⟩ ⟨1920, rfl⟩ ⟨1921, rfl⟩ ⟨1922, rfl⟩ ⟨1923, rfl⟩ ⟨1924, rfl⟩ ⟨1925, rfl⟩⟩
 dbg := by decide
 ne0 := by decide
 ned := by decide
 short := by decide
theorem elt_tab {w : World} {nm : Str} {tb : Addr} {tab : Nat → List Nat} (I : IsTab w nm tb tab) {mean : ExcName → Option Value} {mg mb : Str → Option Value} (d : Nat) (hd9 : d < 9) (t : Tok) (p1 p2 p3 : Pos) (h₃ : Heap) (tk₃ : Nat) (m₃ : Str → Option Value) (env : Env) (A : Around)
  (h₀ : Heap) (L : Addr) (m : Str → Option Value) (s : Shared)
  (F : Fr h₀ L h₃ m) (X : (K w.params).In h₀) (T : Top q0 (looseW q0 loose0) mean mg mb h₀)
  (hn : h₃.Ns env.locals m₃) (hm : m₃ "digit" = some (.int (d : Int) t)) (hks : env.scope.kind = .function) (hg : env.globals = mainGlobals) (hkv : env.kindOf nm = some .globalImplicit) (hkc : env.kindOf "digit" = some .local) :
  EltOK pw w A h₀ L m (TabRel tab) env (.Subscript (.Name nm p1) (.Name "digit" p2) p3) (.int (d : Int) t) { s with heap := h₃, toks := tk₃ } := by
 intro Q' E' hq
 k_steps
 refine unhold (nameG_K (s := { s with heap := h₃, toks := tk₃ }) (v := .ref tb) F X (by k_asm) I.name ?_ hg hks hkv I.dbg)
 k_steps
 refine unhold (cnL (s := { s with heap := h₃, toks := tk₃ }) hn hm hks hkc (by decide) ?_)
 refine ob2_2 I.obj fun tv kt ho hv => ?_
 obtain ⟨t', e'⟩ := hv d hd9
 refine PyProof.Rows.item_list (items := tv) (x := .str (strOf (tab d)) t') ⟨_, X.keeps F.keep _ _ ho, rfl, _, rfl⟩ (by lia) (by lia) (by simpa using e') ?_
 exact hq _ [] h₃ tk₃ ⟨d, t, t', rfl, rfl, rfl⟩ (fun p hp => nomatch hp) F (fun b o u' e => e)
theorem tab_out {tab : Nat → List Nat} {h s0 : Heap} {S : List Addr} : ∀ (ds : List (Nat × Tok)) (zs : List Value), Paired (ObjAt S s0 (TabRel tab) h) (intVals ds) zs → ∃ us, zs = txs us ∧ us.map (·.1) = (ds.map (·.1)).map tab
 | [], _, hp => by cases hp; exact ⟨[], rfl, rfl⟩
 | t :: ts, _, hp => by
  cases hp with
  | cons q1 q2 =>
   refine ob1_2 (tab_out ts _ q2) fun us eq1 hus => ?_
   subst eq1
   obtain ⟨os, ⟨d, t1, t2, e1, rfl, rfl⟩, _⟩ := q1
   have el : t.1 = d := by injection e1 with b1; lia
   exact ⟨(tab d, t2) :: us, rfl, by simp [hus, el]⟩
theorem cat_txs : ∀ us : List (List Nat × Tok), cat (us.map fun p => (strOf p.1, p.2)) = (us.map (·.1)).flatten
 | [] => rfl
 | u :: r => by
  show (strOf u.1).cps.toList ++ cat (r.map fun p => (strOf p.1, p.2)) = u.1 ++ (r.map (·.1)).flatten
  rw [cat_txs r]; simp [strOf]
theorem flat_le {tab : Nat → List Nat} (h : ∀ d < 9, (tab d).length ≤ 2) : ∀ ds : List (Nat × Tok), (∀ p ∈ ds, p.1 < 9) → (((ds.map (·.1)).map tab).flatten).length ≤ 2 * ds.length
 | [], _ => Nat.le_refl _
 | d :: ds, hd => by
  have h1 := flat_le h ds fun p hp => hd p (.tail _ hp)
  have h2 := h d.1 (hd d (.head _))
  simp only [List.map_cons, List.flatten_cons, List.length_append, List.length_cons]
  lia
inductive JoinRel (H : Heap) (tab : Nat → List Nat) (v y : Value) (objs : List (Addr × Obj)) : Prop
 | mk (a : Addr) (ds : List (Nat × Tok)) (k : Nat) (t' : Tok) (c0 : v = .ref a) (c1 : H.get? a = some (W.listOf (intVals ds).toArray k)) (c2 : y = .str (strOf (((ds.map (·.1)).map tab).flatten)) t') (c3 : objs = [])
local macro_rules | `(tactic| walk_at "eval ListComp") => `(tactic| (refine hold ?_))
theorem elt_join {w : World} {nm : Str} {tb : Addr} {tab : Nat → List Nat} (I : IsTab w nm tb tab) {mean : ExcName → Option Value} {mg mb : Str → Option Value} (H : Heap) (fa : Addr) (ds : List (Nat × Tok)) (kf : Nat) (hds : ∀ p ∈ ds, p.1 < 9) (hdl : ds.length ≤ 1000) (p1 p2 p3 p4 p5 p6 p7 p8 p9 : Pos) (h₃ : Heap) (tk₃ : Nat) (m₃ : Str → Option Value) (env : Env) (scope : Scope) (A : Around)
  (h₀ : Heap) (L : Addr) (m : Str → Option Value) (s : Shared)
  (F : Fr h₀ L h₃ m) (X : (K w.params).In h₀) (T : Top q0 (looseW q0 loose0) mean mg mb h₀) (hfa : H.get? fa = some (W.listOf (intVals ds).toArray kf)) (hfL : fa ≠ L) (hH : ∀ b o, b ≠ L → H.get? b = some o → h₃.get? b = some o)
  (hn : h₃.Ns env.locals m₃) (hm : m₃ "field" = some (.ref fa)) (hks : env.scope.kind = .function) (hg : env.globals = mainGlobals) (hkf : env.kindOf "field" = some .local) (hh : A.handled = none)
  (hsc : scope = { kind := .function, names := [(PySem.Str.ofString ".0", .local), (PySem.Str.ofString "digit", .local), (nm, .globalImplicit)], isGenerator := false, isCoroutine := false, more := [] })
  (pl : Sem Bool) (he : eval (.Call (.Attribute (.Constant (.str "") 0 p1) "join" p2) [.ListComp (.Subscript (.Name nm p4) (.Name "digit" p5) p6) [⟨.Name "digit" p7, .Name "field" p8, [], 0⟩] scope p9] [] p3) env = (do
   let ov ← eval (.Constant (.str "") 0 p1) env
   standAt p2.atName
   let (f, first) ← holding [ov] (getMethod ov "join" pl)
   callWith p3 f first (backTo p3 (starEach [.ListComp (.Subscript (.Name nm p4) (.Name "digit" p5) p6) [⟨.Name "digit" p7, .Name "field" p8, [], 0⟩] scope p9] env)) [])) (hs : ∀ x, foldedSetIterable (.Name "field" p8) env x = pure x) :
  EltOK pw w A h₀ L m (JoinRel H tab) env (.Call (.Attribute (.Constant (.str "") 0 p1) "join" p2) [.ListComp (.Subscript (.Name nm p4) (.Name "digit" p5) p6) [⟨.Name "digit" p7, .Name "field" p8, [], 0⟩] scope p9] [] p3) (.ref fa) { s with heap := h₃, toks := tk₃ } := by
 subst hsc
 intro Q' E' hq
 with_reducible refine MethodCall_ ?_ he
 k_steps
 refine unhold ?_
 have hL : h₃.IsList fa (intVals ds).toArray := ⟨_, hH _ _ hfL hfa, rfl, _, rfl⟩
 refine listCompH (TabRel tab) hh (cl := []) (by with_unfolding_all rfl) (by simp) rfl (fun y hy hy2 => ?_) (by with_unfolding_all rfl) hs F ?_
 ·simp only [List.mem_cons, List.not_mem_nil, or_false] at hy
  rcases hy with rfl | rfl | rfl
  ·with_unfolding_all rfl
  ·with_unfolding_all rfl
  ·cases hy2
 k_steps
 refine unhold (cnL (s := { s with heap := h₃, toks := tk₃ + 1 }) hn hm hks hkf (by decide) ?_)
 refine unhold ⟨fa, intVals ds, rfl, hL, by rw [intVals_len, sizeLine_eq]; lia, F, hfL, fun C v h₄ tk₄ m₄ hv hC hn4 hm4 F4 hk4 => ?_, fun D h5 tk5 ys hD hDL hpl F5 hP hk5 => ?_⟩
 ·obtain ⟨q, hq, rfl⟩ : ∃ q ∈ ds, v = .int (q.1 : Int) q.2 := by
   simp only [intVals, List.mem_map] at hv
   refine ob1_2 hv fun q hq eq2 => ?_
   clear hv
   subst eq2
   exact ⟨q, hq, rfl⟩
  refine elt_tab I q.1 (hds q hq) q.2 _ _ _ h₄ tk₄ m₄ _ A h₀ L m _ F4 X T hn4 hm4 rfl hg ?_ ?_
  ·have h1 := I.ne0
   have h2 := I.ned
   simp [Env.kindOf, compEnvC, relabel, List.lookup, h1, h2]
  ·with_unfolding_all rfl
 with_reducible refine ob1_2 (tab_out ds _ hP) fun us hzs hus => ?_
 obtain ⟨kD, hDo⟩ := hpl
 k_steps
 have hys : ys = (txs us).toArray := by rw [← hzs, Array.toArray_toList]
 subst hys
 have hcat : cat (us.map fun p => (strOf p.1, p.2)) = ((ds.map (·.1)).map tab).flatten := by
  rw [← hus, cat_txs]
 have hlen : (cat (us.map fun p => (strOf p.1, p.2))).length ≤ 65536 := by
  rw [hcat]
  have := flat_le (tab := tab) I.short ds hds
  lia
 refine SC.join (l := us.map fun p => (strOf p.1, p.2)) (texts := (us.map fun p => (strOf p.1, p.2)).map (·.1)) ⟨_, hDo, rfl, kD, rfl⟩ rfl (joinOk_cat _ hlen) (fun t' k' => ?_)
 have e : Txt.join (PySem.Str.ofString "") ((us.map fun p => (strOf p.1, p.2)).map (·.1)) = strOf (((ds.map (·.1)).map tab).flatten) := by rw [← hcat]; exact join_cat _
 rw [e]
 exact hq _ [] h5 k' ⟨fa, ds, kf, t', rfl, hfa, rfl, rfl⟩ (fun p hp => nomatch hp) F5 hk5
end
inductive AbsRel (v y : Value) (objs : List (Addr × Obj)) : Prop
 | mk (n : Int) (t t' : Tok) (c0 : v = .int n t) (c1 : y = .int (n.natAbs : Int) t') (c2 : objs = [])
theorem elt_abs {w : World} {mean : ExcName → Option Value} {mg mb : Str → Option Value} (n : Int) (t : Tok) (p1 p2 p3 : Pos) (h₃ : Heap) (tk₃ : Nat) (m₃ : Str → Option Value) (env : Env) (A : Around)
  (h₀ : Heap) (L : Addr) (m : Str → Option Value) (s : Shared)
  (F : Fr h₀ L h₃ m) (X : (K w.params).In h₀) (T : Top q0 (looseW q0 loose0) mean mg mb h₀)
  (hn : h₃.Ns env.locals m₃) (hm : m₃ "number" = some (.int n t)) (hks : env.scope.kind = .function) (hg : env.globals = mainGlobals) (hb : env.builtins = builtinsNs) (hkv : env.kindOf "abs" = some .globalImplicit) (hkc : env.kindOf "number" = some .local) :
  EltOK pw w A h₀ L m AbsRel env (.Call (.Name "abs" p1) [.Name "number" p2] [] p3) (.int n t) { s with heap := h₃, toks := tk₃ } := by
 intro Q' E' hq
 show wpAny (model pw w) _ (do callWith p3 (← eval (.Name "abs" p1) _) [] (backTo p3 (starEach [.Name "number" p2] _)) (backToKw p3 (keywordEach [] _))) _ _ _
 refine wpAny_bind (cnB (s := { s with heap := h₃, toks := tk₃ }) F X (topRead_of T) (by k_is) (by boot_by_name) (by decide) hg hb hks hkv (by decide) ?_)
 k_steps
 refine unhold (cnL (s := { s with heap := h₃, toks := tk₃ }) hn hm hks hkc (by decide) ?_)
 k_steps
 have e : (if n < 0 then -n else n) = (n.natAbs : Int) := by split <;> lia
 rw [e]
 exact hq _ [] h₃ _ ⟨n, t, _, rfl, rfl, rfl⟩ (fun p hp => nomatch hp) F (fun b o u' e => e)
theorem ints_mem {v : Value} : ∀ {vs : List Value} {ns : List Int}, IntsAre vs ns → v ∈ vs → ∃ n t, v = .int n t
 | _, _, .cons n t h, hm => by
  rcases List.mem_cons.mp hm with rfl | hm
  ·exact ⟨n, t, rfl⟩
  ·exact ints_mem h hm
theorem abs_out {h s0 : Heap} {S : List Addr} : ∀ (vs : List Value) (ns : List Int) (zs : List Value), IntsAre vs ns → Paired (ObjAt S s0 AbsRel h) vs zs → ∃ us, zs = intVals us ∧ us.map (·.1) = ns.map Int.natAbs
 | [], ns, _, hv, hp => by cases hp; cases hv; exact ⟨[], rfl, rfl⟩
 | v :: vs, ns, _, hv, hp => by
  cases hp with
  | cons q1 q2 =>
   cases hv with
   | cons n0 t0 h2 =>
    refine ob1_2 (abs_out vs _ _ h2 q2) fun us eq1 hus => ?_
    subst eq1
    obtain ⟨os, ⟨n, t1, t2, e1, rfl, rfl⟩, _⟩ := q1
    injection e1 with e2 e3
    subst e2
    exact ⟨(n0.natAbs, t2) :: us, rfl, by simp [hus]⟩
theorem storeCell {M : Model} {A : Around} {E : Value → Shared → Prop} {s : Shared} {h₀ : Heap} {L a : Addr} {m : Str → Option Value} {cn : Str} {cs : Scope} {ccd : Value} {cl : List (Str × Addr)} {x : Str} {v : Value} {Q : Unit → Shared → Prop} {news : List (Addr × Obj)} {c : Addr} {o : Obj} {v₀ : Option Value}
  (F : Fr h₀ L s.heap m) (N : News h₀ L s.heap ((c, o) :: news)) (hne : ∀ p ∈ news, p.1 ≠ c) (hc : cl.lookup x = some c) (hd : o.data = .cell v₀)
  (h : ∀ h' o', Fr h₀ L h' m → News h₀ L h' ((c, o') :: news) → o'.data = .cell (some v) → Q () { s with heap := h' })
  (hk : cs.kind = .function := by rfl) (hx : (envX cn cs L a ccd cl).kindOf x = some .cell := by rfl) : wpAny M A (storeName (envX cn cs L a ccd cl) x v) Q E s := by
 have hm := N _ (.head _)
 refine wpAny_storeName_cell hk hx hc ⟨o, hm.1, hd⟩ fun h' hv hs => ?_
 obtain ⟨o', ho', hd'⟩ := hv
 refine h h' o' ⟨F.ns.sameBut hs (Ne.symm hm.2.1), fun b ob e => (hs.2 b (fun q => ?_)).trans (F.keep b ob e), F.above⟩ (fun p hp => ?_) hd'
 ·rw [q, hm.2.2] at e; cases e
 ·rcases List.mem_cons.mp hp with rfl | hp
  ·exact ⟨ho', hm.2⟩
  ·exact ⟨(hs.2 _ (hne p hp)).trans (N p (.tail _ hp)).1, (N p (.tail _ hp)).2⟩
end
section
section
variable {prog : Program} {w : World} {A : Around} {K : Frag} {C : Addr} {R : Result → Shared → Prop} {h : Heap} {g : Array GenState} {d : Drawn} {t : Nat} {os : OsState}
theorem make_b {nid : String} {rest : List Value} {oc : Value} {od : Option Addr} {cd : ClassData} {sl : Array (Option Value)} (hC : h.get? C = some ⟨oc, od, .cls cd, sl⟩) (hm : cd.mro.isEmpty = false)
  (call_ : Looks (model prog w) h (specialOf (.ref C) "__call__") (some (.builtin "type.__call__"))) (typ : Looks (model prog w) h (isInstance (.ref C) (.type "type")) true) (made : Looks (model prog w) h (Bind.madeBy (.ref C)) (some nid))
  (hq : wpAny (model prog w) (A.under (.builtin "type.__call__" ⟨.ref C :: rest, []⟩)) (call (.builtin nid) (.ref C :: rest)) (fun v s' => ∃ x ox fI, v = .ref x ∧ s'.heap.get? x = some ox ∧ ox.cls = .ref C ∧ Looks (model prog w) s'.heap (isSubtype (.ref C) (.ref C)) true ∧
    Looks (model prog w) s'.heap (typeLookup (.ref C) "__init__") (some fI) ∧ Looks (model prog w) s'.heap (bindSpecial fI (.ref x)) (fI, [.ref x]) ∧
    wpAny (model prog w) (A.under (.builtin "type.__call__" ⟨.ref C :: rest, []⟩)) (call fI (.ref x :: rest)) (fun r s'' => r = .none ∧ R (.ok (.ret (.ref x))) s'') (fun e s'' => R (.error e) s'') s')
    (fun e s'' => R (.error e) s'') ⟨h, g, d, t, os⟩) :
  codeAny (model prog w) A (.call (.ref C) ⟨rest, []⟩) R ⟨h, g, d, t, os⟩ := by
 refine codeAny_of_tree ?_
 show wpAny _ _ (callAny (.ref C) _) _ _ _
 refine nd_load hC ?_
 show wpAny _ _ (callAny.viaDunder (.ref C) _) _ _ _
 delta callAny.viaDunder
 refine wpAny_bind (call_.at ?_)
 dsimp only
 rw [tc_bind]
 refine wpAny_bind (wpAny_pure (wpAny_bind (wpAny_pure ?_)))
 refine wpAny_pure (a := Fin.again (.call (.builtin "type.__call__") ⟨.ref C :: rest, []⟩)) (And.intro rfl ?_)
 refine codeAny_call_builtin_at (Code.quiet_builtin _ (by decide +kernel)) entry_typeCall (@check_slot (model prog w) _ _ _ "type.__call__" "type" "__call__" (.ref C) rest [] _ tc_kind tc_split typ (tc_args _ _ _) ?_)
 delta Builtin.«type.__call__»
 have hmro : Looks (model prog w) h (mroOf (.ref C)) cd.mro := ((Looks.ld (part := none) hC).andThen .now).andThen .now
 repeat (first | refine w_else (by rw [hm]; exact Bool.false_ne_true) ?_ | simp only [hm, Bool.false_eq_true, if_false] | with_reducible refine Looks.at (by assumption) ?_ | with_reducible refine wpAny_bind ?_ | with_reducible refine wpAny_holding ?_ | ((fail_if_success (with_reducible show wpAny _ _ (PySem.call _ _ _) _ _ _)); k_node))
 refine wpAny_mono hq (fun v s' z => ?_) fun u' u' z => z
 refine ob3_7 z fun x ox fI eq3 hx hxc hsub hfi hbi hcall => ?_
 clear z
 subst eq3
 obtain ⟨hh, gg, dd, tt, oo⟩ := s'
 have ht : Looks (model prog w) hh (typeOf (.ref x)) (.ref C) := by
  refine (Looks.ld (part := some headPart) hx).andThen ?_
  rw [hxc]; exact .now
 delta isInstance callSpecial? specialOf
 repeat (first | with_reducible refine Looks.at (by assumption) ?_ | with_reducible refine wpAny_bind ?_ | with_reducible refine wpAny_holding ?_ | ((fail_if_success (with_reducible show wpAny _ _ (PySem.call _ _ _) _ _ _)); k_node))
 refine wpAny_mono hcall (fun r s'' z => ?_) fun u' u' z => z
 obtain ⟨rfl, z⟩ := z
 exact wpAny_pure (wpAny_pure z)
theorem make_f {rest : List Value} {oc : Value} {od : Option Addr} {cd : ClassData} {sl : Array (Option Value)} (hC : h.get? C = some ⟨oc, od, .cls cd, sl⟩) (hm : cd.mro.isEmpty = false)
  (call_ : Looks (model prog w) h (specialOf (.ref C) "__call__") (some (.builtin "type.__call__"))) (typ : Looks (model prog w) h (isInstance (.ref C) (.type "type")) true) (made : Looks (model prog w) h (Bind.madeBy (.ref C)) none)
  (hq : wpAny (model prog w) (A.under (.builtin "type.__call__" ⟨.ref C :: rest, []⟩)) (getAttr (.ref C) "__new__") (fun nv s₁ => wpAny (model prog w) (A.under (.builtin "type.__call__" ⟨.ref C :: rest, []⟩)) (call nv (.ref C :: rest)) (fun v s' => ∃ x ox fI, v = .ref x ∧ s'.heap.get? x = some ox ∧ ox.cls = .ref C ∧ Looks (model prog w) s'.heap (isSubtype (.ref C) (.ref C)) true ∧
    Looks (model prog w) s'.heap (typeLookup (.ref C) "__init__") (some fI) ∧ Looks (model prog w) s'.heap (bindSpecial fI (.ref x)) (fI, [.ref x]) ∧
    wpAny (model prog w) (A.under (.builtin "type.__call__" ⟨.ref C :: rest, []⟩)) (call fI (.ref x :: rest)) (fun r s'' => r = .none ∧ R (.ok (.ret (.ref x))) s'') (fun e s'' => R (.error e) s'') s')
    (fun e s'' => R (.error e) s'') s₁) (fun e s'' => R (.error e) s'') ⟨h, g, d, t, os⟩) :
  codeAny (model prog w) A (.call (.ref C) ⟨rest, []⟩) R ⟨h, g, d, t, os⟩ := by
 refine codeAny_of_tree ?_
 show wpAny _ _ (callAny (.ref C) _) _ _ _
 refine nd_load hC ?_
 show wpAny _ _ (callAny.viaDunder (.ref C) _) _ _ _
 delta callAny.viaDunder
 refine wpAny_bind (call_.at ?_)
 dsimp only
 rw [tc_bind]
 refine wpAny_bind (wpAny_pure (wpAny_bind (wpAny_pure ?_)))
 refine wpAny_pure (a := Fin.again (.call (.builtin "type.__call__") ⟨.ref C :: rest, []⟩)) (And.intro rfl ?_)
 refine codeAny_call_builtin_at (Code.quiet_builtin _ (by decide +kernel)) entry_typeCall (@check_slot (model prog w) _ _ _ "type.__call__" "type" "__call__" (.ref C) rest [] _ tc_kind tc_split typ (tc_args _ _ _) ?_)
 delta Builtin.«type.__call__»
 have hmro : Looks (model prog w) h (mroOf (.ref C)) cd.mro := ((Looks.ld (part := none) hC).andThen .now).andThen .now
 repeat (first | refine w_else (by rw [hm]; exact Bool.false_ne_true) ?_ | simp only [hm, Bool.false_eq_true, if_false] | with_reducible refine Looks.at (by assumption) ?_ | with_reducible refine wpAny_bind ?_ | with_reducible refine wpAny_holding ?_ | ((fail_if_success (with_reducible show wpAny _ _ (PySem.call _ _ _) _ _ _)); (fail_if_success (with_reducible show wpAny _ _ (PySem.getAttr _ _ _) _ _ _)); k_node))
 refine wpAny_mono hq (fun nv s₁ z => ?_) fun u' u' z => z
 refine wpAny_bind (wpAny_holding ?_)
 refine wpAny_mono z (fun v s' z => ?_) fun u' u' z => z
 refine ob3_7 z fun x ox fI eq3 hx hxc hsub hfi hbi hcall => ?_
 clear z
 subst eq3
 obtain ⟨hh, gg, dd, tt, oo⟩ := s'
 have ht : Looks (model prog w) hh (typeOf (.ref x)) (.ref C) := by
  refine (Looks.ld (part := some headPart) hx).andThen ?_
  rw [hxc]; exact .now
 delta isInstance callSpecial? specialOf
 repeat (first | with_reducible refine Looks.at (by assumption) ?_ | with_reducible refine wpAny_bind ?_ | with_reducible refine wpAny_holding ?_ | ((fail_if_success (with_reducible show wpAny _ _ (PySem.call _ _ _) _ _ _)); k_node))
 refine wpAny_mono hcall (fun r s'' z => ?_) fun u' u' z => z
 obtain ⟨rfl, z⟩ := z
 exact wpAny_pure (wpAny_pure z)
theorem attr_cls {E : Value → Shared → Prop} {name : Str} {ex : Bool} {Q : Value → Shared → Prop} (hty : Looks (model prog w) h (typeOf (.ref C)) (.type "type"))
  (hq : wpAny (model prog w) A (call (.builtin "type.__getattribute__") [.ref C, .str name t]) (fun v s' => handedIn v = true ∧ Q v s') (fun u' u' => False) ⟨h, g, d, t + 1, os⟩) :
  wpAny (model prog w) A (getAttr (.ref C) name ex) Q E ⟨h, g, d, t, os⟩ := by
 have hlk : Looks (model prog w) h (typeLookup (.type "type") "__getattribute__") (some (.builtin "type.__getattribute__")) := Looks.of_pure (by rw [typeLookup_type, builtinLookup_eq_fast]; kernel_rfl)
 have hb : bindSpecial (.builtin "type.__getattribute__") (.ref C) = pure (.builtin "type.__getattribute__", [.ref C]) := by kernel_rfl
 delta getAttr getAttrBy
 refine wpAny_bind (wpAny_mkText (wpAny_holding (wpAny_bind (hty.at (wpAny_bind (hlk.at ?_))))))
 show wpAny _ _ (getAttrByItsOwn (.ref C) (.str name t) (.type "type") (.builtin "type.__getattribute__") true ex) _ _ _
 delta getAttrByItsOwn hookBefore callGetattribute boundAndCalled
 refine wpAny_bind (wpAny_of_eq (show (if onTheHeap (.type "type") then typeLookup (.type "type") "__getattr__" else pure none) = pure none from rfl) ?_)
 refine wpAny_bind (wpAny_attempt (wpAny_holding ?_))
 rw [if_neg (by rw [show (ex && onTheHeap (Value.builtin "type.__getattribute__")) = false from by cases ex <;> rfl]; exact Bool.false_ne_true), hb]
 refine wpAny_bind (wpAny_pure ?_)
 refine wpAny_mono hq (fun v s' hv => ?_) fun u' u' z => z.elim
 show wpAny _ _ (handedOut v) _ _ _
 rw [handedOut_of hv.1]
 exact wpAny_pure hv.2
end
theorem params_spec {w : World} {mean : ExcName → Option Value} {mg mb : Str → Option Value} {news : List (Addr × Obj)}
  (dp un : Nat) (gd : Option (List Code)) (cn : Str) (cs : Scope) (a : Addr) (ccd : Value) (cl : List (Str × Addr)) (outer : List Env) (A₀ : Around) (base h₀ : Heap) (L : Addr) (m : Str → Option Value) (s : Shared) (Q E : Value → Shared → Prop)
  (B : Below A₀ base outer h₀) (F : Fr h₀ L s.heap m) (X : (K w.params).In h₀) (N : News h₀ L s.heap news) (T : Top q0 (looseW q0 loose0) mean mg mb h₀) (hk : cs.kind = .function)
  (hd : dp + 15 < 500) (hu : un + 100 < 200)
  (hret : ∀ (x dx : Addr) (h' : Heap) (tk' : Nat), Fr h₀ L h' m → News h₀ L h' ((x, (⟨.ref 324, some dx, .dict #[] 0, #[]⟩ : Obj)) :: (dx, dictOf [] 0) :: news) → (∀ p ∈ news, p.1 ≠ x ∧ p.1 ≠ dx) → Q (.ref x) { s with heap := h', toks := tk' }) :
  wpAny (model pw w) (ktrTop dp un gd cn cs L a ccd cl outer) (call (.ref 324) [.none]) Q E s := by
 have XX := X.keeps F.keep
 obtain ⟨hh, g, d, t, os⟩ := s
 refine wpAny_call (make_b (nid := "dict.__new__") (XX 324 _ rfl) rfl (looks_specialIn XX (by k_is)) (looks_instIn XX (by k_is)) (Looks.of_peek XX (by kernel_rfl)) ?_)
 have e1 : (Code.builtin "type.__call__" { pos := [Value.ref 324, Value.none] }).weight = 1 := by decide +kernel
 have e2 : (Code.builtin "type.__call__" { pos := [Value.ref 324, Value.none] }).cUnits = 1 := by decide +kernel
 refine up (lf_dnew XX (fun x dx h2 tk2 D2 => ?_)) ?_ ?_
 ·have F2 := memFr F D2
  have N2 := memNews F N D2
  have X2 := X.keeps F2.keep
  refine ⟨x, _, .ref 285, rfl, (N2 _ (.head _)).1, rfl, looks_mroIn X2 (by k_is), looks_findIn X2 (by k_is), bind_fn X2 _ (by k_is), ?_⟩
  refine wpAny_call (p_init x dx _ _ _ _ _ _ _ _ _ _ _ _ _ _ _ _ B F2 X N2 (.head _) (.tail _ (.head _)) T hk ?_ ?_ (fun h3 tk3 F3 N3 => ?_))
  ·rw [e1]; show dp + 1 + 12 < 500; first | exact rm2 (by assumption) rfl | lia
  ·rw [e2]; show un + 1 + 90 < 200; first | exact rm2 (by assumption) rfl | lia
  ·exact ⟨rfl, hret x dx h3 tk3 F3 N3 (fun p hp => ⟨memNe N D2 (.head _) hp, memNe N D2 (p := (dx, dictOf [] 0)) (.tail _ (.head _)) hp⟩)⟩
 ·rw [e1]; show dp + 1 ≤ 500; first | exact rl1 (by assumption) rfl | lia
 ·rw [e2]; show un + 1 ≤ 200; first | exact rl1 (by assumption) rfl | lia
end
section
local macro_rules | `(tactic| walk_at "call ref") => `(tactic| (refine hold ?_))
section
local macro_rules | `(tactic| walk_at "getMethod str") => `(tactic| (k_here; refine getEncode ?_))
local macro_rules | `(tactic| walk_at "call builtin:str.encode") => `(tactic| (refine hold ?_))
theorem ical_spec {w : World} {mean : ExcName → Option Value} {mg mb : Str → Option Value} {news : List (Addr × Obj)} (v : Addr) (l : List Nat) (tx : Tok) (dx : Addr) (sl : Array (Option Value))
  (dp un : Nat) (gd : Option (List Code)) (cn : Str) (cs : Scope) (a : Addr) (ccd : Value) (cl : List (Str × Addr)) (outer : List Env) (A₀ : Around) (base h₀ : Heap) (L : Addr) (m : Str → Option Value) (s : Shared) (Q E : Value → Shared → Prop)
  (B : Below A₀ base outer h₀) (F : Fr h₀ L s.heap m) (X : (K w.params).In h₀) (N : News h₀ L s.heap news) (hv : (v, vtObj (strOf l) tx dx sl) ∈ news) (hdx : (dx, dictOf [] 0) ∈ news) (T : Top q0 (looseW q0 loose0) mean mg mb h₀) (hk : cs.kind = .function)
  (hx : l.length ≤ 1024) (hsg : ∀ c ∈ l, c ∈ signs)
  (hd : dp + 5 < 500) (hu : un + 30 < 200)
  (hret : ∀ (t : Tok) (h' : Heap) (tk' : Nat), Fr h₀ L h' m → News h₀ L h' news → Q (.bytes (bytesOf (escL l)) t) { s with heap := h', toks := tk' }) :
  wpAny (model pw w) (ktrTop dp un gd cn cs L a ccd cl outer) (call (.ref 365) [.ref v]) Q E s := by
 have hd' : dp + 3 < recursionLimit := by first | exact rc1 (by assumption) rfl | (rw [show recursionLimit = 1000 from rfl]; lia)
 refine wpAny_call ?_
 k_dflt cell_enter
 with_reducible rename Fr _ _ _ (fun y => _) => F1
 with_reducible rename Below _ _ _ _ => B1
 with_reducible rename Top _ _ _ _ _ _ => T1
 with_reducible rename Frag.In _ _ => X1
 replace F1 := frBinds F1 (fun y => if y = "self" then some (.ref v) else none) (by kernel_rfl)
 k_steps
 refine unhold ?_
 with_reducible rename News _ _ _ _ => N1
 refine esc_spec v l tx dx sl _ _ _ _ _ _ _ _ _ _ _ _ _ _ _ _ _ B1 F1 X1 N1 hv hdx T1 rfl hx hsg ?_ ?_ (fun t2 h2 tk2 F2 N2 => ?_)
 ·show dp + 1 + 3 < 500; first | exact rm2 (by assumption) rfl | lia
 ·show un + 3 + 20 < 200; first | exact rm2 (by assumption) rfl | lia
 clear F1 N1
 k_steps
 refine unhold ?_
 have hl := escL_len l
 refine enc_call (escL_ascii hsg) (by lia) (fun t3 k3 => ?_)
 k_steps
 with_reducible rename Fr h₀ L _ m => F9
 with_reducible rename News h₀ L _ _ => N9
 exact hret _ _ _ F9 N9
end
section
local macro_rules | `(tactic| walk_at "wpAt") => `(tactic| (refine hold ?_))
local macro_rules | `(tactic| walk_at "setAttr ref") => `(tactic| (refine hold ?_))
theorem news4 {h₀ h : Heap} {L : Addr} {a b c d e : Addr × Obj} {l : List (Addr × Obj)} (N : News h₀ L h (a :: b :: c :: d :: e :: l)) : News h₀ L h (c :: d :: l) := fun p hp => N p (by
 rcases List.mem_cons.mp hp with rfl | hp
 ·exact .tail _ (.tail _ (.head _))
 ·rcases List.mem_cons.mp hp with rfl | hp
  ·exact .tail _ (.tail _ (.tail _ (.head _)))
  ·exact .tail _ (.tail _ (.tail _ (.tail _ (.tail _ hp)))))
theorem newsMid {h₀ h : Heap} {L : Addr} {a b : Addr × Obj} {l₁ l : List (Addr × Obj)} (N : News h₀ L h (a :: b :: (l₁ ++ l))) : News h₀ L h (a :: b :: l) := fun p hp => N p (by
 rcases List.mem_cons.mp hp with rfl | hp
 ·exact .head _
 ·rcases List.mem_cons.mp hp with rfl | hp
  ·exact .tail _ (.head _)
  ·exact .tail _ (.tail _ (List.mem_append_right _ hp)))
local macro_rules | `(tactic| walk_at "none") => `(tactic| fail)
theorem vt_new {w : World} {mean : ExcName → Option Value} {mg mb : Str → Option Value} {news : List (Addr × Obj)} (x : Str) (tx : Tok)
  (dp un : Nat) (gd : Option (List Code)) (cn : Str) (cs : Scope) (a : Addr) (ccd : Value) (cl : List (Str × Addr)) (outer : List Env) (A₀ : Around) (base h₀ : Heap) (L : Addr) (m : Str → Option Value) (s : Shared) (R : Result → Shared → Prop)
  (B : Below A₀ base outer h₀) (F : Fr h₀ L s.heap m) (X : (K w.params).In h₀) (N : News h₀ L s.heap news) (T : Top q0 (looseW q0 loose0) mean mg mb h₀) (hk : cs.kind = .function) (hx : x.length ≤ 65536)
  (hd : dp + 20 < 500) (hu : un + 110 < 200)
  (hret : ∀ (v dx : Addr) (tx' : Tok) (sl : Array (Option Value)) (h' : Heap) (tk' : Nat), Fr h₀ L h' m → News h₀ L h' ((v, (⟨.ref 387, some dx, .prim (.str x tx'), sl⟩ : Obj)) :: (dx, dictOf [] 0) :: news) → (∀ p ∈ news, p.1 ≠ v ∧ p.1 ≠ dx) → R (.ok (.ret (.ref v))) { s with heap := h', toks := tk' }) :
  codeAny (model pw w) (ktrTop dp un gd cn cs L a ccd cl outer) (.call (.ref 358) ⟨[.ref 387, .str x tx], []⟩) R s := by
 k_dflt (refine' ks_code_super B F X N T ?hA ?hf ?hke ?ho ?hcd ?room ?hb ?hloc ?_ ?c1 ?c2 ?c3 ?c4; (case hA => exact rfl); (case hf => exact rfl); (case hke => assumption); (case ho => k_is); (case hcd => k_is); (case room => (show dp < 1000; lia)); (case hb => first | exact BindsTo.of_eq rfl | exact binds_K (X.keeps F.keep) rfl (by k_is) rfl rfl rfl); (case hloc => exact locs rfl); (case c1 => decide); (case c2 => exact rfl); (case c3 => exact rfl); (case c4 => exact rfl))
 intro g' L' h' FG' F' N' B' X' T' l1
 (try dsimp only)
 (try k_lift B')
 have F1 := frBinds F' (fun y => if y = "params" then some .none else if y = "encoding" then some (.str "utf-8" 326) else if y = "value" then some (.str x tx) else if y = "cls" then some (.ref 387) else none) (by kernel_rfl)
 clear F'
 refine ks_wpAt_execs_cons (wpAt_of_wpAny ?_)
 k_steps
 refine unhold ?_
 refine uni_kw (ev := .str "utf-8" 326) x tx _ _ _ _ _ _ _ _ _ _ _ _ _ _ _ _ _ B' F1 X' N' T' rfl ?_ ?_ (fun h2 tk2 F2 N2 => ?_)
 ·show dp + 1 + 1 < 1000; first | exact rm2 (by assumption) rfl | lia
 ·show un + 3 + 8 < 9900; first | exact rm2 (by assumption) rfl | lia
 clear F1 N'
 k_steps
 refine unhold ?_
 with_reducible rename Fr g' L' _ _ => F3
 with_reducible rename News g' L' _ _ => N3
 refine ks_wpAt_execs_cons ?_
 refine ks_wpAt_Assign_Name ?_
 refine ks_wpAt_MethodCall ?_
 k_dflt (refine super_node (cc := 344) F3 X' T' (by k_is) (by rfl) (by rfl) (by k_is) (by rfl) (by first | rfl | decide +kernel) (by k_is) (by k_is) (by k_is) (by decide) (by rfl) (by rfl) (by rfl) (by rfl) (by decide +kernel) (by first | boot_by_name | rfl | kernel_rfl) (by rfl) ?_)
 have X3 := X'.keeps F3.keep
 refine up (lf_super X3 (fun so h4 tk4 D4 => ?_)) ?_ ?_
 rotate_left
 ·show dp + 1 ≤ 500; first | exact rl1 (by assumption) rfl | lia
 ·show un + 3 ≤ 200; first | exact rl1 (by assumption) rfl | lia
 have F4 := memFr F3 D4
 have N4 := memNews F3 N3 D4
 have X4 := X'.keeps F4.keep
 obtain ⟨cdP, hc, hcm⟩ : ∃ cd, clsIn (K w.params) 387 = some cd ∧ cd.mro = [.ref 387, .type "str", .type "object"] := ⟨_, rfl, rfl⟩
 refine super_meth (c0 := .type "str") (a0 := .builtin "str.__new__") (ty := .type "builtin_function_or_method") (gv := none) (rest := [.type "object"]) (N4 _ (.head _)).1 (looks_opaque X4 (by k_is))
  (fun A Q E s k q => wpAny_bind ((looks_clsIn X4 hc) A _ E s k (wpAny_pure q))) (by rw [hcm]; decide) (Looks.of_pure (by kernel_rfl)) (Looks.of_pure (by kernel_rfl)) (Looks.of_pure (by kernel_rfl)) (by decide) (fun gg e => by cases e) (fun e => ⟨rfl, ?_⟩)
 dsimp only
 clear F3 N3
 k_steps
 have hsz : ¬ sizeLine.succ.ble x.length = true := fun e => by have := Nat.le_of_ble_eq_true e; rw [sizeLine_eq] at this; lia
 refine up (lf_snew X4 x tx hsz (fun v dx h5 tk5 D5 => ?_)) ?_ ?_
 rotate_left
 ·show dp + 1 ≤ 500; first | exact rl1 (by assumption) rfl | lia
 ·show un + 3 ≤ 200; first | exact rl1 (by assumption) rfl | lia
 have F5 := memFr F4 D5
 have N5 := memNews F4 N4 D5
 have ne5 : ∀ p ∈ (so, ks_superObj 387 387 387) :: news, p.1 ≠ v ∧ p.1 ≠ dx := fun p hp => ⟨memNe N4 D5 (p := (v, vtObj x _ dx #[])) (.head _) hp, memNe N4 D5 (p := (dx, dictOf [] 0)) (.tail _ (.head _)) hp⟩
 have nedx : dx ≠ v := by
  have := D5.ord
  simp only [List.map_cons, List.map_nil, List.pairwise_cons] at this
  exact Nat.ne_of_lt (this.1 dx (by simp))
 dsimp only [List.cons_append, List.nil_append] at N5
 clear F4 N4
 k_steps
 refine unhold ?_
 refine ks_wpAt_execs_cons (wpAt_of_wpAny ?_)
 k_steps
 refine unhold ?_
 with_reducible rename Fr g' L' _ _ => F6
 with_reducible rename News g' L' _ _ => N6
 have ne6 : ∀ p ∈ (dx, dictOf [] 0) :: (so, ks_superObj 387 387 387) :: news, p.1 ≠ v := fun p hp => by
  rcases List.mem_cons.mp hp with rfl | hp
  ·exact nedx
  ·exact (ne5 p hp).1
 refine setSlot (C := 387) (pre := []) (B := "str") (p := 389) (i := 0) (cd := cdP) F6 N6 (X'.keeps F6.keep) (instT N6 (.head _) (.tail _ (.head _))) (by k_is) hc hcm refuseStr (by k_is) (by k_is) (by k_is) (by decide) (fun p hp => nomatch hp) ne6 rfl rfl (fun h7 F7 N7 => ?_)
 clear F6 N6
 dsimp only [List.nil_append] at N7
 refine wpAt_of_wpAny ?_
 k_steps
 refine unhold ?_
 refine params_spec _ _ _ _ _ _ _ _ _ _ _ _ _ _ _ _ _ B' F7 X' N7 T' rfl ?_ ?_ (fun px pdx h8 tk8 F8 N8 ne8 => ?_)
 ·show dp + 1 + 15 < 500; first | exact rm2 (by assumption) rfl | lia
 ·show un + 3 + 100 < 200; first | exact rm2 (by assumption) rfl | lia
 have ne8' := ne8 _ (.head _)
 clear F7 N7
 k_steps
 refine unhold ?_
 refine setSlot (C := 387) (pre := [(px, _), (pdx, _)]) (B := "str") (p := 390) (i := 1) (cd := cdP) F8 N8 (X'.keeps F8.keep) (instT N8 (.tail _ (.tail _ (.head _))) (.tail _ (.tail _ (.tail _ (.head _))))) (by k_is) hc hcm refuseStr (by k_is) (by k_is) (by k_is) (by decide) (fun p hp => ?_) ne6 rfl rfl (fun h9 F9 N9 => ?_)
 ·rcases List.mem_cons.mp hp with rfl | hp
  ·exact fun e => ne8'.1 e.symm
  ·rcases List.mem_cons.mp hp with rfl | hp
   ·exact fun e => ne8'.2 e.symm
   ·cases hp
 dsimp only [List.nil_append, List.cons_append] at N9
 clear F8 N8
 k_steps
 with_reducible rename Fr h₀ L _ m => F10
 with_reducible rename News h₀ L _ _ => N10
 exact hret v dx _ _ _ _ F10 (news4 N10) (fun p hp => ne5 p (.tail _ hp))
theorem vtext_spec {w : World} {mean : ExcName → Option Value} {mg mb : Str → Option Value} {news : List (Addr × Obj)} (x : Str) (tx : Tok)
  (dp un : Nat) (gd : Option (List Code)) (cn : Str) (cs : Scope) (a : Addr) (ccd : Value) (cl : List (Str × Addr)) (outer : List Env) (A₀ : Around) (base h₀ : Heap) (L : Addr) (m : Str → Option Value) (s : Shared) (Q E : Value → Shared → Prop)
  (B : Below A₀ base outer h₀) (F : Fr h₀ L s.heap m) (X : (K w.params).In h₀) (N : News h₀ L s.heap news) (T : Top q0 (looseW q0 loose0) mean mg mb h₀) (hk : cs.kind = .function) (hx : x.length ≤ 65536)
  (hd : dp + 22 < 500) (hu : un + 115 < 200)
  (hret : ∀ (v dx : Addr) (tx' : Tok) (sl : Array (Option Value)) (h' : Heap) (tk' : Nat), Fr h₀ L h' m → News h₀ L h' ((v, (⟨.ref 387, some dx, .prim (.str x tx'), sl⟩ : Obj)) :: (dx, dictOf [] 0) :: news) → (∀ p ∈ news, p.1 ≠ v ∧ p.1 ≠ dx) → Q (.ref v) { s with heap := h', toks := tk' }) :
  wpAny (model pw w) (ktrTop dp un gd cn cs L a ccd cl outer) (call (.ref 387) [.str x tx]) Q E s := by
 have XX := X.keeps F.keep
 obtain ⟨hh, g, d, t, os⟩ := s
 have e1 : (Code.builtin "type.__call__" { pos := [Value.ref 387, Value.str x tx] }).weight = 1 := rfl
 have e2 : (Code.builtin "type.__call__" { pos := [Value.ref 387, Value.str x tx] }).cUnits = 1 := rfl
 refine wpAny_call (make_f (XX 387 _ rfl) rfl (looks_specialIn XX (by k_is)) (looks_instIn XX (by k_is)) (Looks.of_peek XX (by kernel_rfl)) ?_)
 refine attr_cls (looks_typeIn XX (by k_is)) ?_
 refine up (lf_clsnew XX t (fun h1 tk1 nw1 D1 => ⟨rfl, ?_⟩)) ?_ ?_
 rotate_left
 ·rw [e1]; show dp + 1 ≤ 500; first | exact rl1 (by assumption) rfl | lia
 ·rw [e2]; show un + 1 ≤ 200; first | exact rl1 (by assumption) rfl | lia
 have F1 := memFr F D1
 have N1 := memNews F N D1
 refine wpAny_call (vt_new x tx _ _ _ _ _ _ _ _ _ _ _ _ _ _ _ _ B F1 X N1 T hk hx ?_ ?_ (fun v dx tx' sl h2 tk2 F2 N2 ne2 => ?_))
 ·rw [e1]; show dp + 1 + 20 < 500; first | exact rm2 (by assumption) rfl | lia
 ·rw [e2]; show un + 1 + 110 < 200; first | exact rm2 (by assumption) rfl | lia
 have X2 := X.keeps F2.keep
 refine ⟨v, _, .builtin "object.__init__", rfl, (N2 _ (.head _)).1, rfl, looks_mroIn X2 (by k_is), looks_findIn X2 (by k_is), Looks.of_pure (oi_bind _), ?_⟩
 refine up (lf_oinit X2 v x tx tx' dx sl (N2 _ (.head _)).1 (fun tk3 => ⟨rfl, ?_⟩)) ?_ ?_
 rotate_left
 ·rw [e1]; show dp + 1 ≤ 500; first | exact rl1 (by assumption) rfl | lia
 ·rw [e2]; show un + 1 ≤ 200; first | exact rl1 (by assumption) rfl | lia
 exact hret v dx tx' sl _ _ F2 (newsMid N2) (fun p hp => ne2 p (List.mem_append_right _ hp))
end
section
local macro_rules | `(tactic| walk_at "eval Name") => `(tactic| (refine hold ?_))
inductive VtRel (v y : Value) (objs : List (Addr × Obj)) : Prop
 | mk (l : List Nat) (tx : Tok) (vv dx : Addr) (tx' : Tok) (sl : Array (Option Value)) (c0 : v = .str (strOf l) tx) (c1 : y = .ref vv) (c2 : objs = [(vv, vtObj (strOf l) tx' dx sl), (dx, dictOf [] 0)])
theorem elt_vt {w : World} {mean : ExcName → Option Value} {mg mb : Str → Option Value} (l : List Nat) (tx : Tok) (pos pf pa : Pos) (C : Addr) (h₃ : Heap) (tk₃ : Nat) (m₃ : Str → Option Value) (scope : Scope) (cl' : List (Str × Addr))
  (dp un : Nat) (gd : Option (List Code)) (cn : Str) (cs : Scope) (a : Addr) (ccd : Value) (cl : List (Str × Addr)) (outer : List Env) (A₀ : Around) (base h₀ : Heap) (L : Addr) (m : Str → Option Value) (s : Shared)
  (B : Below A₀ base outer h₀) (F : Fr h₀ L h₃ m) (X : (K w.params).In h₀) (T : Top q0 (looseW q0 loose0) mean mg mb h₀) (hk : cs.kind = .function) (hx : l.length ≤ 1024)
  (hn : h₃.Ns C m₃) (hm : m₃ "c" = some (.str (strOf l) tx)) (hks : scope.kind = .function) (hkv : (compEnvC scope cl' C (envX cn cs L a ccd cl)).kindOf "vText" = some .globalImplicit) (hkc : (compEnvC scope cl' C (envX cn cs L a ccd cl)).kindOf "c" = some .local)
  (hd : dp + 22 < 500) (hu : un + 115 < 200) :
  EltOK (pw) w (ktrTop dp un gd cn cs L a ccd cl outer) h₀ L m VtRel (compEnvC scope cl' C (envX cn cs L a ccd cl)) (.Call (.Name "vText" pf) [.Name "c" pa] [] pos) (.str (strOf l) tx) { s with heap := h₃, toks := tk₃ } := by
 intro Q' E' hq
 refine ob1_2 (fullNews F) fun news N hall => ?_
 show wpAny (model pw w) _ (do callWith pos (← eval (.Name "vText" pf) _) [] (backTo pos (starEach [.Name "c" pa] _)) (backToKw pos (keywordEach [] _))) _ _ _
 refine wpAny_bind (nameG_K (s := { s with heap := h₃, toks := tk₃ }) (v := .ref 387) F X (by k_asm) (by k_is) ?_ rfl hks hkv (by decide))
 k_steps
 refine unhold ?_
 refine wpAny_Name (wpAny_loadName_local hks hkc hn hm ?_) (by decide)
 k_steps
 refine unhold ?_
 refine vtext_spec (strOf l) tx _ _ _ _ _ _ _ _ _ _ _ _ _ _ _ _ _ B F X N T hk (by rw [len_strOf]; lia) hd hu (fun v dx tx' sl h4 tk4 F4 N4 ne4 => ?_)
 refine hq (.ref v) [(v, vtObj (strOf l) tx' dx sl), (dx, dictOf [] 0)] h4 tk4 ⟨l, tx, v, dx, tx', sl, rfl, rfl, rfl⟩ (fun p hp => ?_) F4 (fun b o hb e => ?_)
 ·have fresh : ∀ b, (∀ q ∈ news, q.1 ≠ b) → h₀.get? b = none → b ≠ L → h₃.get? b = none := fun b h1 h2 h3 => by
   cases z : h₃.get? b with
   | none => rfl
   | some o =>
    rcases hall b o z h3 with q | q
    ·rw [h2] at q; cases q
    ·exact absurd rfl (h1 _ q)
  rcases List.mem_cons.mp hp with rfl | hp
  ·have := N4 _ (.head _)
   exact ⟨fresh _ (fun q hq => (ne4 q hq).1) this.2.2 this.2.1, this.1⟩
  ·rcases List.mem_singleton.mp hp with rfl
   have := N4 (dx, dictOf [] 0) (.tail _ (.head _))
   exact ⟨fresh _ (fun q hq => (ne4 q hq).2) this.2.2 this.2.1, this.1⟩
 ·rcases hall b o e hb with q | q
  ·exact F4.keep b o q
  ·exact (N4 _ (.tail _ (.tail _ q))).1
end
section
local macro_rules | `(tactic| walk_at "eval Name") => `(tactic| ((with_reducible show wpAny _ _ (eval _ (compEnvC _ _ _ _)) _ _ _); refine hold ?_))
section
local macro_rules | `(tactic| walk_at "getMethod ref") => `(tactic| (refine hold ?_))
section
local macro_rules | `(tactic| walk_at "call builtin:hasattr") => `(tactic| (refine hold ?_))
inductive IcalRel (H : Heap) (v y : Value) (objs : List (Addr × Obj)) : Prop
 | mk (l : List Nat) (tx : Tok) (vv dx : Addr) (sl : Array (Option Value)) (t : Tok) (c0 : v = .ref vv) (c1 : H.get? vv = some (vtObj (strOf l) tx dx sl)) (c2 : y = .bytes (bytesOf (escL l)) t) (c3 : objs = [])
theorem elt_ical {w : World} {mean : ExcName → Option Value} {mg mb : Str → Option Value} (H : Heap) (vv dx : Addr) (l : List Nat) (tx : Tok) (sl : Array (Option Value)) (ph pf pa pb p1 p2 p3 p4 p5 p6 p7 p8 p9 : Pos) (C : Addr) (h₃ : Heap) (tk₃ : Nat) (m₃ : Str → Option Value) (scope : Scope) (cl' : List (Str × Addr))
  (dp un : Nat) (gd : Option (List Code)) (cn : Str) (cs : Scope) (a : Addr) (ccd : Value) (cl : List (Str × Addr)) (outer : List Env) (A₀ : Around) (base h₀ : Heap) (L : Addr) (m : Str → Option Value) (s : Shared)
  (B : Below A₀ base outer h₀) (F : Fr h₀ L h₃ m) (X : (K w.params).In h₀) (T : Top q0 (looseW q0 loose0) mean mg mb h₀) (hk : cs.kind = .function) (hx : l.length ≤ 1024) (hsg : ∀ c ∈ l, c ∈ signs)
  (hH : H.get? vv = some (vtObj (strOf l) tx dx sl)) (hv : h₃.get? vv = some (vtObj (strOf l) tx dx sl)) (hdx : h₃.get? dx = some (dictOf [] 0)) (hv0 : h₀.get? vv = none) (hd0 : h₀.get? dx = none) (hvL : vv ≠ L) (hdL : dx ≠ L)
  (hn : h₃.Ns C m₃) (hm : m₃ "c" = some (.ref vv)) (hks : scope.kind = .function) (hkv : (compEnvC scope cl' C (envX cn cs L a ccd cl)).kindOf "hasattr" = some .globalImplicit) (hkc : (compEnvC scope cl' C (envX cn cs L a ccd cl)).kindOf "c" = some .local)
  (hd : dp + 5 < 500) (hu : un + 30 < 200) (pl : Sem Bool)
  (he : eval (.Call (.Attribute (.Name "c" p1) "to_ical" p2) [] [] p3) (compEnvC scope cl' C (envX cn cs L a ccd cl)) = (do
   let ov ← eval (.Name "c" p1) (compEnvC scope cl' C (envX cn cs L a ccd cl))
   standAt p2.atName
   let (f, first) ← holding [ov] (getMethod ov "to_ical" pl)
   callWith p3 f first (backTo p3 (starEach [] (compEnvC scope cl' C (envX cn cs L a ccd cl)))) [])) :
  EltOK (pw) w (ktrTop dp un gd cn cs L a ccd cl outer) h₀ L m (IcalRel H) (compEnvC scope cl' C (envX cn cs L a ccd cl))
   (.IfExp (.Call (.Name "hasattr" ph) [.Name "c" pa, .Constant (.str "to_ical") 0 pb] [] pf) (.Call (.Attribute (.Name "c" p1) "to_ical" p2) [] [] p3) (.Call (.Attribute (.Call (.Name "vText" p4) [.Name "c" p5] [] p6) "to_ical" p7) [] [] p8) p9) (.ref vv) { s with heap := h₃, toks := tk₃ } := by
 intro Q' E' hq
 refine ob1_2 (fullNews F) fun news N hall => ?_
 have hvn : (vv, vtObj (strOf l) tx dx sl) ∈ news := by
  rcases hall _ _ hv hvL with h | h
  ·rw [hv0] at h; cases h
  ·exact h
 have hdn : (dx, dictOf [] 0) ∈ news := by
  rcases hall _ _ hdx hdL with h | h
  ·rw [hd0] at h; cases h
  ·exact h
 k_steps
 refine unhold (cnB (s := { s with heap := h₃, toks := tk₃ }) F X (by k_asm) (by k_is) (by boot_by_name) (by decide) rfl rfl hks hkv (by decide) ?_)
 k_steps
 refine unhold (cnL (s := { s with heap := h₃, toks := tk₃ }) hn hm hks hkc (by decide) ?_)
 k_steps
 refine unhold ?_
 refine up (lf_hasT (X.keeps F.keep) vv (strOf l) tx _ dx sl hv (fun h2 tk2 nw2 D2 => ?_)) ?_ ?_
 rotate_left
 ·show dp ≤ 500; lia
 ·show un ≤ 200; lia
 have F2 := memFr F D2
 have N2 : News h₀ L h2 news := fun p hp => memNews F N D2 p (List.mem_append_right _ hp)
 have hn2 : h2.Ns C m₃ := hn.keeps (memKeep D2)
 k_steps
 refine MethodCall_ ?_ he
 refine cnL (s := { s with heap := h2, toks := tk2 }) hn2 hm hks hkc (by decide) ?_
 have X2 := X.keeps F2.keep
 refine getM_F (N2 _ hvn).1 (N2 _ hdn).1 (looks_findIn X2 (by k_is)) PySem.F.canon_object_ga (looks_findIn X2 (by k_is)) (looks_findIn X2 (by k_is)) (looks_typeIn X2 (by k_is)) ?_
 k_steps
 refine unhold ?_
 refine ical_spec vv l tx dx sl _ _ _ _ _ _ _ _ _ _ _ _ _ _ _ _ _ B F2 X N2 hvn hdn T hk hx hsg hd hu (fun t3 h3 tk3 F3 N3 => ?_)
 refine hq _ [] h3 tk3 ⟨l, tx, vv, dx, sl, t3, rfl, hH, rfl, rfl⟩ (fun p hp => nomatch hp) F3 (fun b o hb e => ?_)
 rcases hall b o e hb with q | q
 ·exact F3.keep b o q
 ·exact (N3 _ q).1
end
section
local macro_rules | `(tactic| walk_at "getMethod bytes") => `(tactic| (refine hold ?_))
local macro_rules | `(tactic| walk_at "call builtin:bytes.decode") => `(tactic| (refine hold ?_))
inductive DecRel (v y : Value) (objs : List (Addr × Obj)) : Prop
 | mk (l : List Nat) (tx t : Tok) (c0 : v = .str (strOf l) tx) (c1 : y = .str (strOf (escL l)) t) (c2 : objs = [])
theorem elt_dec {w : World} {mean : ExcName → Option Value} {mg mb : Str → Option Value} (l : List Nat) (tx : Tok) (p1 p2 p3 p4 p5 p6 p7 p8 : Pos) (C : Addr) (h₃ : Heap) (tk₃ : Nat) (m₃ : Str → Option Value) (scope : Scope) (cl' : List (Str × Addr))
  (dp un : Nat) (gd : Option (List Code)) (cn : Str) (cs : Scope) (a : Addr) (ccd : Value) (cl : List (Str × Addr)) (outer : List Env) (A₀ : Around) (base h₀ : Heap) (L : Addr) (m : Str → Option Value) (s : Shared)
  (B : Below A₀ base outer h₀) (F : Fr h₀ L h₃ m) (X : (K w.params).In h₀) (T : Top q0 (looseW q0 loose0) mean mg mb h₀) (hk : cs.kind = .function) (hx : l.length ≤ 1024) (hsg : ∀ c ∈ l, c ∈ signs)
  (hn : h₃.Ns C m₃) (hm : m₃ "f" = some (.str (strOf l) tx)) (hks : scope.kind = .function) (hkv : (compEnvC scope cl' C (envX cn cs L a ccd cl)).kindOf "vText" = some .globalImplicit) (hkc : (compEnvC scope cl' C (envX cn cs L a ccd cl)).kindOf "f" = some .local)
  (hd : dp + 22 < 500) (hu : un + 115 < 200) (pl1 pl2 : Sem Bool)
  (he1 : eval (.Call (.Attribute (.Call (.Attribute (.Call (.Name "vText" p1) [.Name "f" p2] [] p3) "to_ical" p4) [] [] p5) "decode" p6) [.Constant (.str "utf-8") 0 p7] [] p8) (compEnvC scope cl' C (envX cn cs L a ccd cl)) = (do
   let ov ← eval (.Call (.Attribute (.Call (.Name "vText" p1) [.Name "f" p2] [] p3) "to_ical" p4) [] [] p5) (compEnvC scope cl' C (envX cn cs L a ccd cl))
   standAt p6.atName
   let (f, first) ← holding [ov] (getMethod ov "decode" pl1)
   callWith p8 f first (backTo p8 (starEach [.Constant (.str "utf-8") 0 p7] (compEnvC scope cl' C (envX cn cs L a ccd cl)))) []))
  (he2 : eval (.Call (.Attribute (.Call (.Name "vText" p1) [.Name "f" p2] [] p3) "to_ical" p4) [] [] p5) (compEnvC scope cl' C (envX cn cs L a ccd cl)) = (do
   let ov ← eval (.Call (.Name "vText" p1) [.Name "f" p2] [] p3) (compEnvC scope cl' C (envX cn cs L a ccd cl))
   standAt p4.atName
   let (f, first) ← holding [ov] (getMethod ov "to_ical" pl2)
   callWith p5 f first (backTo p5 (starEach [] (compEnvC scope cl' C (envX cn cs L a ccd cl)))) [])) :
  EltOK (pw) w (ktrTop dp un gd cn cs L a ccd cl outer) h₀ L m DecRel (compEnvC scope cl' C (envX cn cs L a ccd cl))
   (.Call (.Attribute (.Call (.Attribute (.Call (.Name "vText" p1) [.Name "f" p2] [] p3) "to_ical" p4) [] [] p5) "decode" p6) [.Constant (.str "utf-8") 0 p7] [] p8) (.str (strOf l) tx) { s with heap := h₃, toks := tk₃ } := by
 intro Q' E' hq
 refine ob1_2 (fullNews F) fun news N hall => ?_
 refine MethodCall_ (MethodCall_ ?_ he2) he1
 show wpAny (model pw w) _ (do callWith p3 (← eval (.Name "vText" p1) _) [] (backTo p3 (starEach [.Name "f" p2] _)) (backToKw p3 (keywordEach [] _))) _ _ _
 refine wpAny_bind (nameG_K (s := { s with heap := h₃, toks := tk₃ }) (v := .ref 387) F X (by k_asm) (by k_is) ?_ rfl hks hkv (by decide))
 k_steps
 refine unhold (cnL (s := { s with heap := h₃, toks := tk₃ }) hn hm hks hkc (by decide) ?_)
 k_steps
 refine unhold ?_
 refine vtext_spec (strOf l) tx _ _ _ _ _ _ _ _ _ _ _ _ _ _ _ _ _ B F X N T hk (by rw [len_strOf]; lia) hd hu (fun v dx tx' sl h4 tk4 F4 N4 ne4 => ?_)
 have X4 := X.keeps F4.keep
 refine getM_F (N4 _ (.head _)).1 (N4 _ (.tail _ (.head _))).1 (looks_findIn X4 (by k_is)) PySem.F.canon_object_ga (looks_findIn X4 (by k_is)) (looks_findIn X4 (by k_is)) (looks_typeIn X4 (by k_is)) ?_
 k_steps
 refine unhold ?_
 refine ical_spec v l tx' dx sl _ _ _ _ _ _ _ _ _ _ _ _ _ _ _ _ _ B F4 X N4 (.head _) (.tail _ (.head _)) T hk hx hsg (by lia) (by lia) (fun t5 h5 tk5 F5 N5 => ?_)
 with_reducible refine getMethod_builtin (typeIs_bytes _ _ _) FB.plainAttrs_bytes FB.slot_bytes_decode FB.type_bytes_decode (fun u' e => nomatch e) ?_
 dsimp only
 k_steps
 refine unhold ?_
 have hl := escL_len l
 refine dec_call (escL_ascii hsg) (by lia) (fun t6 k6 => ?_)
 refine hq _ [] h5 k6 ⟨l, tx, t6, rfl, rfl, rfl⟩ (fun p hp => nomatch hp) F5 (fun b o hb e => ?_)
 rcases hall b o e hb with q | q
 ·exact F5.keep b o q
 ·exact (N5 _ (.tail _ (.tail _ q))).1
end
end
section
local macro_rules | `(tactic| walk_at "subscriptTail Name Constant ref int") => `(tactic| (refine hold ?_))
local macro_rules | `(tactic| walk_at "subscriptTail Name BinOp ref int") => `(tactic| (refine hold ?_))
local macro_rules | `(tactic| walk_at "call builtin:len") => `(tactic| (refine hold ?_))
noncomputable def fieldNum (ms : List Nat) (k : Nat) : Nat := ms.getD ((1 + k) % ms.length) 0 + 13 * k * (ms.getD 0 0 / 8 % 2)
inductive DigRel (ms : List Nat) (v y : Value) (objs : List (Addr × Obj)) : Prop
 | mk (k : Nat) (t : Tok) (l : Addr) (ds : List (Nat × Tok)) (kk : Nat) (c0 : v = .int (k : Int) t) (c1 : y = .ref l) (c2 : objs = [(l, W.listOf (intVals ds).toArray kk)]) (c3 : ds.map (·.1) = digsF 6 (fieldNum ms k))
theorem fmodN (x y : Nat) : (x : Int).fmod (y : Int) = ((x % y : Nat) : Int) := by
 rw [Int.fmod_eq_emod_of_nonneg _ (by lia)]; rfl
theorem fdivN (x y : Nat) : (x : Int).fdiv (y : Int) = ((x / y : Nat) : Int) := by
 rw [Int.fdiv_eq_ediv_of_nonneg _ (by lia)]; rfl
theorem intVals_get {ms : List (Nat × Tok)} {j : Nat} (h : j < ms.length) : (intVals ms).toArray[((j : Nat) : Int).toNat]? = some (.int (((ms.map (·.1)).getD j 0 : Nat) : Int) ms[j].2) := by
 simp [intVals, h]
theorem cnC {M : Model} {A : Around} {E : Value → Shared → Prop} {s : Shared} {x : Str} {v : Value} {pos : Pos} {env : Env} {c : Addr} {o : Obj} {Q : Value → Shared → Prop} (hk : env.scope.kind = .function) (hx : env.kindOf x = some .cell) (hc : env.cells.lookup x = some c) (ho : s.heap.get? c = some o) (hd : o.data = .cell (some v)) (hb : (x == ("__debug__" : Str)) = false) (h : Q v s) :
  wpAny M A (eval (.Name x pos) env) Q E s := wpAny_Name (wpAny_loadName_cell hk hx hc ⟨o, ho, hd⟩ h) hb
local macro_rules | `(tactic| walk_at "none") => `(tactic| fail)
theorem elt_digs {w : World} {mean : ExcName → Option Value} {mg mb : Str → Option Value} (k : Nat) (t : Tok) (C nl C2 : Addr) (oC : Obj) (ms : List (Nat × Tok)) (kn : Nat) (h₃ : Heap) (tk₃ : Nat) (m₃ : Str → Option Value) (scope : Scope) (cl' : List (Str × Addr))
  (p1 p2 p3 p4 p5 p6 p7 p8 p9 q1 q2 q3 q4 q5 q6 q7 q8 q9 r1 r2 r3 r4 r5 r6 : Pos)
  (dp un : Nat) (gd : Option (List Code)) (cn : Str) (cs : Scope) (a : Addr) (ccd : Value) (cl : List (Str × Addr)) (outer : List Env) (A₀ : Around) (base h₀ : Heap) (L : Addr) (m : Str → Option Value) (s : Shared)
  (B : Below A₀ base outer h₀) (F : Fr h₀ L h₃ m) (X : (K w.params).In h₀) (T : Top q0 (looseW q0 loose0) mean mg mb h₀) (hk : cs.kind = .function)
  (hn : h₃.Ns C2 m₃) (hm : m₃ "k" = some (.int (k : Int) t)) (hoC : h₃.get? C = some oC) (hcell : oC.data = .cell (some (.ref nl))) (hnl : h₃.get? nl = some (W.listOf (intVals ms).toArray kn)) (h0 : 0 < ms.length) (hml : ms.length ≤ 100) (hk8 : k < 8)
  (hks : scope.kind = .function) (hkd : (compEnvC scope cl' C2 (envX cn cs L a ccd cl)).kindOf "_law_digits" = some .globalImplicit) (hkl : (compEnvC scope cl' C2 (envX cn cs L a ccd cl)).kindOf "len" = some .globalImplicit) (hkk : (compEnvC scope cl' C2 (envX cn cs L a ccd cl)).kindOf "k" = some .local)
  (hkn : (compEnvC scope cl' C2 (envX cn cs L a ccd cl)).kindOf "numbers" = some .cell) (hcl : cl'.lookup ("numbers" : Str) = some C)
  (hd : dp + 10 < 500) (hu : un + 40 < 200) :
  EltOK pw w (ktrTop dp un gd cn cs L a ccd cl outer) h₀ L m (DigRel (ms.map (·.1))) (compEnvC scope cl' C2 (envX cn cs L a ccd cl))
   (.Call (.Name "_law_digits" p1) [.BinOp (.Subscript (.Name "numbers" p2) (.BinOp (.BinOp (.Constant (.int 1) 0 p3) .Add (.Name "k" p4) p5) .Mod (.Call (.Name "len" p6) [.Name "numbers" p7] [] p8) p9) q1) .Add
    (.BinOp (.BinOp (.Constant (.int 13) 0 q2) .Mult (.Name "k" q3) q4) .Mult (.BinOp (.BinOp (.Subscript (.Name "numbers" q5) (.Constant (.int 0) 0 q6) q7) .FloorDiv (.Constant (.int 8) 0 q8) q9) .Mod (.Constant (.int 2) 0 r1) r2) r3) r4] [] r5) (.int (k : Int) t) { s with heap := h₃, toks := tk₃ } := by
 intro Q' E' hq
 refine ob1_2 (fullNews F) fun news N hall => ?_
 show wpAny (model pw w) _ (do callWith r5 (← eval (.Name "_law_digits" p1) _) [] (backTo r5 (starEach [_] _)) (backToKw r5 (keywordEach [] _))) _ _ _
 refine wpAny_bind (nameG_K (s := { s with heap := h₃, toks := tk₃ }) (v := .ref 882) F X (topRead_of T) (by k_is) ?_ rfl hks hkd (by decide))
 k_steps
 refine unhold (cnC hks hkn hcl hoC hcell (by decide) ?_)
 k_steps
 refine unhold (cnL (s := { s with heap := h₃, toks := tk₃ + 1 }) hn hm hks hkk (by decide) ?_)
 k_steps
 have hsz : (intVals ms).toArray.size = ms.length := by simp [intVals]
 refine unhold (cnB F X (topRead_of T) (by k_is) (by boot_by_name) (by decide) rfl rfl hks hkl (by decide) ?_)
 k_steps
 refine unhold (cnC hks hkn hcl hoC hcell (by decide) ?_)
 k_steps
 refine unhold ?_
 refine len_list (items := (intVals ms).toArray) ⟨_, hnl, rfl, _, rfl⟩ (by rw [hsz]; lia) ?_
 rw [hsz]
 k_steps
 refine unhold ?_
 have e1 : ((1 : Int) + (k : Int)).fmod (ms.length : Int) = (((1 + k) % ms.length : Nat) : Int) := by rw [← fmodN]; rfl
 rw [e1]
 have hj : (1 + k) % ms.length < ms.length := Nat.mod_lt _ h0
 refine PyProof.Rows.item_list (items := (intVals ms).toArray) ⟨_, hnl, rfl, _, rfl⟩ (by lia) (by lia) (intVals_get hj) ?_
 k_steps
 refine unhold (cnL hn hm hks hkk (by decide) ?_)
 k_steps
 refine unhold (cnC hks hkn hcl hoC hcell (by decide) ?_)
 k_steps
 refine unhold ?_
 dsimp only
 refine PyProof.Rows.item_list (items := (intVals ms).toArray) (x := .int (((ms.map (·.1)).getD 0 0 : Nat) : Int) (ms[0]'h0).2) ⟨_, hnl, rfl, _, rfl⟩ (by decide) (by decide) (intVals_get h0) ?_
 k_steps
 refine unhold ?_
 have e2 : (((ms.map (·.1)).getD 0 0 : Nat) : Int).fdiv 8 = (((ms.map (·.1)).getD 0 0 / 8 : Nat) : Int) := by rw [← fdivN]; rfl
 have e3 : ((((ms.map (·.1)).getD 0 0 / 8 : Nat) : Int)).fmod 2 = (((ms.map (·.1)).getD 0 0 / 8 % 2 : Nat) : Int) := by rw [← fmodN]; rfl
 rw [e2, e3]
 have e4 : (((ms.map (·.1)).getD ((1 + k) % ms.length) 0 : Nat) : Int) + 13 * (k : Int) * (((ms.map (·.1)).getD 0 0 / 8 % 2 : Nat) : Int) = ((fieldNum (ms.map (·.1)) k : Nat) : Int) := by
  delta fieldNum
  rw [List.length_map]
  push_cast
  rfl
 rw [e4]
 have c200 : 300 ≤ cLine := by decide
 have r500 : 600 ≤ recursionLimit := by decide
 refine digits_spec (fieldNum (ms.map (·.1)) k) _ dp un gd cn cs a ccd cl outer A₀ base h₀ L m ⟨h₃, s.gens, s.drawn, _, s.os⟩ _ _ B F X N T hk ?_ ?_ (fun l ds kk h' tk' F' N' hl' hds => ?_)
 ·show dp + 1 < recursionLimit; first | exact rm1 (by assumption) rfl | lia
 ·show un + 8 < cLine; first | exact rm1 (by assumption) rfl | lia
 refine hq (.ref l) [(l, W.listOf (intVals ds).toArray kk)] h' tk' ⟨k, t, l, ds, kk, rfl, rfl, rfl, hds⟩ (fun p hp => ?_) F' (fun b o hb e => ?_)
 ·rcases List.mem_singleton.mp hp with rfl
  have n1 := N' _ (.head _)
  refine ⟨?_, n1.1⟩
  show h₃.get? l = none
  cases z : h₃.get? l with
  | none => rfl
  | some o =>
   rcases hall l o z n1.2.1 with q | q
   ·exact absurd (n1.2.2) (by rw [q]; exact fun x => by cases x)
   ·exact absurd (hl' _ q) (Nat.lt_irrefl _)
 ·rcases hall b o e hb with q | q
  ·exact F'.keep b o q
  ·exact (N' _ (.tail _ q)).1
theorem dig_out {h s0 : Heap} {S : List Addr} {ms : List Nat} : ∀ (vs ys : List Value) (objs : List (Addr × Obj)) (i : Nat), (∀ j v, vs[j]? = some v → ∃ t, v = Value.int ((i + j : Nat) : Int) t) → RelAll (DigRel ms) vs ys objs →
  ∃ fs : List (Addr × List (Nat × Tok) × Nat), ys = fs.map (fun p => .ref p.1) ∧ objs = fs.map (fun p => (p.1, W.listOf (intVals p.2.1).toArray p.2.2)) ∧ fs.map (fun p => p.2.1.map (·.1)) = (List.range' i vs.length).map fun k => digsF 6 (fieldNum ms k)
 | [], _, _, i, _, hr => by cases hr; exact ⟨[], rfl, rfl, rfl⟩
 | v :: vs, _, _, i, hv, hr => by
  cases hr with
  | @cons _ y objs os _ ys h1 h2 =>
   obtain ⟨k, t, l, ds, kk, rfl, rfl, rfl, hds⟩ := h1
   obtain ⟨fs, rfl, rfl, hfs⟩ := dig_out (h := h) (s0 := s0) (S := S) vs ys os (i + 1) (fun j u e => by
    obtain ⟨t', e'⟩ := hv (j + 1) u (by simpa using e)
    exact ⟨t', by rw [e']; congr 2; lia⟩) h2
   obtain ⟨t0, e0⟩ := hv 0 _ rfl
   have ek : k = i := by injection e0 with b1; lia
   subst ek
   refine ⟨(l, ds, kk) :: fs, rfl, rfl, ?_⟩
   simp only [List.map_cons, hds, hfs, List.length_cons, List.range'_succ]
end
end
end
section
noncomputable def TabOk (op : Obj) : Prop := ∃ ps, op = tabObj ps ∧ TriplesOk ps.toList
noncomputable def GenOf (prog : Program) (w : World) (A : Around) (a : Addr) (ys : List Value) (old : Heap) (s : Shared) : Prop :=
 ∃ fp wr g Pi St, (∀ j y, Pi j y → ys[j]? = some y) ∧ WalksS prog w A.in4 a fp wr (GenOnlyQ g) ys.length Pi St ∧ St 0 s ∧ (∀ i s', St i s' → s'.TypeIs (.ref a) "generator") ∧ a ∈ fp ∧ (∀ b ∈ fp, b < s.heap.objs.size) ∧ (∀ b ∈ wr, old.get? b = none)
theorem keepsRefl (s : Shared) : Keeps s s := ⟨s.heap, s.toks, rfl, fun u' u' e => e⟩
theorem passing_all (n : Nat) : passing (fun u' => true) n 0 = List.range n := by simp [passing]
section
variable {prog : Program} {w : World} {A : Around} {E : Value → Shared → Prop} {s : Shared} {h₀ : Heap} {L : Addr} {m : Str → Option Value} {news : List (Addr × Obj)} {K : Frag} {p : Program} {loose : List Str} {mean : ExcName → Option Value} {mg mb : Str → Option Value}
theorem triples {h : Heap} {c P : Addr} {ps : Array Value} (x : h.IsCode c P ps) : TriplesOk ps.toList := by
 obtain ⟨_, _, _, _, _, _, _, _, _, _, _, _, _, _, _, _, _, _, _, ht, _⟩ := x
 exact ht
theorem isCode_mk {h : Heap} {c P : Addr} {ps vs : Array Value} {oc op : Obj} (hc : h.get? c = some oc) (hvs : oc.data = .fields vs) (h11 : vs.getD 11 .none = .ref P) (h18 : ∃ file tf, vs.getD 18 .none = .str file tf)
  (h7 : ∃ flags tg, vs.getD 7 .none = .int flags tg) (h9 : ∃ b, vs.getD 9 .none = .bool b) (h10 : ∃ tx tt, vs.getD 10 .none = .int tx tt) (hP : h.get? P = some op) (hop : op.data = .fields ps) (ht : TriplesOk ps.toList) (hn : c ≠ P) : h.IsCode c P ps := by
 obtain ⟨file, tf, e18⟩ := h18
 obtain ⟨flags, tg, e7⟩ := h7
 obtain ⟨bb, e9⟩ := h9
 obtain ⟨tx, tt, e10⟩ := h10
 exact ⟨oc, vs, file, tf, flags, tg, bb, tx, tt, _, hc, hvs, h11, e18, e7, e9, e10, hP, hop, ht, hn⟩
theorem genexprTab {M : Model} {env : Env} {c P : Addr} {ps : Array Value} {pos : Pos} {qualname : Str} {scope : Scope} {Q : Value → Shared → Prop} (hc : env.code = .ref c) (hok : s.heap.IsCode c P ps) (htab : s.heap.TableAt c P ps)
  (hQ : ∀ code h' tk ps', Heap.ExtBut P s.heap h' → h'.get? P = some (tabObj ps') → TriplesOk ps'.toList → Q code { s with heap := h', toks := tk }) : wpAny M A (genexprCode env pos qualname scope) Q E s := by
 cases hf : codeAmong pos ps.toList with
 | some cv => exact wpAny_genexprCode_hit hc hok hf (hQ cv s.heap s.toks ps (Heap.ExtBut.refl _ _) htab.2 (triples hok))
 | none => exact wpAny_genexprCodeX hc hok htab hf (fun c' h' tk hx u' u' hcode u' ht u' => hQ _ h' tk _ hx ht.2 (triples hcode))
theorem genStr {scope : Scope} {pos ps pf pc px pi : Pos} {env : Env} {c P lst : Addr} {op oc : Obj} {vs : Array Value} {ys : List Value} {Q : Value → Shared → Prop}
  (F : Fr h₀ L s.heap m) (N : News h₀ L s.heap ((P, op) :: news)) (hnP : ∀ q ∈ news, q.1 ≠ P) (X : K.In h₀) (T : Top p loose mean mg mb h₀) (hop : TabOk op)
  (hoc : K.lookup c = some oc) (hvs : oc.data = .fields vs) (hoc2 : oc.cls = .type "code") (h11 : vs.getD 11 .none = .ref P) (h18 : ∃ file tf, vs.getD 18 .none = .str file tf) (h7 : ∃ flags tg, vs.getD 7 .none = .int flags tg) (h9 : ∃ b, vs.getD 9 .none = .bool b) (h10 : ∃ t tt, vs.getD 10 .none = .int t tt) (hcP : c ≠ P)
  (hcode : env.code = .ref c) (hglob : env.globals = mainGlobals) (hloc : env.locals = L) (hke : env.scope.kind = .function) (hki : env.kindOf "fields" = some .local) (hm : m "fields" = some (.ref lst))
  (hl : s.heap.IsList lst ys.toArray ∨ s.heap.IsTuple lst ys.toArray) (hP : lst ≠ P) (hys : ∀ v ∈ ys, ∃ x t, v = .str x t)
  (hh : A.handled = none) (hroom : A.depth < recursionLimit) (hco : scope.isCoroutine = false) (hclos : closureFor scope env = pure []) (hcell : ∀ y ∈ scope.names, y.2 ≠ .cell) (h0 : scope.names.lookup (".0" : Str) = some NameKind.local)
  (hx : scope.names.lookup ("f" : Str) = some .local) (hkind : scope.kind = .function) (hkf : ∀ C code bi, (genEnv scope [] C code bi env).kindOf "f" = some .local) (hks : ∀ C code bi, (genEnv scope [] C code bi env).kindOf "str" = some .globalImplicit)
  (hstr : nsIn K mainGlobals "str" = some none) (hs : ∀ x, genFold (.Name "fields" pi) env x = pure x)
  (hq : ∀ a s₅ op', Fr h₀ L s₅.heap m → News h₀ L s₅.heap ((P, op') :: news) → TabOk op' → (AllBare s.gens → AllBare s₅.gens) → s₅.os = s.os → s₅.drawn = s.drawn → GenOf prog w A a ys s.heap s₅ → Q (.ref a) s₅) :
  wpAny (model prog w) A (eval (.GeneratorExp (.Call (.Name "str" ps) [.Name "f" pf] [] pc) [⟨.Name "f" px, .Name "fields" pi, [], 0⟩] scope pos) env) Q E s := by
 refine ob2_6 T.bmain fun bm ob b1 b2 b3 b4 b5 b6 => ?_
 obtain ⟨tps, hop1, hop2⟩ := hop
 have hPs := N _ (.head _)
 have nP0 : h₀.get? P = none := hPs.2.2
 have nPL : P ≠ L := hPs.2.1
 have nI : s.heap.get? s.heap.objs.size = none := by
  cases e : s.heap.get? s.heap.objs.size with
  | none => rfl
  | some ob => exact absurd (Heap.lt_size e) (Nat.lt_irrefl _)
 have nI0 : h₀.get? s.heap.objs.size = none := by
  cases e : h₀.get? s.heap.objs.size with
  | none => rfl
  | some ob => rw [F.keep _ _ e] at nI; cases nI
 have nIP : s.heap.objs.size ≠ P := fun e => by rw [e, hPs.1] at nI; cases nI
 refine wpAny_GeneratorExp_walksQD hh hco hclos hcell h0 hx hkind hroom ?_ hs
 refine wpAny_Name (wpAny_loadName_local hke hki (by rw [hloc]; exact F.ns) hm ?_) (by decide)
 have cont : ∀ (io : Obj) (St₀ : Nat → Heap → Prop), io.isFreed = false → (∀ A' : Around, A'.handled = none → Walks prog w A' s.heap.objs.size [s.heap.objs.size, lst] [s.heap.objs.size] ys.length (fun i v => ys[i]? = some v) St₀) → St₀ 0 (s.heap.push io) →
   ({ s with heap := s.heap.push io } : Shared).heap.NoLimit ∧ wpAny (model prog w) A (genexprCode env pos (env.qual ++ "<genexpr>") scope) (fun code s₃ => wpAny (model prog w) A (builtinsFor env.globals env.builtins) (fun bi s₄ =>
    ∃ I fp wr n₀ P St₀ pz F, (Value.ref s.heap.objs.size) = .ref I ∧ (∀ A' : Around, A'.handled = none → Walks prog w A' I fp wr n₀ P St₀) ∧ St₀ 0 s₄.heap ∧ (∀ b ∈ fp, b < s₄.heap.objs.size) ∧ s₄.heap.NoLimit ∧ cStatics ∉ wr ∧
     (∀ href : Heap, (∀ b o, s₄.heap.get? b = some o → href.get? b = some o) →
      QuietGenD prog w (genEnv scope [] s₄.heap.objs.size code bi env) "f" [] (.Call (.Name "str" ps) [.Name "f" pf] [] pc) (List.range s₄.heap.objs.size) wr P pz F href (A.depth + 1) (A.units + 8)) ∧
     (∀ a h₅ tk gs, gs.bare = true → s₄.heap.objs.size < a → h₅.objs.size = a + 1 → (∀ b o, s₄.heap.get? b = some o → h₅.get? b = some o) →
      WalksS prog w A.in4 a (a :: s₄.heap.objs.size :: List.range s₄.heap.objs.size) (s₄.heap.objs.size :: wr) (GenOnlyQ s₄.gens.size) (passing pz n₀ 0).length
       (fun j y => ∃ i, (passing pz n₀ 0)[j]? = some i ∧ F i y) (GenAt prog w A.in4 a s₄.gens.size s₄.heap.objs.size (List.range s₄.heap.objs.size) wr pz n₀ F) →
      GenAt prog w A.in4 a s₄.gens.size s₄.heap.objs.size (List.range s₄.heap.objs.size) wr pz n₀ F 0 { s₄ with gens := s₄.gens.push gs, toks := tk, heap := h₅ } →
      Q (.ref a) { s₄ with gens := s₄.gens.push gs, toks := tk, heap := h₅ })) E s₃) E { s with heap := s.heap.push io } := by
  intro io St₀ hfr hW hst
  have hpush : ∀ b o, s.heap.get? b = some o → (s.heap.push io).get? b = some o := fun b o e => Heap.get?_push_of_some _ e
  have hIo : (s.heap.push io).get? s.heap.objs.size = some io := Heap.get?_push_size _ hfr
  refine ⟨(T.nolimit.keeps F.keep).keeps hpush, ?_⟩
  have g11 : vs[11]? = some (.ref P) := by
   rw [Array.getD_eq_getD_getElem?] at h11
   cases e : vs[11]? with
   | none => rw [e] at h11; cases h11
   | some v => rw [e] at h11; exact congrArg some h11
  subst hop1
  refine genexprTab hcode (P := P) (ps := tps) (isCode_mk (hpush _ _ (F.keep _ _ (X _ _ hoc))) hvs h11 h18 h7 h9 h10 (hpush _ _ hPs.1) rfl hop2 hcP) ⟨⟨oc, vs, hpush _ _ (F.keep _ _ (X _ _ hoc)), hoc2, hvs, g11⟩, hpush _ _ hPs.1⟩ (fun code h3 tk3 ps3 hx3 hop3 hop3t => ?_)
  have F3 : Fr h₀ L h3 m := ⟨F.ns.at' fun o e => hx3 _ _ (Ne.symm nPL) (hpush _ _ e), fun b o e => hx3 _ _ (fun q => by rw [q, nP0] at e; cases e) (hpush _ _ (F.keep _ _ e)), F.above⟩
  have N3 : News h₀ L h3 ((P, tabObj ps3) :: news) := fun q hq => by
   rcases List.mem_cons.mp hq with rfl | hq
   ·exact ⟨hop3, nPL, nP0⟩
   ·exact ⟨hx3 _ _ (hnP q hq) (hpush _ _ (N q (.tail _ hq)).1), (N q (.tail _ hq)).2⟩
  rw [hglob]
  refine wpAny_builtinsFor (T.g.keeps F3.keep) b1 b2 (F3.keep _ _ b3) b4 b5 b6 ?_
  have hfp : ∀ b ∈ [s.heap.objs.size, lst], b < h3.objs.size := fun b hb => by
   rcases List.mem_cons.mp hb with rfl | hb
   ·exact Heap.lt_size (hx3 _ _ nIP hIo)
   ·rcases List.mem_cons.mp hb with rfl | hb
    ·rcases hl with ⟨o, e, _⟩ | ⟨o, e, _⟩
     ·exact Heap.lt_size (hx3 _ _ hP (hpush _ _ e))
     ·exact Heap.lt_size (hx3 _ _ hP (hpush _ _ e))
    ·cases hb
  have hcs : cStatics ∉ [s.heap.objs.size] := fun hm => by
   obtain ⟨mc, ⟨o, es, ep, e, _⟩, _⟩ := T.nolimit
   rw [List.mem_singleton.mp hm, nI0] at e; cases e
  refine ex8 s.heap.objs.size [s.heap.objs.size, lst] [s.heap.objs.size] ys.length (fun i v => ys[i]? = some v) St₀ (fun u' => true) (fun i y => ys[i]? = some y) ⟨rfl, hW,
   (hW A hh).frame _ _ _ hst (fun b hb o e => hx3 b o (fun q => ?_) e), hfp, T.nolimit.keeps F3.keep, hcs, (fun href hk => ⟨?_, ?_⟩), (fun a h5 tk gs hb hlt hsz hk5 W hat => ?_)⟩
  ·rcases List.mem_cons.mp hb with rfl | hb
   ·exact nIP q
   ·exact hP ((List.mem_singleton.mp hb) ▸ q)
  ·intro A' E' i v t m₂ _ _ _ _ _ _ _
   exact wpAny_pure ⟨rfl, keepsRefl _⟩
  ·intro A' E' i v t m₂ hA hD hU hPi _ hn hmf hkp
   have hC : h₀.objs.size ≤ h3.objs.size := Nat.le_trans F3.above (Nat.le_of_lt F3.ns.lt)
   have Ft : Fr h₀ h3.objs.size t.heap m₂ := ⟨hn, fun b o e => hkp b (List.mem_range.mpr (Heap.lt_size (F3.keep b o e))) (fun q => by rw [List.mem_singleton.mp q, nI0] at e; cases e) o (hk _ _ (F3.keep b o e)), hC⟩
   have TT := topRead_of T
   obtain ⟨x, tx, rfl⟩ := hys v (List.mem_of_getElem? hPi)
   show wpAny _ _ (do callWith pc (← eval (.Name "str" ps) (genEnv scope [] h3.objs.size code builtinsNs env)) [] (backTo pc (starEach [.Name "f" pf] (genEnv scope [] h3.objs.size code builtinsNs env))) (backToKw pc (keywordEach [] (genEnv scope [] h3.objs.size code builtinsNs env)))) _ _ _
   refine wpAny_bind (Name_function_global hkind (hks _ _ _) (loadGlobal_builtin (env := genEnv scope [] h3.objs.size code builtinsNs env) (by show t.heap.Ns env.globals _; rw [hglob]; exact TT.g.keeps Ft.keep) (mg_none_of X TT.g hstr) (TT.b.keeps Ft.keep) ((TT.builtins "str" (by decide)).trans (show bootBuiltins "str" = some (.type "str") by boot_by_name)) ?_) (by decide))
   show wpAny _ _ (callWith pc (.type "str") [] [(false, eval (.Name "f" pf) (genEnv scope [] h3.objs.size code builtinsNs env))] []) _ _ _
   refine callWith_type1 (wpAny_Name (wpAny_loadName_local hkind (hkf _ _ _) hn hmf ?_) (by decide))
   exact PySem.P.str_of_str ⟨hPi, keepsRefl _⟩
  ·have e : (passing (fun u' => true) ys.length 0).length = ys.length := by rw [passing_all, List.length_range]
   rw [e] at W
   refine hq a _ (tabObj ps3) (F3.keeps hk5) (fun p hp => ⟨hk5 _ _ (N3 p hp).1, (N3 p hp).2⟩) ⟨ps3, rfl, hop3t⟩ (fun g => g.push hb) rfl rfl ⟨_, _, _, _, _, ?_, W, hat, (fun i s' st => st.1.typeIs), List.mem_cons_self, ?_, ?_⟩
   ·rintro j y ⟨i, hi, hy⟩
    rw [passing_all] at hi
    have : j < ys.length ∧ j = i := by
     rw [List.getElem?_eq_some_iff] at hi
     obtain ⟨h1, h2⟩ := hi
     exact ⟨by simpa using h1, by simpa using h2⟩
    rw [this.2]; exact hy
   ·intro b hb
    show b < h5.objs.size
    rw [hsz]
    rcases List.mem_cons.mp hb with rfl | hb
    ·exact Nat.lt_succ_self _
    ·rcases List.mem_cons.mp hb with rfl | hb
     ·exact Nat.lt_succ_of_lt hlt
     ·exact Nat.lt_succ_of_lt (Nat.lt_trans (List.mem_range.mp hb) hlt)
   ·intro b hb
    rcases List.mem_cons.mp hb with rfl | hb
    ·cases e : s.heap.get? h3.objs.size with
     | none => rfl
     | some o =>
      have hne : h3.objs.size ≠ P := fun q => Nat.lt_irrefl _ (q ▸ Heap.lt_size hop3)
      exact absurd (Heap.lt_size (hx3 _ _ hne (hpush _ _ e))) (Nat.lt_irrefl _)
    ·rw [List.mem_singleton.mp hb]; exact nI
 have hne : lst ≠ s.heap.objs.size := fun e => by
  rcases hl with ⟨o, q, _⟩ | ⟨o, q, _⟩ <;> (rw [e, nI] at q; cases q)
 rcases hl with hl | hl
 ·exact wpAny_pyIter_list hl (cont _ (fun i h => h.IsListIter s.heap.objs.size lst i ∧ h.IsList lst ys.toArray) rfl (fun A' hA => by have := Walks.list (prog := prog) (w := w) hA s.heap.objs.size lst hne ys.toArray; simpa using this) ⟨⟨_, Heap.get?_push_size _ rfl, rfl, rfl⟩, hl.at fun o e => Heap.get?_push_of_some _ e⟩)
 ·exact wpAny_pyIter_tuple hl (cont _ (fun i h => h.IsTupleIter s.heap.objs.size lst i ∧ h.IsTuple lst ys.toArray) rfl (fun A' hA => by have := Walks.tuple (prog := prog) (w := w) hA s.heap.objs.size lst hne ys.toArray; simpa using this) ⟨⟨_, Heap.get?_push_size _ rfl, rfl, rfl⟩, hl.at fun o e => Heap.get?_push_of_some _ e⟩)
theorem itemsOf_eq {Pi : Nat → Value → Prop} {ys : List Value} {acc : Array Value} (hPi : ∀ j y, Pi j y → ys[j]? = some y) (h : ItemsOf Pi acc ys.length) : acc = ys.toArray := by
 obtain ⟨a1, a2⟩ := h
 apply Array.ext (by simpa using a1)
 intro j h1 h2
 have h3 : ys[j]? = some acc[j] := hPi _ _ (a2 j acc[j] (by simp [h1]))
 have h4 : j < ys.length := by simpa using h2
 rw [List.getElem?_eq_getElem h4] at h3
 simpa using (Option.some.inj h3).symm
theorem moved_keep {news : List (Addr × Obj)} {old : Heap} {mo : Str → Option Value} {wr : List Addr} {G : Array GenState → Array GenState → Prop} {s' : Shared} {newsO : List (Addr × Obj)} (Fo : Fr h₀ L old mo) (No : News h₀ L old newsO) (F : Fr h₀ L s.heap m) (N : News h₀ L s.heap news)
  (hsub : ∀ p ∈ news, ∃ q ∈ newsO, q.1 = p.1) (hwr : ∀ b ∈ wr, old.get? b = none) (M : Moved wr G s s') : Fr h₀ L s'.heap m ∧ News h₀ L s'.heap news := by
 have nL : L ∉ wr := fun h => by obtain ⟨oL, es, ep, e, r⟩ := Fo.ns; rw [hwr _ h] at e; cases e
 refine ⟨⟨F.ns.at' fun o e => M.heap _ _ nL e, fun b o e => M.heap _ _ (fun h => by have := Fo.keep _ _ e; rw [hwr _ h] at this; cases this) (F.keep _ _ e), F.above⟩, fun p hp => ⟨M.heap _ _ (fun h => ?_) (N p hp).1, (N p hp).2⟩⟩
 refine ob1_2 (hsub p hp) fun q hq e => ?_
 have := (No q hq).1
 rw [e, hwr _ h] at this; cases this
theorem tupGen {a : Addr} {ys : List Value} {old : Heap} {mo : Str → Option Value} {newsO : List (Addr × Obj)} {Q : Value → Shared → Prop} (Fo : Fr h₀ L old mo) (No : News h₀ L old newsO) (F : Fr h₀ L s.heap m) (N : News h₀ L s.heap news) (hsub : ∀ p ∈ news, ∃ q ∈ newsO, q.1 = p.1)
  (hG : GenOf prog w A a ys old s) (hn : ys.length ≤ 65536)
  (hq : ∀ t s', Fr h₀ L s'.heap m → News h₀ L s'.heap ((t, ⟨.type "tuple", none, .seq ys.toArray 0, #[]⟩) :: news) → (∀ p ∈ news, p.1 ≠ t) → (AllBare s.gens → AllBare s'.gens) → s'.os = s.os → s'.drawn = s.drawn → Q (.ref t) s') :
  wpAny (model prog w) A (call (.type "tuple") [.ref a]) Q E s := by
 obtain ⟨fp, wr, g, Pi, St, hPi, W, hst, hT, hI, hfp, hwr⟩ := hG
 refine call_tuple_gen (hsz := by rw [sizeLine_eq]; lia) W.in4_3 hT hst hfp hI fun s' acc hm hacc => ?_
 obtain rfl := itemsOf_eq hPi hacc
 obtain ⟨F', N'⟩ := moved_keep Fo No F N hsub hwr hm
 exact hq _ _ (F'.push _) (N'.push F' _) (fun p hp => Nat.ne_of_lt (Heap.lt_size (N' p hp).1)) (fun b => hm.gens.bare b) hm.os hm.drawn
theorem collGen {a : Addr} {ys : List Value} {old : Heap} {mo : Str → Option Value} {newsO : List (Addr × Obj)} {Q : List Value → Shared → Prop} (Fo : Fr h₀ L old mo) (No : News h₀ L old newsO) (F : Fr h₀ L s.heap m) (N : News h₀ L s.heap news) (hsub : ∀ p ∈ news, ∃ q ∈ newsO, q.1 = p.1)
  (hG : GenOf prog w A a ys old s) (hn : ys.length ≤ 65536)
  (hq : ∀ s', Fr h₀ L s'.heap m → News h₀ L s'.heap news → (AllBare s.gens → AllBare s'.gens) → s'.os = s.os → s'.drawn = s.drawn → Q ys s') :
  wpAny (model prog w) A (collect (.ref a)) Q E s := by
 obtain ⟨fp, wr, g, Pi, St, hPi, W, hst, hT, hI, hfp, hwr⟩ := hG
 refine wpAny_collect_gen (hn := by rw [sizeLine_eq]; lia) W.in4_1 hT hst hfp hI fun s' acc hm hacc => ?_
 obtain rfl := itemsOf_eq hPi hacc
 obtain ⟨F', N'⟩ := moved_keep Fo No F N hsub hwr hm
 exact hq _ F' N' (fun b => hm.gens.bare b) hm.os hm.drawn
theorem starGen {a : Addr} {ys : List Value} {old : Heap} {mo : Str → Option Value} {newsO : List (Addr × Obj)} {Q : List Value → Shared → Prop} (Fo : Fr h₀ L old mo) (No : News h₀ L old newsO) (F : Fr h₀ L s.heap m) (N : News h₀ L s.heap news) (hsub : ∀ p ∈ news, ∃ q ∈ newsO, q.1 = p.1)
  (hG : GenOf prog w A a ys old s) (hn : ys.length ≤ 65536)
  (hq : ∀ s', Fr h₀ L s'.heap m → News h₀ L s'.heap news → (AllBare s.gens → AllBare s'.gens) → s'.os = s.os → s'.drawn = s.drawn → Q ys s') :
  StarOf (model prog w) A E (.ref a) Q s := by
 have z := collGen (A := A) (E := E) (Q := Q) Fo No F N hsub hG hn hq
 obtain ⟨fp, wr, g, Pi, St, hPi, W, hst, hT, hI, hfp, hwr⟩ := hG
 delta StarOf notIterableAtAll
 exact wpAny_bind (wpAny_specialOf (hT 0 _ hst) PySem.slot_gen_iter.lookup (wpAny_pure ⟨rfl, z⟩))
theorem tupList {l : Addr} {items : Array Value} {k : Nat} {Q : Value → Shared → Prop} (F : Fr h₀ L s.heap m) (N : News h₀ L s.heap news) (hl : (l, W.listOf items k) ∈ news) (hsz : items.size ≤ 65536)
  (hq : ∀ t h', Fr h₀ L h' m → News h₀ L h' ((t, ⟨.type "tuple", none, .seq items 0, #[]⟩) :: news) → (∀ p ∈ news, p.1 ≠ t) → Q (.ref t) { s with heap := h' }) :
  wpAny (model prog w) A (call (.type "tuple") [.ref l]) Q E s := by
 refine call_tuple_list (hsz := by rw [sizeLine_eq]; lia) ⟨_, (N _ hl).1, rfl, _, rfl⟩ (fun h' hk => ?_)
 have F' := F.keeps hk
 have N' : News h₀ L h' news := fun p hp => ⟨hk _ _ (N p hp).1, (N p hp).2⟩
 exact hq _ _ (F'.push _) (N'.push F' _) (fun p hp => Nat.ne_of_lt (Heap.lt_size (N' p hp).1))
end
end
section
local macro_rules | `(tactic| walk_at "eval ListComp") => `(tactic| (refine hold ?_))
section
local macro_rules | `(tactic| walk_at "call ref") => `(tactic| (refine hold ?_))
section
local macro_rules | `(tactic| walk_at "call builtin:hasattr") => `(tactic| (refine hold ?_))
local macro_rules | `(tactic| walk_at "setAttr ref") => `(tactic| (refine hold ?_))
noncomputable def Texts (ls : List (List Nat)) : Prop := ∀ l ∈ ls, l.length ≤ 1024 ∧ ∀ c ∈ l, c ∈ signs
noncomputable def vals (ls : List (List Nat)) (ts : List Tok) : List Value := strValues ((ls.zip ts).map fun p => (strOf p.1, p.2))
noncomputable def catDict (w : World) (t1 t2 : Nat) (D px : Addr) : Obj := dictOf [ent w "cats" t1 (.ref D), ent w "params" t2 (.ref px)] 2
theorem cat_init {w : World} {mean : ExcName → Option Value} {mg mb : Str → Option Value} {news : List (Addr × Obj)} (o dx lst : Addr) (xs : List (List Nat × Tok)) (k : Nat)
  (dp un : Nat) (gd : Option (List Code)) (cn : Str) (cs : Scope) (a : Addr) (ccd : Value) (cl : List (Str × Addr)) (outer : List Env) (A₀ : Around) (base h₀ : Heap) (L : Addr) (m : Str → Option Value) (s : Shared) (R : Result → Shared → Prop)
  (B : Below A₀ base outer h₀) (F : Fr h₀ L s.heap m) (X : (K w.params).In h₀) (N : News h₀ L s.heap ((dx, dictOf [] 0) :: (o, instObj 626 dx) :: (lst, W.listOf (strValues (xs.map fun p => (strOf p.1, p.2))).toArray k) :: news)) (hne : ∀ p ∈ (o, instObj 626 dx) :: (lst, W.listOf (strValues (xs.map fun p => (strOf p.1, p.2))).toArray k) :: news, p.1 ≠ dx) (T : Top q0 (looseW q0 loose0) mean mg mb h₀) (hk : cs.kind = .function)
  (hxs : Texts (xs.map (·.1))) (hn : xs.length ≤ 1000)
  (hd : dp + 30 < 500) (hu : un + 130 < 200)
  (hret : ∀ (D px : Addr) (ys : Array Value) (k' t1 t2 : Nat) (objs : List (Addr × Obj)) (h' : Heap) (tk' : Nat), RelAll VtRel (strValues (xs.map fun p => (strOf p.1, p.2))) ys.toList objs → Fr h₀ L h' m →
   News h₀ L h' ((dx, catDict w t1 t2 D px) :: (o, instObj 626 dx) :: (D, W.listOf ys k') :: (objs ++ (lst, W.listOf (strValues (xs.map fun p => (strOf p.1, p.2))).toArray k) :: news)) → R (.ok (.ret .none)) { s with heap := h', toks := tk' }) :
  codeAny (model pw w) (ktrTop dp un gd cn cs L a ccd cl outer) (.call (.ref 586) ⟨[.ref o, .ref lst], []⟩) R s := by
 have hd' : dp + 3 < recursionLimit := by first | exact rc1 (by assumption) rfl | (rw [show recursionLimit = 1000 from rfl]; lia)
 k_dflt (refine' code_def ?k1 ?k2 ?k3 ?k4 ?k5 ?kA ?kF ?kK ?k6 ?k7 ?k8 ?k9 ?kB ?_ ?c2 ?c3 ?c4 ?c5; (case kA => exact rfl); (case kF => exact rfl); (case kK => first | exact rfl | assumption); (case k1 => k_asm); (case k2 => k_asm); (case k3 => k_asm); (case k4 => k_asm); (case k5 => k_asm); (case k6 => k_is); (case k7 => k_is); (case k8 => ktr_room); (case k9 => first | exact BindsTo.of_eq rfl | exact binds_K (by k_in) rfl (by k_is) rfl rfl rfl); (case c5 => decide); (case kB => exact locs rfl); (case c2 => exact rfl); (case c3 => exact rfl); (case c4 => exact rfl); k_whole; intro g' L' h' FG' F' N' B' X' T'; (try dsimp only); (try k_lift B'); (try k_fold))
 with_reducible rename Below _ _ _ _ => B1
 with_reducible rename Top _ _ _ _ _ _ => T1
 with_reducible rename Frag.In _ _ => X1
 with_reducible rename Fr _ _ _ _ => F0
 replace F0 := frBinds F0 (fun y => if y = "params" then some .none else if y = "c_list" then some (.ref lst) else if y = "self" then some (.ref o) else none) (by kernel_rfl)
 k_steps
 refine unhold ?_
 with_reducible rename Fr _ _ _ _ => F1
 with_reducible rename News _ _ _ _ => N1
 refine up (lf_hasL (X1.keeps F1.keep) lst _ k _ (N1 _ (.tail _ (.tail _ (.head _)))).1 (fun h2 tk2 nw2 D2 => ?_)) ?_ ?_
 rotate_left
 ·show dp + 1 ≤ 500; first | exact rl1 (by assumption) rfl | lia
 ·show un + 3 ≤ 200; first | exact rl1 (by assumption) rfl | lia
 have F2 := memFr F1 D2
 have N2 : News _ _ h2 ((dx, dictOf [] 0) :: (o, instObj 626 dx) :: (lst, W.listOf (strValues (xs.map fun p => (strOf p.1, p.2))).toArray k) :: news) := fun p hp => memNews F1 N1 D2 p (List.mem_append_right _ hp)
 clear F1 N1
 k_steps
 refine unhold ?_
 with_reducible rename Fr _ _ _ _ => F3
 with_reducible rename News _ _ _ _ => N3
 k_dflt (refine' listCompH VtRel ?hh ?hclos ?hcell ?hkind ?hnames ?hx ?hs F3 ?_; (case hh => with_unfolding_all rfl); (case hclos => with_unfolding_all rfl); (case hcell => decide); (case hkind => with_unfolding_all rfl); (case hnames => decide); (case hx => with_unfolding_all rfl); (case hs => intro _; with_unfolding_all rfl))
 k_steps
 refine unhold ⟨lst, _, rfl, N3.isList (.tail _ (.tail _ (.head _))), by simp [strValues, sizeLine_eq]; lia, F3, (N3 _ (.tail _ (.tail _ (.head _)))).2.1, fun C v h₃ tk₃ m₃ hv hC hn' hm' F4 hk4 => ?_, fun D h5 tk5 ys hD hDL hpl F5 hP hk5 => ?_⟩
 ·obtain ⟨q, hq, rfl⟩ : ∃ q ∈ xs, v = .str (strOf q.1) q.2 := by
   simp only [strValues, List.map_map, List.mem_map, Function.comp] at hv
   refine ob1_2 hv fun q hq eq2 => ?_
   clear hv
   subst eq2
   exact ⟨q, hq, rfl⟩
  refine elt_vt q.1 q.2 _ _ _ C h₃ tk₃ m₃ _ _ _ _ _ _ _ _ _ _ _ _ _ _ _ _ _ B1 F4 X1 T1 rfl (hxs q.1 (List.mem_map_of_mem hq)).1 hn' hm' rfl rfl rfl ?_ ?_
  ·show dp + 1 + 22 < 500; first | exact rm2 (by assumption) rfl | lia
  ·show un + 3 + 115 < 200; first | exact rm2 (by assumption) rfl | lia
 refine ob1_2 (RelAll.of hP) fun objs hrel hobjs => ?_
 refine ob1_2 (compNews F3 N3 hD hDL hpl (S := [D]) hobjs hk5) fun k5 N5 ne5 => ?_
 clear F3 N3
 k_steps
 refine unhold ?_
 with_reducible rename Fr _ _ _ _ => F6
 have N6 : News _ _ _ ((dx, dictOf [] 0) :: (o, instObj 626 dx) :: (D, W.listOf ys k5) :: (objs ++ (lst, W.listOf (strValues (xs.map fun p => (strOf p.1, p.2))).toArray k) :: news)) := fun p hp => N5 p (by
  exact sub hp)
 have hneT : ∀ p ∈ (o, instObj 626 dx) :: (D, W.listOf ys k5) :: (objs ++ (lst, W.listOf (strValues (xs.map fun p => (strOf p.1, p.2))).toArray k) :: news), p.1 ≠ dx := fun p hp e => by
  have dxm : (dx, dictOf [] 0) ∈ (dx, dictOf [] 0) :: (o, instObj 626 dx) :: (lst, W.listOf (strValues (xs.map fun p => (strOf p.1, p.2))).toArray k) :: news := .head _
  simp only [List.mem_cons, List.mem_append] at hp
  rcases hp with h | h | h | h | h
  ·exact hne (o, instObj 626 dx) (.head _) (by rw [h] at e; exact e)
  ·rw [h] at e; exact (ne5 _ dxm).1 e.symm
  ·exact (ne5 _ dxm).2 p h e.symm
  ·exact hne (lst, _) (.tail _ (.head _)) (by rw [h] at e; exact e)
  ·exact hne p (.tail _ (.tail _ h)) e
 refine setNew F6 N6 (X1.keeps F6.keep) (.head _) (by k_is) (by k_is) (by k_is) rfl rfl hneT (by kernel_rfl) (Nat.zero_le _) (fun h7 F7 N7 => ?_)
 clear F6 N6 N5
 k_steps
 refine unhold ?_
 refine params_spec _ _ _ _ _ _ _ _ _ _ _ _ _ _ _ _ _ B1 F7 X1 N7 T1 rfl ?_ ?_ (fun px pdx h8 tk8 F8 N8 ne8 => ?_)
 ·show dp + 1 + 15 < 500; first | exact rm2 (by assumption) rfl | lia
 ·show un + 3 + 100 < 200; first | exact rm2 (by assumption) rfl | lia
 have ne8' := ne8 _ (.head _)
 clear F7
 k_steps
 refine unhold ?_
 have N9 : News _ _ h8 ((dx, dictOf ([] ++ [ent w "cats" _ (.ref D)]) (0 + 1)) :: (o, instObj 626 dx) :: (D, W.listOf ys k5) :: (objs ++ (lst, W.listOf (strValues (xs.map fun p => (strOf p.1, p.2))).toArray k) :: news)) := fun p hp => N8 p (.tail _ (.tail _ hp))
 refine setNew F8 N9 (X1.keeps F8.keep) (.head _) (by k_is) (by k_is) (by k_is) rfl rfl hneT (by kernel_rfl) (Nat.le_of_ble_eq_true rfl) (fun h10 F10 N10 => ?_)
 clear F8 N8 N9 N7
 k_steps
 with_reducible rename Fr h₀ L _ m => F11
 with_reducible rename News h₀ L _ _ => N11
 exact hret D px ys k5 _ _ objs _ _ hrel F11 N11
theorem cat_spec {w : World} {mean : ExcName → Option Value} {mg mb : Str → Option Value} {news : List (Addr × Obj)} (lst : Addr) (xs : List (List Nat × Tok)) (k : Nat)
  (dp un : Nat) (gd : Option (List Code)) (cn : Str) (cs : Scope) (a : Addr) (ccd : Value) (cl : List (Str × Addr)) (outer : List Env) (A₀ : Around) (base h₀ : Heap) (L : Addr) (m : Str → Option Value) (s : Shared) (Q E : Value → Shared → Prop)
  (B : Below A₀ base outer h₀) (F : Fr h₀ L s.heap m) (X : (K w.params).In h₀) (N : News h₀ L s.heap news) (hl : (lst, W.listOf (strValues (xs.map fun p => (strOf p.1, p.2))).toArray k) ∈ news) (T : Top q0 (looseW q0 loose0) mean mg mb h₀) (hk : cs.kind = .function)
  (hxs : Texts (xs.map (·.1))) (hn : xs.length ≤ 1000)
  (hd : dp + 31 < 500) (hu : un + 131 < 200)
  (hret : ∀ (o dx D px : Addr) (ys : Array Value) (k' t1 t2 : Nat) (objs : List (Addr × Obj)) (h' : Heap) (tk' : Nat), RelAll VtRel (strValues (xs.map fun p => (strOf p.1, p.2))) ys.toList objs → Fr h₀ L h' m →
   News h₀ L h' ((dx, catDict w t1 t2 D px) :: (o, instObj 626 dx) :: (D, W.listOf ys k') :: (objs ++ news)) → Q (.ref o) { s with heap := h', toks := tk' }) :
  wpAny (model pw w) (ktrTop dp un gd cn cs L a ccd cl outer) (call (.ref 626) [.ref lst]) Q E s := by
 refine wpAny_call (make_K (fI := 586) F N (X.keeps F.keep) (by kernel_rfl) (by k_is) (by k_is) (fun o dx h1 F1 N1 ne1 lt1 => ?_))
 have e1 : (Code.builtin "type.__call__" { pos := [Value.ref 626, Value.ref lst] }).weight = 1 := rfl
 have e2 : (Code.builtin "type.__call__" { pos := [Value.ref 626, Value.ref lst] }).cUnits = 1 := rfl
 have N2 : News h₀ L h1 ((dx, dictOf [] 0) :: (o, instObj 626 dx) :: (lst, W.listOf (strValues (xs.map fun p => (strOf p.1, p.2))).toArray k) :: news) := fun p hp => by
  rcases List.mem_cons.mp hp with rfl | hp
  ·exact N1 _ (.tail _ (.head _))
  ·rcases List.mem_cons.mp hp with rfl | hp
   ·exact N1 _ (.head _)
   ·rcases List.mem_cons.mp hp with rfl | hp
    ·exact N1 _ (.tail _ (.tail _ hl))
    ·exact N1 _ (.tail _ (.tail _ hp))
 refine cat_init o dx lst xs k _ _ _ _ _ _ _ _ _ _ _ _ _ _ _ _ B F1 X N2 (fun p hp => ?_) T hk hxs hn ?_ ?_ (fun D px ys k' t1 t2 objs h' tk' hr F2 N3 => ⟨rfl, ?_⟩)
 ·rcases List.mem_cons.mp hp with rfl | hp
  ·exact Nat.ne_of_gt lt1
  ·rcases List.mem_cons.mp hp with rfl | hp
   ·exact Nat.ne_of_lt (ne1 _ hl)
   ·exact Nat.ne_of_lt (ne1 _ hp)
 ·rw [e1]; show dp + 1 + 30 < 500; first | exact rm2 (by assumption) rfl | lia
 ·rw [e2]; show un + 1 + 130 < 200; first | exact rm2 (by assumption) rfl | lia
 refine hret o dx D px ys k' t1 t2 objs h' tk' hr F2 (fun p hp => N3 p ?_)
 exact sub hp
end
section
local macro_rules | `(tactic| walk_at "getMethod bytes") => `(tactic| (k_here; k_dflt (refine getJoinB ?_)))
local macro_rules | `(tactic| walk_at "call builtin:bytes.join") => `(tactic| (refine hold ?_))
local macro_rules | `(tactic| walk_at "getAttr ref") => `(tactic| (refine hold ?_))
theorem RelAll.right {Rel : Value → Value → List (Addr × Obj) → Prop} {vs ys : List Value} {objs : List (Addr × Obj)} (h : RelAll Rel vs ys objs) (y : Value) (hy : y ∈ ys) : ∃ v os, v ∈ vs ∧ Rel v y os ∧ ∀ p ∈ os, p ∈ objs := by
 induction h with
 | nil => cases hy
 | @cons v0 y0 objs0 os0 vs0 ys0 h1 _ ih =>
  rcases List.mem_cons.mp hy with rfl | hy
  ·exact ⟨v0, objs0, .head _, h1, fun p hp => List.mem_append_left _ hp⟩
  ·refine ob2_3 (ih hy) fun v os a b c => ?_
   exact ⟨v, os, .tail _ a, b, fun p hp => List.mem_append_right _ (c p hp)⟩
theorem RelAll.len {Rel : Value → Value → List (Addr × Obj) → Prop} {vs ys : List Value} {objs : List (Addr × Obj)} (h : RelAll Rel vs ys objs) : ys.length = vs.length := by
 induction h with
 | nil => rfl
 | cons _ _ ih => rw [List.length_cons, List.length_cons, ih]
theorem txs_mem {ts : List (List Nat × Tok)} {v : Value} (h : v ∈ txs ts) : ∃ l t, l ∈ ts.map (·.1) ∧ v = .str (strOf l) t := by
 simp only [txs, strValues, List.map_map, List.mem_map, Function.comp] at h
 refine ob1_2 h fun q hq eq2 => ?_
 clear h
 subst eq2
 exact ⟨q.1, q.2, List.mem_map_of_mem hq, rfl⟩
theorem txs_len (ts : List (List Nat × Tok)) : (txs ts).length = (ts.map (·.1)).length := by simp [txs, strValues]
theorem strOf_inj {a b : List Nat} (h : strOf a = strOf b) : a = b := by
 have := congrArg (fun x : Str => x.cps.toList) h
 simpa [strOf] using this
theorem ical_out {H h s0 : Heap} {S : List Addr} : ∀ (ts : List (List Nat × Tok)) (ys zs : List Value) (objs : List (Addr × Obj)), RelAll VtRel (txs ts) ys objs → (∀ p ∈ objs, H.get? p.1 = some p.2) → Paired (ObjAt S s0 (IcalRel H) h) ys zs →
  ∃ bs, zs = bytesVals bs ∧ bs.map (·.1) = (ts.map (·.1)).map escL
 | [], _, _, _, hr, ho, hp => by
  cases hr; cases hp
  exact ⟨[], rfl, rfl⟩
 | t :: ts, _, _, _, hr, ho, hp => by
  cases hr with
  | cons h1 h2 =>
   cases hp with
   | cons q1 q2 =>
    refine ob1_2 (ical_out ts _ _ _ h2 (fun p hp => ho p (List.mem_append_right _ hp)) q2) fun bs eq1 hbs => ?_
    subst eq1
    obtain ⟨l, tx, vv, dx, tx', sl, e1, rfl, rfl⟩ := h1
    obtain ⟨os, ⟨l', tx2, vv', dx', sl', t', e2, hH, rfl, rfl⟩, _⟩ := q1
    cases e2
    have e3 := ho _ (List.mem_append_left _ (.head _))
    rw [hH] at e3
    have el : l' = l := by
     have := Option.some.inj e3
     injection this with a1 a2 a3 a4
     injection a3 with b1
     injection b1 with c1
     exact strOf_inj c1
    subst el
    have e4 : t.1 = l' := by
     injection e1 with b1
     exact strOf_inj b1
    exact ⟨(escL l', t') :: bs, rfl, by simp [hbs, e4]⟩
structure Cat (w : World) (news : List (Addr × Obj)) (o : Addr) (xs : List (List Nat)) : Prop where
 out : ∃ dx D px ys k t1 t2 objs ts, (o, instObj 626 dx) ∈ news ∧ (dx, catDict w t1 t2 D px) ∈ news ∧ (D, W.listOf ys k) ∈ news ∧ RelAll VtRel (txs ts) ys.toList objs ∧ ts.map (·.1) = xs ∧ ∀ p ∈ objs, p ∈ news
theorem cat_ical {w : World} {mean : ExcName → Option Value} {mg mb : Str → Option Value} {news : List (Addr × Obj)} (o : Addr) (xs : List (List Nat)) (C : Cat w news o xs)
  (dp un : Nat) (gd : Option (List Code)) (cn : Str) (cs : Scope) (a : Addr) (ccd : Value) (cl : List (Str × Addr)) (outer : List Env) (A₀ : Around) (base h₀ : Heap) (L : Addr) (m : Str → Option Value) (s : Shared) (Q E : Value → Shared → Prop)
  (B : Below A₀ base outer h₀) (F : Fr h₀ L s.heap m) (X : (K w.params).In h₀) (N : News h₀ L s.heap news) (T : Top q0 (looseW q0 loose0) mean mg mb h₀) (hk : cs.kind = .function)
  (hxs : Texts xs) (hn : xs.length ≤ 30)
  (hd : dp + 31 < 500) (hu : un + 131 < 200)
  (hret : ∀ (t : Tok) (h' : Heap) (tk' : Nat), Fr h₀ L h' m → News h₀ L h' news → Q (.bytes (bytesOf (glue [44] (xs.map escL))) t) { s with heap := h', toks := tk' }) :
  wpAny (model pw w) (ktrTop dp un gd cn cs L a ccd cl outer) (call (.ref 598) [.ref o]) Q E s := by
 have hd' : dp + 3 < recursionLimit := by first | exact rc1 (by assumption) rfl | (rw [show recursionLimit = 1000 from rfl]; lia)
 refine ob9_6 C.out fun dx D px ys k t1 t2 objs ts ho hdx hD hrel hts hobj => ?_
 refine wpAny_call ?_
 k_dflt cell_enter
 with_reducible rename Fr _ _ _ (fun y => _) => F1
 with_reducible rename Below _ _ _ _ => B1
 with_reducible rename Top _ _ _ _ _ _ => T1
 with_reducible rename Frag.In _ _ => X1
 replace F1 := frBinds F1 (fun y => if y = "self" then some (.ref o) else none) (by kernel_rfl)
 k_steps
 refine unhold ?_
 with_reducible rename Fr _ _ _ _ => F3
 with_reducible rename News _ _ _ _ => N3
 rename Heap => hcur
 k_dflt (refine' listCompH (IcalRel hcur) ?hh ?hclos ?hcell ?hkind ?hnames ?hx ?hs F3 ?_; (case hh => with_unfolding_all rfl); (case hclos => with_unfolding_all rfl); (case hcell => decide); (case hkind => with_unfolding_all rfl); (case hnames => decide); (case hx => with_unfolding_all rfl); (case hs => intro _; with_unfolding_all rfl))
 k_steps
 refine unhold ?_
 refine getFld (es := [ent w "cats" t1 (.ref D), ent w "params" t2 (.ref px)]) (X1.keeps F3.keep) (N3 _ ho).1 (N3 _ hdx).1 (by kernel_rfl) (by kernel_rfl) (by k_is) (v := .ref D) (by kernel_rfl) rfl ?_
 have hlen : ys.toList.length = xs.length := by rw [hrel.len, txs_len, hts]
 refine unhold ⟨D, ys.toList, rfl, (by rw [Array.toArray_toList]; exact N3.isList hD), (by rw [hlen, sizeLine_eq]; lia), F3, (N3 _ hD).2.1, fun C v h₃ tk₃ m₃ hv hC hn' hm' F4 hk4 => ?_, fun D' h5 tk5 zs hD' hDL' hpl F5 hP hk5 => ?_⟩
 ·obtain ⟨u, os, hu', ⟨l, tx, vv, dv, tx', sl, rfl, rfl, rfl⟩, hos⟩ := hrel.right v hv
  refine ob2_2 (txs_mem hu') fun l' t' hl' e => ?_
  obtain rfl : l = l' := by injection e with b1; exact strOf_inj b1
  have n1 := N3 _ (hobj _ (hos _ (.head _)))
  have n2 := N3 _ (hobj _ (hos _ (.tail _ (.head _))))
  rw [hts] at hl'
  refine elt_ical hcur vv dv l tx' sl _ _ _ _ _ _ _ _ _ _ _ _ _ C h₃ tk₃ m₃ _ _ _ _ _ _ _ _ _ _ _ _ _ _ _ _ _ B1 F4 X1 T1 rfl (hxs l hl').1 (hxs l hl').2 n1.1 (hk4 _ _ n1.2.1 n1.1) (hk4 _ _ n2.2.1 n2.1) n1.2.2 n2.2.2 n1.2.1 n2.2.1 hn' hm' rfl rfl rfl ?_ ?_ _ rfl
  ·show dp + 1 + 5 < 500; first | exact rm2 (by assumption) rfl | lia
  ·show un + 3 + 30 < 200; first | exact rm2 (by assumption) rfl | lia
 refine ob1_2 (ical_out ts _ _ _ hrel (fun p hp => (N3 _ (hobj p hp)).1) hP) fun bs hzs hbs => ?_
 obtain ⟨kD, hDo⟩ := hpl
 have N5 : News _ _ h5 news := fun p hp => ⟨hk5 _ _ (N3 p hp).2.1 (N3 p hp).1, (N3 p hp).2⟩
 clear F3 N3
 k_steps
 refine unhold ?_
 have hzs' : zs = (bytesVals bs).toArray := by rw [← hzs, Array.toArray_toList]
 subst hzs'
 have e44 : (#[44] : Array UInt8) = bytesOf [44] := rfl
 rw [e44]
 refine joinB hDo ?_ (fun t7 k7 => ?_)
 ·rw [hbs, hts]
  refine Nat.le_trans (total_le (B := 2048) fun l hl => ?_) (by rw [List.length_map]; lia)
  refine ob1_2 (List.mem_map.mp hl) fun l0 h0 eq2 => ?_
  subst eq2
  have := escL_len l0
  have := (hxs l0 h0).1
  lia
 rw [hbs, hts]
 k_steps
 with_reducible rename Fr h₀ L _ m => F9
 with_reducible rename News h₀ L _ _ => N9
 exact hret _ _ _ F9 N9
end
end
noncomputable abbrev lawEnv (L a : Addr) (cd : Value) (C : Addr) : Env := envX "law" lawScope.1 L a cd [("numbers", C)]
theorem stage0 {w : World} {mean : ExcName → Option Value} {mg mb : Str → Option Value} {news : List (Addr × Obj)} (C lst : Addr) (oC : Obj) (vs : List Value) (ns : List Int)
  (dp un : Nat) (gd : Option (List Code)) (a : Addr) (cd : Value) (A₀ : Around) (h₀ : Heap) (L : Addr) (s : Shared) (Q : Flow → Shared → Prop) (E : Value → Shared → Prop)
  (B : Below A₀ h₀ [] h₀) (F : Fr h₀ L s.heap (fun y => if y = "script" then some (.ref lst) else none)) (X : (K w.params).In h₀) (N : News h₀ L s.heap ((C, oC) :: news)) (T : Top q0 (looseW q0 loose0) mean mg mb h₀)
  (hne : ∀ p ∈ news, p.1 ≠ C) (hoC : oC.data = .cell none) (hl : h₀.IsList lst vs.toArray) (hv : IntsAre vs ns) (hn : ns.length ≤ 63)
  (hd : dp + 60 < 500) (hu : un + 160 < 200)
  (hq : ∀ (nl : Addr) (ms : List (Nat × Tok)) (k : Nat) (oC' : Obj) (h' : Heap) (tk' : Nat), Fr h₀ L h' (fun y => if y = "script" then some (.ref lst) else none) → News h₀ L h' ((C, oC') :: (nl, W.listOf (intVals ms).toArray k) :: news) → oC'.data = .cell (some (.ref nl)) →
   ms.map (·.1) = (ns ++ [3, 28, 1, 1000, 63, 7, 81]).map Int.natAbs → Q .next { s with heap := h', toks := tk' }) :
  wpAny (model pw w) (ktrTop dp un gd "law" lawScope.1 L a cd [("numbers", C)] []) (exec LS.1.s0 (lawEnv L a cd C)) Q E s := by
 delta LS lawScope
 dsimp only
 k_steps
 refine unhold ?_
 k_dflt (refine' listCompH AbsRel ?hh ?hclos ?hcell ?hkind ?hnames ?hx ?hs F ?_; (case hh => with_unfolding_all rfl); (case hclos => with_unfolding_all rfl); (case hcell => decide); (case hkind => with_unfolding_all rfl); (case hnames => decide); (case hx => with_unfolding_all rfl); (case hs => intro _; with_unfolding_all rfl))
 k_steps
 with_reducible rename Fr _ _ _ _ => F2
 with_reducible rename News _ _ _ _ => N2
 with_reducible rename IntsAre _ (ns ++ _) => hI
 have hle := IntsAre.length hI
 refine unhold ⟨_, _, rfl, N2.isList (.head _), by rw [hle]; simp [sizeLine_eq]; lia, F2, (N2 _ (.head _)).2.1, fun C' v h₃ tk₃ m₃ hv' hC hn' hm' F4 hk4 => ?_, fun D h5 tk5 ys hD hDL hpl F5 hP hk5 => ?_⟩
 ·obtain ⟨n, t, rfl⟩ := ints_mem hI hv'
  exact elt_abs n t _ _ _ h₃ tk₃ m₃ _ _ h₀ L _ _ F4 X T hn' hm' rfl rfl rfl (by with_unfolding_all rfl) (by with_unfolding_all rfl)
 with_reducible refine ob1_2 (abs_out _ _ _ hI hP) fun us hzs hus => ?_
 obtain ⟨kD, hDo⟩ := hpl
 have hys : ys = (intVals us).toArray := by rw [← hzs, Array.toArray_toList]
 subst hys
 have N5 : News h₀ L h5 ((D, W.listOf (intVals us).toArray kD) :: (C, oC) :: news) := fun p hp => by
  rcases List.mem_cons.mp hp with rfl | hp
  ·refine ⟨hDo, hDL, ?_⟩
   cases e : h₀.get? D with
   | none => rfl
   | some o' => exact absurd (F2.keep _ _ e) (by rw [hD]; exact fun q => by cases q)
  ·have := N2 p (.tail _ (.tail _ hp))
   exact ⟨hk5 _ _ this.2.1 this.1, this.2⟩
 have hDC : D ≠ C := fun e => absurd (N2 (C, oC) (.tail _ (.tail _ (.head _)))).1 (by rw [← e, hD]; exact fun q => by cases q)
 have N6 : News h₀ L h5 ((C, oC) :: (D, W.listOf (intVals us).toArray kD) :: news) := fun p hp => N5 p (by
  exact sub hp)
 refine storeCell (s := { s with heap := h5, toks := tk5 }) (v₀ := none) F5 N6 (fun p hp => ?_) rfl hoC (fun h7 o7 F7 N7 d7 => ?_)
 ·rcases List.mem_cons.mp hp with rfl | hp
  ·exact hDC
  ·exact hne p hp
 exact hq D us kD o7 h7 tk5 F7 N7 d7 hus
end
section
local macro_rules | `(tactic| walk_at "getAttr ref") => `(tactic| (refine hold ?_))
local macro_rules | `(tactic| walk_at "call builtin:iter") => `(tactic| (refine hold ?_))
theorem cat_iter {w : World} {mean : ExcName → Option Value} {mg mb : Str → Option Value} {news : List (Addr × Obj)} (o dx D px : Addr) (t1 t2 k : Nat) (ys : Array Value)
  (dp un : Nat) (gd : Option (List Code)) (cn : Str) (cs : Scope) (a : Addr) (ccd : Value) (cl : List (Str × Addr)) (outer : List Env) (A₀ : Around) (base h₀ : Heap) (L : Addr) (m : Str → Option Value) (s : Shared) (Q E : Value → Shared → Prop)
  (B : Below A₀ base outer h₀) (F : Fr h₀ L s.heap m) (X : (K w.params).In h₀) (N : News h₀ L s.heap news) (T : Top q0 (looseW q0 loose0) mean mg mb h₀) (hk : cs.kind = .function)
  (ho : (o, instObj 626 dx) ∈ news) (hdx : (dx, catDict w t1 t2 D px) ∈ news) (hD : (D, W.listOf ys k) ∈ news)
  (hd : dp + 5 < 500) (hu : un + 10 < 200)
  (hret : ∀ (I : Addr) (h' : Heap) (tk' : Nat), Fr h₀ L h' m → News h₀ L h' news → h'.IsListIter I D 0 → s.heap.get? I = none → I ≠ L → Q (.ref I) { s with heap := h', toks := tk' }) :
  wpAny (model pw w) (ktrTop dp un gd cn cs L a ccd cl outer) (call (.ref 593) [.ref o]) Q E s := by
 have hd' : dp + 3 < recursionLimit := by first | exact rc1 (by assumption) rfl | (rw [show recursionLimit = 1000 from rfl]; lia)
 refine ob1_2 (fullNews F) fun news0 N0 hall => ?_
 have N' : News h₀ L s.heap (news ++ news0) := fun p hp => (List.mem_append.mp hp).elim (N p) (N0 p)
 clear N N0
 refine wpAny_call ?_
 k_dflt cell_enter
 with_reducible rename Fr _ _ _ (fun y => _) => F1
 with_reducible rename Below _ _ _ _ => B1
 with_reducible rename Top _ _ _ _ _ _ => T1
 with_reducible rename Frag.In _ _ => X1
 replace F1 := frBinds F1 (fun y => if y = "self" then some (.ref o) else none) (by kernel_rfl)
 k_steps
 refine unhold ?_
 with_reducible rename Fr _ _ _ _ => F3
 with_reducible rename News _ _ _ _ => N3
 refine getFld (es := [ent w "cats" t1 (.ref D), ent w "params" t2 (.ref px)]) (X1.keeps F3.keep) (N3 _ (List.mem_append_left _ ho)).1 (N3 _ (List.mem_append_left _ hdx)).1 (by kernel_rfl) (by kernel_rfl) (by k_is) (v := .ref D) (by kernel_rfl) rfl ?_
 k_steps
 refine unhold ?_
 refine up (lf_iterL (X1.keeps F3.keep) D ys k (N3 _ (List.mem_append_left _ hD)).1 (fun I h5 tk5 D5 => ?_)) ?_ ?_
 rotate_left
 ·show dp + 1 ≤ 500; first | exact rl1 (by assumption) rfl | lia
 ·show un + 3 ≤ 200; first | exact rl1 (by assumption) rfl | lia
 have hI := D5.nw _ (.head _)
 have F5 := memFr F3 D5
 have N5 := memNews F3 N3 D5
 have neI : ∀ p ∈ news ++ news0, p.1 ≠ I := fun p hp e => by have := hI.2; dsimp only at this; rw [← e, (N3 p hp).1] at this; cases this
 clear F3 N3
 k_steps
 with_reducible rename Fr h₀ L _ m => F9
 with_reducible rename News h₀ L _ _ => N9
 refine hret I _ _ F9 (fun p hp => N9 p (List.mem_append_right [_] (List.mem_append_left _ hp))) ⟨_, (N9 _ (.head _)).1, rfl, rfl⟩ ?_ (N9 _ (.head _)).2.1
 have n9 := (N9 _ (.head _)).2
 cases e : s.heap.get? I with
 | none => rfl
 | some ob =>
  rcases hall I ob e n9.1 with q | q
  ·rw [n9.2] at q; cases q
  ·exact absurd rfl (neI (I, ob) (List.mem_append_right _ q))
theorem list_own {prog : Program} {w : World} {A : Around} {E Q : Value → Shared → Prop} {s : Shared} {h₀ : Heap} {L : Addr} {m : Str → Option Value} {news : List (Addr × Obj)} {K : Frag} {C fI o D : Addr} {ox : Obj} {od : Option Obj} {ys : Array Value} {k : Nat}
  (F : Fr h₀ L s.heap m) (N : News h₀ L s.heap news) (X : K.In h₀) (hh : A.in1.in1.handled = none) (ho : ∀ h, News h₀ L h news → InstAt h o ox C od) (hD : (D, W.listOf ys k) ∈ news) (hon : (o, ox) ∈ news)
  (hs : findIn K (.ref C) "__iter__" = some (some (.ref fI))) (hf : isFn K (.ref fI) = true) (hlen : findIn K (.ref C) "__len__" = some none) (hhint : findIn K (.ref C) "__length_hint__" = some none) (hsz : ys.size ≤ 65536)
  (hcall : ∀ h1 S ob (Q' E' : Value → Shared → Prop), Fr h₀ L h1 m → News h₀ L h1 ((S, ob) :: news) → (∀ I h2 tk2, Fr h₀ L h2 m → News h₀ L h2 ((S, ob) :: news) → h2.IsListIter I D 0 → h1.get? I = none → I ≠ L → Q' (.ref I) { s with heap := h2, toks := tk2 }) →
   wpAny (model prog w) A.in1.in1 (call (.ref fI) [.ref o]) Q' E' { s with heap := h1 })
  (hret : ∀ S h' tk' k', Fr h₀ L h' m → News h₀ L h' ((S, W.listOf ys k') :: news) → Q (.ref S) { s with heap := h', toks := tk' }) :
  wpAny (model prog w) A (call (.type "list") [.ref o]) Q E s := by
 refine callType_codes (Q₁ := fun obj s₁ => obj = .ref s.heap.objs.size ∧ s₁ = { s with heap := s.heap.push { cls := .type "list", data := .seq #[] } }) PySem.F.called_list (PySem.F.typeCall_list_1 _) PySem.F.entry_list_init
  (code_list_new _ ⟨rfl, rfl⟩) fun obj s₁ h₁ => ?_
 obtain ⟨rfl, rfl⟩ := h₁
 have nS : s.heap.get? s.heap.objs.size = none := by
  cases e : s.heap.get? s.heap.objs.size with
  | none => rfl
  | some ob => exact absurd (Heap.lt_size e) (Nat.lt_irrefl _)
 have hS : (s.heap.push { cls := .type "list", data := .seq #[] }).get? s.heap.objs.size = some { cls := .type "list", data := .seq #[] } := Heap.get?_push_size _ rfl
 generalize s.heap.objs.size = S at *
 have oldP : ∀ b ob, s.heap.get? b = some ob → (s.heap.push { cls := .type "list", data := .seq #[] }).get? b = some ob := fun b ob e => Heap.get?_push_of_some _ e
 generalize s.heap.push { cls := .type "list", data := .seq #[] } = hp at *
 have nL : L ≠ S := fun e => by obtain ⟨oL, es, ep, hL, r⟩ := F.ns; rw [e, nS] at hL; cases hL
 have n0 : h₀.get? S = none := by
  cases e : h₀.get? S with
  | none => rfl
  | some ob => rw [F.keep _ _ e] at nS; cases nS
 have nN : ∀ p ∈ news, p.1 ≠ S := fun p hp e => by rw [← e, (N p hp).1] at nS; cases nS
 refine ⟨⟨_, hS, rfl⟩, PySem.F.args_list_init_2 _ _, ?_⟩
 show wpAny _ A.in1.in1 (do let old ← Builtin.List.listItems (.ref S); Builtin.List.listUpdate (.ref S) (fun u' => #[]); letGo old.toList.reverse; Builtin.List.listExtendWith (.ref S) (.ref o) .none) _ _ _
 refine wpAny_bind ?_
 delta Builtin.List.listItems
 refine wpAny_bind (wpAny_seqItems hS rfl (wpAny_pure ?_))
 show wpAny _ A.in1.in1 (updateSeq S (fun u' => #[]) >>= fun u' => letGo (#[] : Array Value).toList.reverse >>= fun u' => Builtin.List.listExtendWith (.ref S) (.ref o) .none) _ _ _
 refine wpAny_bind (wpAny_updateSeq hS rfl ?_)
 have hS₂ := Heap.get?_update_self (Obj.mapSeq (fun u' => (#[] : Array Value))) hS rfl
 refine wpAny_bind (wpAny_letGo ?_)
 have old2 : ∀ b ob, b ≠ S → s.heap.get? b = some ob → (hp.update S (Obj.mapSeq (fun u' => (#[] : Array Value)))).get? b = some ob := fun b ob hb e => (Heap.get?_update_other _ _ (Ne.symm hb)).trans (oldP b ob e)
 dsimp only
 generalize hp.update S (Obj.mapSeq (fun u' => (#[] : Array Value))) = h1 at *
 have F1 : Fr h₀ L h1 m := frMove (S := [S]) F (by simpa using nL) (by simpa using n0) (fun b ob hb e => old2 b ob (by simpa using hb) e)
 have N1 : News h₀ L h1 ((S, Obj.mapSeq (fun u' => (#[] : Array Value)) { cls := .type "list", data := .seq #[] }) :: news) := fun p hp => by
  rcases List.mem_cons.mp hp with rfl | hp
  ·exact ⟨hS₂, Ne.symm nL, n0⟩
  ·exact ⟨old2 _ _ (nN p hp) (N p hp).1, (N p hp).2⟩
 delta Builtin.List.listExtendWith
 have I1 := ho h1 fun p hp => N1 p (.tail _ hp)
 refine wpAny_bind (I1.type.here ?_)
 have z1 : Builtin.List.listSameRef (.ref S) (.ref o) = false := by simp [Builtin.List.listSameRef]; exact fun e => nN _ hon e.symm
 have z2 : (Value.ref C == Value.type "list") = false := rfl
 have z3 : (Value.ref C == Value.type "tuple") = false := rfl
 simp only [z1, z2, z3, Bool.or_false, Bool.false_eq_true, if_false]
 refine wpAny_bind (owit_iter F1 X I1 hs hf (hcall h1 S _ _ _ F1 N1 fun I h2 tk2 F2 N2 hI nI nIL => ?_))
 delta OwitIt
 have hTI : ({ s with heap := h2, toks := tk2 } : Shared).TypeIs (.ref I) "list_iterator" := let ⟨ob, e1, e2, _⟩ := hI; ⟨ob, e1, e2⟩
 refine wpAny_specialOf hTI (r := some (.builtin "list_iterator.__next__")) (by rw [typeLookup_type, builtinLookup_eq_fast]; kernel_rfl) ?_
 dsimp only
 have I2 := ho h2 fun p hp => N2 p (.tail _ hp)
 have X2 := X.keeps F2.keep
 refine wpAny_bind (wpAny_holding ?_)
 delta Builtin.List.listLengthHint
 refine wpAny_bind (show wpAny _ _ (specialOf _ _) _ _ _ from wpAny_bind (I2.type.here ((looks_findIn X2 hlen).here ?_)))
 show wpAny _ A.in1.in1 (specialOf (Value.ref o) (Str.ofString "__length_hint__") >>= _) _ _ _
 refine wpAny_bind (show wpAny _ _ (specialOf _ _) _ _ _ from wpAny_bind (I2.type.here ((looks_findIn X2 hhint).here ?_)))
 refine wpAny_pure ?_
 show wpAny _ A.in1.in1 (rule "list.extend.makes-room" >>= fun u' => Builtin.List.listTouch (.ref S) >>= fun u' =>
  again (.builtin "list.extend.loop" ⟨[.ref S, .ref I, .none], []⟩)) _ _ _
 refine wpAny_bind (wpAny_rule ?_)
 refine wpAny_bind ?_
 show wpAny _ A.in1.in1 (updateSeq S (·.push .none) >>= fun u' => updateSeq S (·.pop)) _ _ _
 have sS2 := (N2 _ (.head _)).1
 have neSI : S ≠ I := fun e => by have := (N1 _ (.head _)).1; dsimp only at this; rw [e, nI] at this; cases this
 have neDI : D ≠ I := fun e => by have := (N1 _ (.tail _ hD)).1; dsimp only at this; rw [e, nI] at this; cases this
 have neDS : D ≠ S := nN _ hD
 dsimp only at sS2
 refine wpAny_bind (wpAny_updateSeq sS2 rfl ?_)
 have hS₄ := Heap.get?_update_self (Obj.mapSeq (·.push Value.none)) sS2 rfl
 refine wpAny_updateSeq (hz := by seq_fits) hS₄ rfl ?_
 have hS₅ := Heap.get?_update_self (Obj.mapSeq (·.pop)) hS₄ rfl
 have oth : ∀ b ob, b ≠ S → h2.get? b = some ob → ((h2.update S (Obj.mapSeq (·.push Value.none))).update S (Obj.mapSeq (·.pop))).get? b = some ob :=
  fun b ob hb e => (Heap.get?_update_other _ _ (Ne.symm hb)).trans ((Heap.get?_update_other _ _ (Ne.symm hb)).trans e)
 have W := (Walks.list (prog := prog) (w := w) hh I D neDI ys).toS
 refine wpAny_pure ⟨plainId_quiet PySem.F.plain_extend_loop _, codeAny_extend_loopS (A := A.in1) W (by rw [sizeLine_eq]; lia) S (by simp [neSI, Ne.symm neDS]) _ ys.size 0 _ #[] _ rfl (Nat.zero_le _) ?_ hS₅ (ItemsOf.nil _) fun s' acc' c' hm hS' hacc => ?_⟩
 ·exact ⟨hI.at fun ob e => oth _ _ (Ne.symm neSI) e, ⟨_, oth _ _ neDS (N2 _ (.tail _ hD)).1, rfl, _, rfl⟩⟩
 obtain ⟨hs', gs', ds', ts', os'⟩ := s'
 obtain ⟨m1, m2, m3, m4, m5⟩ := hm
 dsimp only at m1 m2 m3 m4 m5 hS'
 subst m2; subst m3; subst m4
 have eacc : acc' = ys := by
  obtain ⟨a1, a2⟩ := hacc
  apply Array.ext a1
  intro j h1 h2
  have : ys[j]? = some acc'[j] := a2 j acc'[j] (by simp [h1])
  rw [Array.getElem?_eq_getElem h2] at this
  exact (Option.some.inj this).symm
 subst eacc
 have all : ∀ b ob, b ≠ S → b ≠ I → h2.get? b = some ob → hs'.get? b = some ob := fun b ob hb hb2 e => m1 b ob (by simp [hb, hb2]) (oth b ob hb e)
 have nI0 : h₀.get? I = none := by
  cases e : h₀.get? I with
  | none => rfl
  | some ob => rw [F1.keep _ _ e] at nI; cases nI
 refine ⟨rfl, hret S hs' ts' c' (frMove (S := [S, I]) F2 (by simp [nL, Ne.symm nIL]) (by simp [n0, nI0]) (fun b ob hb e => ?_)) (fun p hp => ?_)⟩
 ·simp only [List.mem_cons, List.not_mem_nil, or_false, not_or] at hb
  exact all b ob hb.1 hb.2 e
 ·rcases List.mem_cons.mp hp with rfl | hp
  ·exact ⟨hS', Ne.symm nL, n0⟩
  ·refine ⟨all _ _ (nN p hp) (fun e => ?_) (N2 p (.tail _ hp)).1, (N p hp).2⟩
   have := (N1 p (.tail _ hp)).1
   rw [e, nI] at this; cases this
theorem cat_list {w : World} {mean : ExcName → Option Value} {mg mb : Str → Option Value} {news : List (Addr × Obj)} (o dx D px : Addr) (t1 t2 k : Nat) (ys : Array Value)
  (dp un : Nat) (gd : Option (List Code)) (cn : Str) (cs : Scope) (a : Addr) (ccd : Value) (cl : List (Str × Addr)) (outer : List Env) (A₀ : Around) (base h₀ : Heap) (L : Addr) (m : Str → Option Value) (s : Shared) (Q E : Value → Shared → Prop)
  (B : Below A₀ base outer h₀) (F : Fr h₀ L s.heap m) (X : (K w.params).In h₀) (N : News h₀ L s.heap news) (T : Top q0 (looseW q0 loose0) mean mg mb h₀) (hk : cs.kind = .function)
  (ho : (o, instObj 626 dx) ∈ news) (hdx : (dx, catDict w t1 t2 D px) ∈ news) (hD : (D, W.listOf ys k) ∈ news) (hsz : ys.size ≤ 65536)
  (hd : dp + 5 < 500) (hu : un + 15 < 200)
  (hret : ∀ S h' tk' k', Fr h₀ L h' m → News h₀ L h' ((S, W.listOf ys k') :: news) → Q (.ref S) { s with heap := h', toks := tk' }) :
  wpAny (model pw w) (ktrTop dp un gd cn cs L a ccd cl outer) (call (.type "list") [.ref o]) Q E s := by
 refine list_own (K := K w.params) (fI := 593) (od := some (catDict w t1 t2 D px)) F N X rfl (fun h Nh => ⟨(Nh _ ho).1, rfl, rfl, (Nh _ hdx).1⟩) hD ho (by k_is) (by k_is) (by k_is) (by k_is) hsz (fun h1 S ob Q' E' F1 N1 hq => ?_) hret
 refine cat_iter (s := { s with heap := h1 }) o dx D px t1 t2 k ys _ _ _ _ _ _ _ _ _ _ _ _ _ _ _ _ B F1 X N1 T hk (.tail _ ho) (.tail _ hdx) (.tail _ hD) ?_ ?_ (fun I h' tk' F2 N2 hI nI nL => hq I h' tk' F2 N2 hI nI nL)
 ·show dp + 5 < 500; first | exact rm1 (by assumption) rfl | lia
 ·show un + 1 + 1 + 10 < 200; lia
end
section
local macro_rules | `(tactic| walk_at "subscriptTail Name Constant ref int") => `(tactic| (refine hold ?_))
local macro_rules | `(tactic| walk_at "exec Assign cons ListComp") => `(tactic| (refine hold ?_))
section
set_option tactic.hygienic true
local macro_rules | `(tactic| walk_at "none") => `(tactic| fail)
theorem stage1 {w : World} {mean : ExcName → Option Value} {mg mb : Str → Option Value} {news : List (Addr × Obj)} (C lst nl : Addr) (oC : Obj) (ms : List (Nat × Tok)) (kn : Nat)
  (dp un : Nat) (gd : Option (List Code)) (a : Addr) (cd : Value) (h₀ : Heap) (L : Addr) (s : Shared) (Q : Flow → Shared → Prop) (E : Value → Shared → Prop)
  (F : Fr h₀ L s.heap (fun y => if y = "script" then some (.ref lst) else none)) (X : (K w.params).In h₀) (N : News h₀ L s.heap ((C, oC) :: (nl, W.listOf (intVals ms).toArray kn) :: news)) (T : Top q0 (looseW q0 loose0) mean mg mb h₀)
  (hoC : oC.data = .cell (some (.ref nl))) (h0 : 0 < ms.length)
  (hq : ∀ (t : Tok) (h' : Heap) (tk' : Nat), Fr h₀ L h' (fun y => if y = "many" then some (.int ((1 + (ms.map (·.1)).getD 0 0 % 8 : Nat) : Int) t) else if y = "script" then some (.ref lst) else none) → News h₀ L h' ((C, oC) :: (nl, W.listOf (intVals ms).toArray kn) :: news) → Q .next { s with heap := h', toks := tk' }) :
  wpAny (model pw w) (ktrTop dp un gd "law" lawScope.1 L a cd [("numbers", C)] []) (exec LS.1.s1 (lawEnv L a cd C)) Q E s := by
 delta LS lawScope
 dsimp only
 k_steps
 refine unhold ?_
 refine PyProof.Rows.item_list (items := (intVals ms).toArray) (x := .int (((ms.map (·.1)).getD 0 0 : Nat) : Int) (ms[0]'h0).2) ⟨_, (N _ (.tail _ (.head _))).1, rfl, _, rfl⟩ (by decide) (by decide) (intVals_get h0) ?_
 k_steps
 with_reducible rename Fr _ _ _ _ => F2
 with_reducible rename News _ _ _ _ => N2
 have e1 : (1 : Int) + (((ms.map (·.1)).getD 0 0 : Nat) : Int).fmod 8 = ((1 + (ms.map (·.1)).getD 0 0 % 8 : Nat) : Int) := by
  have := fmodN ((ms.map (·.1)).getD 0 0) 8
  rw [show (8 : Int) = ((8 : Nat) : Int) from rfl, this]; push_cast; rfl
 rw [e1] at F2
 exact hq _ _ _ F2 N2
theorem range_facts : ∀ n : Fin 9, Builtin.Range.small 0 ((n : Nat) : Int) 1 = true ∧ (Builtin.Range.rangeSize 0 ((n : Nat) : Int) 1 : Int) = ((n : Nat) : Int) := by decide +kernel
noncomputable abbrev mp1 (lst : Addr) (many : Nat) (t : Tok) : Str → Option Value := fun y => if y = "many" then some (.int (many : Int) t) else if y = "script" then some (.ref lst) else none
theorem stage2 {w : World} {mean : ExcName → Option Value} {mg mb : Str → Option Value} {news : List (Addr × Obj)} (C lst nl : Addr) (oC : Obj) (ms : List (Nat × Tok)) (kn many : Nat) (t : Tok)
  (dp un : Nat) (gd : Option (List Code)) (a : Addr) (cd : Value) (A₀ : Around) (h₀ : Heap) (L : Addr) (s : Shared) (Q : Flow → Shared → Prop) (E : Value → Shared → Prop)
  (B : Below A₀ h₀ [] h₀) (F : Fr h₀ L s.heap (mp1 lst many t)) (X : (K w.params).In h₀) (N : News h₀ L s.heap ((C, oC) :: (nl, W.listOf (intVals ms).toArray kn) :: news)) (T : Top q0 (looseW q0 loose0) mean mg mb h₀)
  (hoC : oC.data = .cell (some (.ref nl))) (h0 : 0 < ms.length) (hml : ms.length ≤ 100) (hm8 : many ≤ 8)
  (hd : dp + 60 < 500) (hu : un + 160 < 200)
  (hq : ∀ (fl : Addr) (fs : List (Addr × List (Nat × Tok) × Nat)) (kf : Nat) (h' : Heap) (tk' : Nat), Fr h₀ L h' (fun y => if y = "fields" then some (.ref fl) else mp1 lst many t y) →
   News h₀ L h' ((fl, W.listOf (fs.map fun p => Value.ref p.1).toArray kf) :: (fs.map (fun p => (p.1, W.listOf (intVals p.2.1).toArray p.2.2)) ++ (C, oC) :: (nl, W.listOf (intVals ms).toArray kn) :: news)) → fs.map (fun p => p.2.1.map (·.1)) = (List.range many).map (fun k => digsF 6 (fieldNum (ms.map (·.1)) k)) → Q .next { s with heap := h', toks := tk' }) :
  wpAny (model pw w) (ktrTop dp un gd "law" lawScope.1 L a cd [("numbers", C)] []) (exec LS.1.s2 (lawEnv L a cd C)) Q E s := by
 delta LS lawScope
 dsimp only
 k_steps
 refine unhold ?_
 k_dflt (refine' assignCompP (DigRel (ms.map (·.1))) ?hsw ?hL ?hh ?hclos ?hcell ?hkind ?hnames ?hx ?hy ?hp ?hs F ?_; (case hsw => with_unfolding_all rfl); (case hL => with_unfolding_all rfl); (case hh => with_unfolding_all rfl); (case hclos => with_unfolding_all rfl); (case hcell => decide); (case hkind => with_unfolding_all rfl); (case hnames => decide); (case hx => with_unfolding_all rfl); (case hy => with_unfolding_all rfl); (case hp => with_unfolding_all rfl); (case hs => intro _; with_unfolding_all rfl))
 k_steps
 rename_i h2 tk2 t1 u1 v1 hR F2 N2 hk2
 have hr := range_facts ⟨many, by lia⟩
 refine unhold ⟨_, [], many, _, _, _, _, rfl, srcRange many t1 u1 v1 hr.1 hr.2, hR, List.not_mem_nil, by rw [sizeLine_eq]; lia, F2, fun C2 i v h₃ tk₃ m₃ hi hPv hC hn' hm' F4 hk4 => ?_, fun vs D h5 tk5 ys hvl hsn hD hDL hpl F5 hP hk5 => ?_⟩
 ·obtain ⟨t', rfl⟩ := hPv
  have c1 := N2 _ (.head _)
  have c2 := N2 _ (.tail _ (.head _))
  refine elt_digs i t' C nl C2 oC ms kn h₃ tk₃ m₃ _ _ _ _ _ _ _ _ _ _ _ _ _ _ _ _ _ _ _ _ _ _ _ _ _ (by exact default) _ _ _ _ _ _ _ _ _ _ _ _ _ _ _ B F4 X T (by with_unfolding_all rfl) hn' hm' (hk4 _ _ c1.2.1 c1.1) hoC (hk4 _ _ c2.2.1 c2.1) h0 hml (by lia) (by with_unfolding_all rfl) (by with_unfolding_all rfl) (by with_unfolding_all rfl) (by with_unfolding_all rfl) (by with_unfolding_all rfl) (by with_unfolding_all rfl) ?_ ?_
  ·lia
  ·lia
 refine ob1_2 (RelAll.of hP) fun objs hrel hobjs => ?_
 refine ob1_2 (compNews F2 N2 hD hDL hpl (S := [D]) hobjs hk5) fun k5 N5 ne5 => ?_
 obtain ⟨fs, hys, rfl, hfs⟩ := dig_out (h := h5) (s0 := h2) (S := []) vs ys.toList objs 0 (fun j v e => by rw [Nat.zero_add]; exact hsn j v e) hrel
 have hys2 : ys = (fs.map fun p => Value.ref p.1).toArray := by rw [← hys, Array.toArray_toList]
 subst hys2
 rw [hvl, ← List.range_eq_range'] at hfs
 exact hq D fs k5 h5 tk5 F5 N5 hfs
end
end
end
section
open PySem.Calls PySem.SeqAt
section
set_option tactic.hygienic true
noncomputable def AsText (h : Heap) (b : Value) (y : Str) : Prop := (∃ t, b = .str y t) ∨ ∃ v tx dx sl, b = .ref v ∧ h.get? v = some (vtObj y tx dx sl)
section
variable {prog : Program} {w w₀ : World} {A : Around} {E : Value → Shared → Prop} {h : Heap} {g : Array GenState} {d : Drawn} {t : Nat} {os : OsState}
theorem asStr_ok {b : Value} {y : Str} {Q : Option Str → Shared → Prop} (hb : AsText h b y) (q : Q (some y) ⟨h, g, d, t, os⟩) : wpAny (model prog w) A (asStr? b) Q E ⟨h, g, d, t, os⟩ := by
 rcases hb with ⟨u, rfl⟩ | ⟨v, tx, dx, sl, rfl, hv⟩
 ·exact wpAny_pure q
 ·delta asStr?
  exact wpAny_bind (wpAny_load hv (wpAny_pure q))
theorem str_beq2 (x y : Str) : (x.cps.toList == y.cps.toList) = (x == y) := str_beq x y
theorem eq_args (a b : Value) : argsOk "str.__eq__" ⟨[a, b], []⟩ := by unfold argsOk; kernel_rfl
theorem ne_args (a b : Value) : argsOk "str.__ne__" ⟨[a, b], []⟩ := by unfold argsOk; kernel_rfl
theorem call_strEq (X : (K w₀.params).In h) {v dx : Addr} {b : Value} {x y : Str} {tx : Tok} {sl : Array (Option Value)} {Q : Value → Shared → Prop} (hv : h.get? v = some (vtObj x tx dx sl)) (hb : AsText h b y) (q : Q (.bool (x == y)) ⟨h, g, d, t, os⟩) :
  wpAny (model prog w) A (call (.builtin "str.__eq__") [.ref v, b]) Q E ⟨h, g, d, t, os⟩ := by
 have hi : Looks (model prog w) h (isInstance (.ref v) (.type "str")) true := by
  have L0 : Looks (model prog w) h (typeOf (.ref v)) (.ref 387) := (Looks.ld hv).andThen .now
  exact L0.andThen (looks_mroIn X (by k_is))
 refine wpAny_call (codeAny_call_builtin PySem.F.slot_str_eq.plain PySem.F.entry_str_eq (@check_slot (model prog w) _ _ ⟨h, g, d, t, os⟩ "str.__eq__" "str" "__eq__" (.ref v) [b] [] _ (by decide +kernel) (by decide +kernel) hi (eq_args _ _) ?_))
 show wpAny _ _ (Builtin.Str.strCompare "__eq__" (· == ·) ⟨[.ref v, b], []⟩) _ _ _
 delta Builtin.Str.strCompare Builtin.Str.strSlot Builtin.Str.textOf
 refine wpAny_bind (wpAny_bind (wpAny_of_eq (show PySem.slotArgs "__eq__" 1 ⟨[.ref v, b], []⟩ = pure (.ref v, [b]) from rfl) ?_))
 dsimp only
 refine wpAny_bind (wpAny_bind (asStr_ok (.inr ⟨v, tx, dx, sl, rfl, hv⟩) ?_))
 dsimp only
 refine wpAny_pure (wpAny_pure ?_)
 dsimp only
 refine wpAny_bind (asStr_ok hb ?_)
 dsimp only
 refine wpAny_pure ?_
 rw [str_beq2]
 exact q
theorem eq_bind (self : Value) : bindSpecial (.builtin "str.__eq__") self = pure (.builtin "str.__eq__", [self]) :=
 PySem.F.slot_str_eq.bind self
theorem rcT (X : (K w₀.params).In h) {v dx : Addr} {b : Value} {x y : Str} {tx : Tok} {sl : Array (Option Value)} (hv : h.get? v = some (vtObj x tx dx sl)) (hb : AsText h b y) (hu : A.units < cLine) : RcAt A ⟨h, g, d, t, os⟩ (.ref v) b (x == y) := fun prog w E Q q => by
 have L0 : Looks (model prog w) h (typeOf (.ref v)) (.ref 387) := (Looks.ld hv).andThen .now
 delta richCompare
 refine wpAny_holding ?_
 refine wpAny_bind (wpAny_cRoomFor hu ?_)
 have e1 : oneThing? CmpOp.Eq (.ref v) b = none := by rcases hb with ⟨u, rfl⟩ | ⟨v, tx, dx, sl, rfl, hv⟩ <;> rfl
 rw [e1]
 dsimp only [cmpInfo]
 refine wpAny_bind (L0.here ?_)
 have tail : wpAny (model prog w) A (tryCompare (.ref v) "__eq__" b) (fun r s => r = some (.bool (x == y)) ∧ s = ⟨h, g, d, t, os⟩) E ⟨h, g, d, t, os⟩ := by
  delta tryCompare callSpecialIfBound? bindSpecialIfBound?
  refine wpAny_bind (wpAny_holding (wpAny_bind (wpAny_bind ?_)))
  refine wpAny_bind (L0.here ?_)
  refine (looks_findIn X (show findIn (K w₀.params) (.ref 387) "__eq__" = some (some (.builtin "str.__eq__")) by k_is)).here ?_
  dsimp only
  refine wpAny_bind (wpAny_askSetting ?_)
  rw [eq_bind]
  have fin : wpAny (model prog w) A (call (.builtin "str.__eq__") ([.ref v] ++ [b])) (fun r s => r = .bool (x == y) ∧ s = ⟨h, g, d, t, os⟩) E ⟨h, g, d, t, os⟩ := call_strEq X hv hb ⟨rfl, rfl⟩
  have fin2 : ∀ Q' : Option Value → Shared → Prop, Q' (some (.bool (x == y))) ⟨h, g, d, t, os⟩ → wpAny (model prog w) A (do return some (← call (.builtin "str.__eq__") ([.ref v] ++ [b]))) Q' E ⟨h, g, d, t, os⟩ := fun Q' q' =>
   wpAny_bind (_root_.PySem.wpAny_mono fin (fun r s' hr => by obtain ⟨rfl, rfl⟩ := hr; exact wpAny_pure q') fun u' u' z => z)
  split
  ·exact wpAny_bind (wpAny_pure (wpAny_pure (fin2 _ (wpAny_pure ⟨rfl, rfl⟩))))
  ·exact wpAny_tryCatch (wpAny_bind (wpAny_pure (wpAny_pure (fin2 _ (wpAny_pure ⟨rfl, rfl⟩)))))
 rcases hb with ⟨u, rfl⟩ | ⟨v', tx', dx', sl', rfl, hv'⟩
 ·refine wpAny_bind (wpAny_of_eq (show typeOf (.str y u) = pure (.type "str") from rfl) ?_)
  refine w_if (by rfl) ?_
  refine wpAny_bind (wpAny_of_eq (show isSubtype (.type "str") (.ref 387) = pure false by rw [isSubtype_type]; kernel_rfl) ?_)
  rw [if_neg Bool.false_ne_true]
  refine wpAny_bind (_root_.PySem.wpAny_mono tail (fun r s' hr => ?_) fun u' u' z => z)
  obtain ⟨rfl, rfl⟩ := hr
  exact wpAny_pure q
 ·have L1 : Looks (model prog w) h (typeOf (.ref v')) (.ref 387) := (Looks.ld hv').andThen .now
  refine wpAny_bind (L1.here ?_)
  refine w_else (by simp) ?_
  refine wpAny_bind (wpAny_pure ?_)
  rw [if_neg Bool.false_ne_true]
  refine wpAny_bind (_root_.PySem.wpAny_mono tail (fun r s' hr => ?_) fun u' u' z => z)
  obtain ⟨rfl, rfl⟩ := hr
  exact wpAny_pure q
theorem eqT (X : (K w₀.params).In h) {v dx : Addr} {b : Value} {x y : Str} {tx : Tok} {sl : Array (Option Value)} (hv : h.get? v = some (vtObj x tx dx sl)) (hb : AsText h b y) (hu : A.units < cLine) : EqAt A ⟨h, g, d, t, os⟩ (.ref v) b (x == y) := fun prog w E Q q => by
 delta eqBool
 refine wpAny_holding ?_
 split
 ·rename_i e
  have e' : Value.ref v = b := eq_of_beq e
  have : x = y := by
   rcases hb with ⟨u, rfl⟩ | ⟨v', tx', dx', sl', rfl, hv'⟩
   ·cases e'
   ·injection e' with e2
    subst e2
    rw [hv] at hv'
    have := Option.some.inj hv'
    injection this with a1 a2 a3 a4
    injection a3 with b1
    injection b1
  rw [this, beq_self_eq_true] at q
  exact wpAny_bind (wpAny_rule (wpAny_pure q))
 ·have r := rcT (g := g) (d := d) (t := t) (os := os) X hv hb hu prog w E
  rcases hb with ⟨u, rfl⟩ | ⟨v', tx', dx', sl', rfl, hv'⟩
  ·exact wpAny_bind (r _ (wpAny_truthy_bool q))
  ·exact wpAny_bind (r _ (wpAny_truthy_bool q))
end
end
section
theorem tl_entry : entryFor table "tuple.__len__" = some Builtin.«tuple.__len__» := entryFor_of_tree (by kernel_rfl)
theorem tl_args (a : Value) : argsOk "tuple.__len__" ⟨[a], []⟩ := by unfold argsOk; kernel_rfl
theorem ln_entry : entryFor table "len" = some Builtin.«len» := entryFor_of_tree (by kernel_rfl)
theorem ln_args (a : Value) : argsOk "len" ⟨[a], []⟩ := by unfold argsOk; kernel_rfl
theorem tl_bind (x : Value) : bindSpecial (.builtin "tuple.__len__") x = pure (.builtin "tuple.__len__", [x]) := by
 have hop : withoutEnding? "tuple.__len__" "#opaque" = none := by decide +kernel
 have hdat : withoutEnding? "tuple.__len__" "#data" = none := by decide +kernel
 have hk : builtinKind "tuple.__len__" = some .slot := by decide +kernel
 simp only [bindSpecial, typeOf, builtinType, hop, hdat, hk]; rfl
section
variable {prog : Program} {w : World} {A : Around} {E : Value → Shared → Prop} {s : Shared} {K : Frag} {C x : Addr} {ob : Obj} {items : Array Value} {n : Nat}
theorem len_sub {Q : Value → Shared → Prop} (X : K.In s.heap) (hx : s.heap.get? x = some ob) (hc : ob.cls = .ref C) (hd : ob.data = .seq items n) (hfit : (items.size : Int) < 2 ^ 63)
  (hs : findIn K (.ref C) "__len__" = some (some (.builtin "tuple.__len__"))) (hm : mroIn K C (.type "tuple") = some true) (hq : ∀ t k, Q (.int items.size t) { s with toks := k }) :
  wpAny (model prog w) A (call (.builtin "len") [.ref x]) Q E s := by
 have L0 : Looks (model prog w) s.heap (typeOf (.ref x)) (.ref C) := by rw [← hc]; exact (Looks.ld hx).andThen .now
 have hi : Looks (model prog w) s.heap (isInstance (.ref x) (.type "tuple")) true := L0.andThen (looks_mroIn X hm)
 have fin : ∀ (Q' : Option Value → Shared → Prop) (E' : Value → Shared → Prop), (∀ t k, Q' (some (.int items.size t)) { s with toks := k }) → wpAny (model prog w) A.in1 (do return some (← call (.builtin "tuple.__len__") [.ref x])) Q' E' s := fun Q' E' q' => by
  refine wpAny_bind (wpAny_call (codeAny_call_builtin (by decide +kernel) tl_entry (@check_slot (model prog w) _ _ s "tuple.__len__" "tuple" "__len__" (.ref x) [] [] _ (by decide +kernel) (by decide +kernel) hi (tl_args _) ?_)))
  delta Builtin.«tuple.__len__»
  refine wpAny_bind (wpAny_of_eq (show PySem.slotArgs "__len__" 0 ⟨[.ref x], []⟩ = pure (.ref x, []) from rfl) ?_)
  dsimp only
  refine wpAny_bind (m := Builtin.Tuple.tupleItemsOf (.ref x)) (wpAny_bind (m := seqItems? (.ref x)) (wpAny_seqItems hx hd (wpAny_pure ?_)))
  exact wpAny_bind (wpAny_mkInt (wpAny_pure (wpAny_pure (q' _ _))))
 refine call_function_entry kind_len plain_len entry_len (args_len1 _) ?_
 delta Builtin.«len»
 refine wpAny_bind (m := oneArg "len" _) (wpAny_pure ?_)
 refine wpAny_bind (m := callSpecial? (.ref x) (Str.ofString "__len__")) ?_
 delta callSpecial?
 refine wpAny_bind (show wpAny _ _ (specialOf _ _) _ _ _ from wpAny_bind (L0.here ((looks_findIn X hs).here ?_)))
 refine wpAny_holding ?_
 rw [tl_bind]
 refine wpAny_bind (wpAny_pure (fin _ _ fun t k => ?_))
 dsimp only
 refine wpAny_bind (wpAny_holding (wpAny_pure ?_))
 refine wpAny_bind (wpAny_letGo ?_)
 rw [if_neg (by lia), if_neg (by lia)]
 exact wpAny_bind (wpAny_mkInt (wpAny_pure ⟨_, rfl, hq _ _⟩))
theorem collect_sub {vs : List Value} {Q : List Value → Shared → Prop} (hh : A.in1.handled = none) (X : K.In s.heap) (hx : s.heap.get? x = some ob) (hc : ob.cls = .ref C) (hd : ob.data = .seq vs.toArray n) (hsz : vs.length ≤ 1000)
  (hs : findIn K (.ref C) "__len__" = some (some (.builtin "tuple.__len__"))) (hi : findIn K (.ref C) "__iter__" = some (some (.builtin "tuple.__iter__"))) (hm : mroIn K C (.type "tuple") = some true)
  (hq : ∀ h' tk', (∀ b o', s.heap.get? b = some o' → h'.get? b = some o') → Q vs { s with heap := h', toks := tk' }) :
  wpAny (model prog w) A (collect (.ref x)) Q E s := by
 delta collect
 refine wpAny_bind (wpAny_runValue (codeAny_builtin PySem.F.entry_proto_collect ?_))
 rw [Around.under_plainId PySem.F.plain_proto_collect _]
 show wpAny _ A.in1 (newList [] >>= fun l => again (.builtin "list.__iadd__" ⟨[l, .ref x], []⟩)) _ _ s
 refine wpAny_bind (wpAny_newObj_type ?_)
 refine wpAny_pure ⟨plainId_quiet PySem.F.plain_list_iadd _, codeAny_builtin PySem.F.entry_list_iadd ?_⟩
 rw [Around.under_plainId PySem.F.plain_list_iadd _]
 show wpAny _ A.in1 (Builtin.List.listExtendWith (.ref s.heap.objs.size) (.ref x) (.ref s.heap.objs.size)) _ _ _
 have nS : s.heap.get? s.heap.objs.size = none := by
  cases e : s.heap.get? s.heap.objs.size with
  | none => rfl
  | some ob => exact absurd (Heap.lt_size e) (Nat.lt_irrefl _)
 have hS : (s.heap.push { cls := .type "list", data := .seq ([] : List Value).toArray }).get? s.heap.objs.size = some { cls := .type "list", data := .seq #[] } := Heap.get?_push_size _ rfl
 have oldP : ∀ b ob, s.heap.get? b = some ob → (s.heap.push { cls := .type "list", data := .seq ([] : List Value).toArray }).get? b = some ob := fun b ob e => Heap.get?_push_of_some _ e
 have hsize : (s.heap.push { cls := .type "list", data := .seq ([] : List Value).toArray }).objs.size = s.heap.objs.size + 1 := Heap.size_push ..
 generalize s.heap.push { cls := .type "list", data := .seq ([] : List Value).toArray } = h1 at *
 have hxS : x ≠ s.heap.objs.size := fun e => by rw [e, nS] at hx; cases hx
 have X1 : K.In h1 := fun b o e => oldP b o (X b o e)
 have hx1 := oldP _ _ hx
 have L1 : Looks (model prog w) h1 (typeOf (.ref x)) (.ref C) := by rw [← hc]; exact (Looks.ld hx1).andThen .now
 delta Builtin.List.listExtendWith
 refine wpAny_bind (L1.here ?_)
 have z1 : Builtin.List.listSameRef (.ref s.heap.objs.size) (.ref x) = false := by simp [Builtin.List.listSameRef]; exact fun e => hxS e.symm
 have z2 : (Value.ref C == Value.type "list") = false := rfl
 have z3 : (Value.ref C == Value.type "tuple") = false := rfl
 simp only [z1, z2, z3, Bool.or_false, Bool.false_eq_true, if_false]
 refine wpAny_bind (iterSub X1 hx1 hc hd hi hm ?_)
 dsimp only
 have hI : (h1.push (tupIter x)).get? h1.objs.size = some (tupIter x) := Heap.get?_push_size _ rfl
 have old2 : ∀ b ob, h1.get? b = some ob → (h1.push (tupIter x)).get? b = some ob := fun b ob e => Heap.get?_push_of_some _ e
 have nI : h1.get? h1.objs.size = none := by
  cases e : h1.get? h1.objs.size with
  | none => rfl
  | some ob => exact absurd (Heap.lt_size e) (Nat.lt_irrefl _)
 generalize h1.push (tupIter x) = h2 at *
 generalize h1.objs.size = I at *
 have X2 : K.In h2 := fun b o e => old2 b o (X1 b o e)
 have hx2 := old2 _ _ hx1
 have L2 : Looks (model prog w) h2 (typeOf (.ref x)) (.ref C) := by rw [← hc]; exact (Looks.ld hx2).andThen .now
 have hi2 : Looks (model prog w) h2 (isInstance (.ref x) (.type "tuple")) true := L2.andThen (looks_mroIn X2 hm)
 refine wpAny_bind (wpAny_holding ?_)
 delta Builtin.List.listLengthHint
 refine wpAny_bind (show wpAny _ _ (specialOf _ _) _ _ _ from wpAny_bind (L2.here ((looks_findIn X2 hs).here ?_)))
 wp_delta
 refine wpAny_bind (hi2.here ?_)
 show wpAny _ A.in1 (typeOf (Value.ref x) >>= _) _ _ _
 refine wpAny_bind (L2.here ?_)
 have hSI : s.heap.objs.size ≠ I := fun e => absurd (e.trans hsize) (Nat.ne_of_lt (Nat.lt_succ_self _))
 have hxI : x ≠ I := fun e => by rw [e, nI] at hx1; cases hx1
 have nIs : s.heap.get? I = none := by
  cases e : s.heap.get? I with
  | none => rfl
  | some ob => exact absurd (Heap.lt_size e) (by rw [hsize]; exact Nat.not_lt.mpr (Nat.le_succ _))
 have loop : ∀ (h3 : Heap) (c tk3 : Nat), h3.get? s.heap.objs.size = some { cls := .type "list", dict := none, data := .seq #[] c, slots := #[] } → (∀ b o, b ≠ s.heap.objs.size → h2.get? b = some o → h3.get? b = some o) →
   codeAny (model prog w) A (.builtin "list.extend.loop" ⟨[.ref s.heap.objs.size, .ref I, .ref s.heap.objs.size], []⟩) (fun r s' => match r with | .ok (.ret v) => wpAny (model prog w) A (match v with | .ref a => do (match (← load a).data with | .seq xs _ => pure xs.toList | _ => unsupported "internal:collect") | _ => unsupported "internal:collect") Q E s' | .ok _ => False | .error e => E e s') { s with heap := h3, toks := tk3 } := by
  intro h3 c tk3 hS3 old3
  have hI3 : h3.IsTupleIter I x 0 := ⟨_, old3 _ _ (Ne.symm hSI) hI, rfl, rfl⟩
  have hx3 : SeqOf h3 x vs.toArray := ⟨ob, n, old3 _ _ hxS hx2, hd⟩
  have W := (walkSeq (prog := prog) (w := w) (A := A.in1) hh I x hxI vs).toS
  refine codeAny_extend_loopS (A := A) W (by rw [sizeLine_eq]; lia) s.heap.objs.size (by simp [hSI, Ne.symm hxS]) _ vs.length 0 _ #[] c rfl (Nat.zero_le _) ⟨hI3, hx3⟩ hS3 (ItemsOf.nil _) fun s' acc' c' hm' hS' hacc => ?_
  obtain ⟨hs', gs', ds', ts', os'⟩ := s'
  obtain ⟨m1, m2, m3, m4, m5⟩ := hm'
  dsimp only at m1 m2 m3 m4 m5 hS'
  subst m2; subst m3; subst m4
  have eacc : acc' = vs.toArray := by
   obtain ⟨a1, a2⟩ := hacc
   apply Array.ext
   ·simpa using a1
   intro j h1 h2
   have : vs[j]? = some acc'[j] := a2 j acc'[j] (by simp [h1])
   rw [List.getElem_toArray]
   rw [List.getElem?_eq_getElem (by simpa using h2)] at this
   exact (Option.some.inj this).symm
  subst eacc
  refine wpAny_bind (wpAny_load hS' ?_)
  refine wpAny_pure ?_
  refine hq hs' ts' (fun b o' e => m1 b o' ?_ (old3 _ _ ?_ (old2 _ _ (oldP _ _ e))))
  ·intro hb
   rcases List.mem_cons.mp hb with q | q
   ·rw [q, nS] at e; cases e
   ·rw [List.mem_singleton.mp q, nIs] at e; cases e
  ·exact fun q => by rw [q, nS] at e; cases e
 dsimp only
 refine wpAny_bind (len_sub X2 hx2 hc hd (by simp; lia) hs hm (fun t k => ?_))
 refine wpAny_bind (m := asInt? _) (wpAny_pure ?_)
 dsimp only
 refine wpAny_pure ?_
 have hS2 := old2 _ _ hS
 by_cases hv : (((vs.toArray.size : Nat) : Int) != 0) = true
 ·rw [hv]
  simp only [Bool.true_or, if_true]
  refine wpAny_bind (wpAny_rule ?_)
  refine wpAny_bind ?_
  show wpAny _ A.in1 (updateSeq s.heap.objs.size (·.push .none) >>= fun u' => updateSeq s.heap.objs.size (·.pop)) _ _ _
  refine wpAny_bind (wpAny_updateSeq hS2 rfl ?_)
  have hS₄ := Heap.get?_update_self (Obj.mapSeq (·.push Value.none)) hS2 rfl
  refine wpAny_updateSeq (hz := by seq_fits) hS₄ rfl ?_
  have hS₅ := Heap.get?_update_self (Obj.mapSeq (·.pop)) hS₄ rfl
  refine wpAny_pure ⟨plainId_quiet PySem.F.plain_extend_loop _, loop _ _ _ hS₅ (fun b o hb e => (Heap.get?_update_other _ _ (Ne.symm hb)).trans ((Heap.get?_update_other _ _ (Ne.symm hb)).trans e))⟩
 ·rw [Bool.not_eq_true] at hv
  rw [hv]
  refine wpAny_ite ?_
  refine (if_neg (fun e => Bool.noConfusion (show false = true from e))).mpr ?_
  exact wpAny_pure ⟨plainId_quiet PySem.F.plain_extend_loop _, loop _ _ _ hS2 (fun b o u' e => e)⟩
end
theorem meets_tuple_sub {K : Frag} {C : Addr} {ob : Obj} {n : Nat} (x : Addr) (vs : List Value) (hc : ob.cls = .ref C) (hd : ob.data = .seq vs.toArray n) (hsz : vs.length ≤ 1000)
  (hs : findIn K (.ref C) "__len__" = some (some (.builtin "tuple.__len__"))) (hi : findIn K (.ref C) "__iter__" = some (some (.builtin "tuple.__iter__"))) (hm : mroIn K C (.type "tuple") = some true) :
  Meets (Builtin.«tuple.__new__» ⟨[.type "tuple", .ref x], []⟩)
   (fun A R s => A.handled = none ∧ K.In s.heap ∧ s.heap.get? x = some ob ∧ ∀ (h' : Heap) (tk' : Nat), (∀ b o', s.heap.get? b = some o' → h'.get? b = some o') → R (.ok (.ret (.ref h'.objs.size))) { s with heap := h'.push { cls := .type "tuple", data := .seq vs.toArray }, toks := tk' }) :=
 .of_wp fun prog w A R s h => by
  refine ob0_4 h fun hh X hx h => ?_
  have hsub := sub_tuple_self
  have hinit := init_tuple_lookup
  have hmh := madeHere_tuple
  have L0 : Looks (model prog w) s.heap (typeOf (.ref x)) (.ref C) := by rw [← hc]; exact (Looks.ld hx).andThen .now
  have hty : ∀ {A : Around} {Q : Value → Shared → Prop} {E : Value → Shared → Prop}, Q (.ref C) s → wpAny (model prog w) A (typeOf (.ref x)) Q E s := fun q => L0.here q
  have hcol : ∀ {Q : List Value → Shared → Prop} {E : Value → Shared → Prop}, (∀ h' tk', (∀ b o', s.heap.get? b = some o' → h'.get? b = some o') → Q vs { s with heap := h', toks := tk' }) → wpAny (model prog w) A.in1 (collect (.ref x)) Q E s := fun q => collect_sub (A := A.in1) hh X hx hc hd hsz hs hi hm q
  wp_walk using hty, hcol
  intro h' tk' hk
  refine wpAny_bind (wpAny_pure ?_)
  show wpAny _ _ (Builtin.Tuple.tupleExact vs.toArray >>= fun v => ret v) _ _ _
  delta Builtin.Tuple.tupleExact
  refine wpAny_bind (wpAny_newObj_type ?_ (by show vs.toArray.size ≤ sizeLine; rw [sizeLine_eq, List.size_toArray]; lia))
  exact wpAny_pure ⟨_, rfl, h h' tk' hk⟩
theorem tuple_sub {prog : Program} {w : World} {A : Around} {E : Value → Shared → Prop} {s : Shared} {K : Frag} {C x : Addr} {ob : Obj} {n : Nat} {vs : List Value} {Q : Value → Shared → Prop} {h₀ : Heap} {L : Addr} {m : Str → Option Value} {news : List (Addr × Obj)}
  (hh : A.handled = none) (F : Fr h₀ L s.heap m) (N : News h₀ L s.heap news) (X : K.In s.heap) (hx : s.heap.get? x = some ob) (hc : ob.cls = .ref C) (hd : ob.data = .seq vs.toArray n) (hsz : vs.length ≤ 1000)
  (hs : findIn K (.ref C) "__len__" = some (some (.builtin "tuple.__len__"))) (hi : findIn K (.ref C) "__iter__" = some (some (.builtin "tuple.__iter__"))) (hm : mroIn K C (.type "tuple") = some true)
  (hq : ∀ t h' tk', Fr h₀ L h' m → News h₀ L h' ((t, ⟨.type "tuple", none, .seq vs.toArray 0, #[]⟩) :: news) → Q (.ref t) { s with heap := h', toks := tk' }) :
  wpAny (model prog w) A (call (.type "tuple") [.ref x]) Q E s := by
 refine callType_new PySem.F.called_tuple (by decide) (PySem.F.typeCall_tuple_1 _) (PySem.F.newCall_tuple_1 _) (fun obj => PySem.F.args_object_init_2 obj _) PySem.F.entry_tuple_new
  (meets_tuple_sub x vs hc hd hsz hs hi hm) ⟨hh, X, hx, fun h' tk' hk => ⟨⟨_, Heap.get?_push_size _ rfl, rfl⟩, ?_⟩⟩
 have F' := F.keeps hk
 have N' : News h₀ L h' news := fun p hp => ⟨hk _ _ (N p hp).1, (N p hp).2⟩
 exact hq _ _ _ (F'.push _) (N'.push F' _)
end
section
noncomputable def StrsAt (xs : Array Value) (ls : List (List Nat)) : Prop := xs.size = ls.length ∧ ∀ j (h : j < xs.size), ∃ l t, ls[j]? = some l ∧ xs[j] = .str (strOf l) t
noncomputable def VtsAt (h : Heap) (xs : Array Value) (ls : List (List Nat)) : Prop := xs.size = ls.length ∧ ∀ j (_ : j < xs.size), ∃ l v tx dx sl, ls[j]? = some l ∧ xs[j] = .ref v ∧ h.get? v = some (vtObj (strOf l) tx dx sl)
theorem strsAt_txs (ts : List (List Nat × Tok)) : StrsAt (txs ts).toArray (ts.map (·.1)) := by
 refine ⟨by simp [txs_len], fun j hj => ?_⟩
 have hj' : j < ts.length := by simpa [txs_len] using hj
 exact ⟨ts[j].1, ts[j].2, by simp [hj'], by simp [txs, strValues]⟩
theorem vtsAt_of {h : Heap} : ∀ (ts : List (List Nat × Tok)) (ys : List Value) (objs : List (Addr × Obj)), RelAll VtRel (txs ts) ys objs → (∀ p ∈ objs, h.get? p.1 = some p.2) → VtsAt h ys.toArray (ts.map (·.1))
 | [], ys, objs, hr, ho => by cases hr; exact ⟨rfl, fun j hj => absurd hj (Nat.not_lt_zero _)⟩
 | t :: ts, ys, objs, hr, ho => by
  cases hr with
  | @cons v y objs os vs ys h1 h2 =>
   obtain ⟨ih1, ih2⟩ := vtsAt_of ts ys os h2 fun p hp => ho p (List.mem_append_right _ hp)
   refine ⟨by simpa using ih1, fun j hj => ?_⟩
   cases j with
   | zero =>
    obtain ⟨l, tx, vv, dx, tx', sl, e1, rfl, rfl⟩ := h1
    have e2 : t.1 = l := by injection e1 with b1; exact strOf_inj b1
    exact ⟨l, vv, tx', dx, sl, by simp [e2], rfl, ho _ (List.mem_append_left _ (.head _))⟩
   | succ j =>
    have hj' : j < ys.toArray.size := by simpa using hj
    refine ob5_3 (ih2 j hj') fun l v tx dx sl a1 a2 a3 => ?_
    exact ⟨l, v, tx, dx, sl, by simpa using a1, by simpa using a2, a3⟩
theorem beq_strOf (a b : List Nat) : (strOf a == strOf b) = decide (a = b) := by
 by_cases h : a = b
 ·simp [h]
 ·have : ¬ strOf a = strOf b := fun e => h (strOf_inj e)
  simp [h, this]
section
variable {A : Around} {s : Shared} {w₀ : World}
theorem el_SS {xs ys : Array Value} {ls ms : List (List Nat)} (hx : StrsAt xs ls) (hy : StrsAt ys ms) (j : Nat) (h1 : j < xs.size) (h2 : j < ys.size) : EqAt A s xs[j] ys[j] (decide (ls[j]? = ms[j]?)) := by
 refine ob2_2 (hx.2 j h1) fun l t a1 a2 => ?_
 refine ob2_2 (hy.2 j h2) fun l' t' b1 b2 => ?_
 rw [a1, a2, b1, b2]
 have := EqAt.str_str (A := A) (s := s) (strOf l) t (strOf l') t'
 rw [beq_strOf] at this
 simpa using this
theorem el_VS (X : (K w₀.params).In s.heap) (hu : A.units < cLine) {xs ys : Array Value} {ls ms : List (List Nat)} (hx : VtsAt s.heap xs ls) (hy : StrsAt ys ms) (j : Nat) (h1 : j < xs.size) (h2 : j < ys.size) : EqAt A s xs[j] ys[j] (decide (ls[j]? = ms[j]?)) := by
 refine ob5_3 (hx.2 j h1) fun l v tx dx sl a1 a2 a3 => ?_
 refine ob2_2 (hy.2 j h2) fun l' t' b1 b2 => ?_
 obtain ⟨hh, g, d, t, os⟩ := s
 rw [a1, a2, b1, b2]
 have := eqT (A := A) (g := g) (d := d) (t := t) (os := os) X a3 (.inl ⟨t', rfl⟩ : AsText hh (.str (strOf l') t') (strOf l')) hu
 rw [beq_strOf] at this
 simpa using this
theorem el_VV (X : (K w₀.params).In s.heap) (hu : A.units < cLine) {xs ys : Array Value} {ls ms : List (List Nat)} (hx : VtsAt s.heap xs ls) (hy : VtsAt s.heap ys ms) (j : Nat) (h1 : j < xs.size) (h2 : j < ys.size) : EqAt A s xs[j] ys[j] (decide (ls[j]? = ms[j]?)) := by
 refine ob5_3 (hx.2 j h1) fun l v tx dx sl a1 a2 a3 => ?_
 refine ob5_3 (hy.2 j h2) fun l' v' tx' dx' sl' b1 b2 b3 => ?_
 obtain ⟨hh, g, d, t, os⟩ := s
 rw [a1, a2, b1, b2]
 have := eqT (A := A) (g := g) (d := d) (t := t) (os := os) X a3 (.inr ⟨v', tx', dx', sl', rfl, b3⟩ : AsText hh (.ref v') (strOf l')) hu
 rw [beq_strOf] at this
 simpa using this
theorem all_range {ls ms : List (List Nat)} (h : ls.length = ms.length) : ((List.range ls.length).all fun j => decide (ls[j]? = ms[j]?)) = decide (ls = ms) := by
 rw [Bool.eq_iff_iff, decide_eq_true_eq, List.all_eq_true]
 constructor
 ·intro k
  apply List.ext_getElem?
  intro j
  by_cases hj : j < ls.length
  ·simpa using k j (List.mem_range.mpr hj)
  ·rw [List.getElem?_eq_none (by lia), List.getElem?_eq_none (by lia)]
 ·rintro rfl j _; simp
theorem rc_lists {l b : Addr} {xs ys : Array Value} {ls ms : List (List Nat)} (hl : s.heap.IsList l xs) (hb : s.heap.IsList b ys) (n1 : xs.size = ls.length) (n2 : ys.size = ms.length) (hu : A.units < cLine)
  (he : ∀ j (h1 : j < xs.size) (h2 : j < ys.size), EqAt A.in1 s xs[j] ys[j] (decide (ls[j]? = ms[j]?))) : RcAt A s (.ref l) (.ref b) (decide (ls = ms)) := by
 by_cases hsz : xs.size = ys.size
 ·have := RcAt.lists (e := fun j => decide (ls[j]? = ms[j]?)) hl hb hsz hu he
  rwa [n1, all_range (by lia)] at this
 ·have : decide (ls = ms) = false := decide_eq_false fun e => hsz (by rw [n1, n2, e])
  rw [this]
  exact RcAt.lists_lengths hl hb (by simpa using hsz) hu
theorem rn_lists {l b : Addr} {xs ys : Array Value} {ls ms : List (List Nat)} (hl : s.heap.IsList l xs) (hb : s.heap.IsList b ys) (n1 : xs.size = ls.length) (n2 : ys.size = ms.length) (hu : A.units < cLine)
  (he : ∀ j (h1 : j < xs.size) (h2 : j < ys.size), EqAt A.in1 s xs[j] ys[j] (decide (ls[j]? = ms[j]?))) {e : Bool} (hdc : (!decide (ls = ms)) = e) : RcNeAt A s (.ref l) (.ref b) e := by
 subst hdc
 by_cases hsz : xs.size = ys.size
 ·have := RcNeAt.lists (e := fun j => decide (ls[j]? = ms[j]?)) hl hb hsz hu he
  rwa [n1, all_range (by lia)] at this
 ·have : decide (ls = ms) = false := decide_eq_false fun e => hsz (by rw [n1, n2, e])
  rw [this]
  exact RcNeAt.lists_lengths hl hb (by simpa using hsz) hu
theorem all_min {ls ms : List (List Nat)} : ((List.range (min ls.length ms.length)).all (fun j => decide (ls[j]? = ms[j]?)) && ls.length == ms.length) = decide (ls = ms) := by
 by_cases h : ls.length = ms.length
 ·rw [← h, Nat.min_self, all_range h]; simp
 ·have h1 : (ls.length == ms.length) = false := by simpa using h
  have h2 : decide (ls = ms) = false := decide_eq_false fun e => h (by rw [e])
  rw [h1, h2, Bool.and_false]
theorem rc_tuples {l b : Addr} {xs ys : Array Value} {ls ms : List (List Nat)} (hl : s.heap.IsTuple l xs) (hb : s.heap.IsTuple b ys) (n1 : xs.size = ls.length) (n2 : ys.size = ms.length) (hu : A.units < cLine)
  (he : ∀ j (h1 : j < xs.size) (h2 : j < ys.size), EqAt A.in1 s xs[j] ys[j] (decide (ls[j]? = ms[j]?))) : RcAt A s (.ref l) (.ref b) (decide (ls = ms)) := by
 have := RcAt.tuples (e := fun j => decide (ls[j]? = ms[j]?)) hl hb hu he
 rwa [n1, n2, all_min] at this
theorem rn_tuples {l b : Addr} {xs ys : Array Value} {ls ms : List (List Nat)} (hl : s.heap.IsTuple l xs) (hb : s.heap.IsTuple b ys) (n1 : xs.size = ls.length) (n2 : ys.size = ms.length) (hu : A.units < cLine)
  (he : ∀ j (h1 : j < xs.size) (h2 : j < ys.size), EqAt A.in1 s xs[j] ys[j] (decide (ls[j]? = ms[j]?))) {e : Bool} (hdc : (!decide (ls = ms)) = e) : RcNeAt A s (.ref l) (.ref b) e := by
 subst hdc
 have := RcNeAt.tuples (e := fun j => decide (ls[j]? = ms[j]?)) hl hb hu he
 rwa [n1, n2, all_min] at this
end
end
section
local macro_rules | `(tactic| walk_at "getAttr ref") => `(tactic| (refine hold ?_))
section
local macro_rules | `(tactic| walk_at "compareOp Eq ref ref") => `(tactic| (refine hold ?_))
theorem cat_eq {w : World} {mean : ExcName → Option Value} {mg mb : Str → Option Value} {news : List (Addr × Obj)} (o o' : Addr) (xs xs' : List (List Nat)) (C : Cat w news o xs) (C' : Cat w news o' xs')
  (dp un : Nat) (gd : Option (List Code)) (cn : Str) (cs : Scope) (a : Addr) (ccd : Value) (cl : List (Str × Addr)) (outer : List Env) (A₀ : Around) (base h₀ : Heap) (L : Addr) (m : Str → Option Value) (s : Shared) (Q E : Value → Shared → Prop)
  (B : Below A₀ base outer h₀) (F : Fr h₀ L s.heap m) (X : (K w.params).In h₀) (N : News h₀ L s.heap news) (T : Top q0 (looseW q0 loose0) mean mg mb h₀) (hk : cs.kind = .function)
  (hd : dp + 31 < 500) (hu : un + 131 < 200)
  (hret : ∀ (h' : Heap) (tk' : Nat), Fr h₀ L h' m → News h₀ L h' news → Q (.bool (decide (xs = xs'))) { s with heap := h', toks := tk' }) :
  wpAny (model pw w) (ktrTop dp un gd cn cs L a ccd cl outer) (call (.ref 615) [.ref o, .ref o']) Q E s := by
 have hd' : dp + 3 < recursionLimit := by first | exact rc1 (by assumption) rfl | (rw [show recursionLimit = 1000 from rfl]; lia)
 refine ob9_6 C.out fun dx D px ys k t1 t2 objs ts ho hdx hD hrel hts hobj => ?_
 refine ob9_6 C'.out fun dx' D' px' ys' k' t1' t2' objs' ts' ho' hdx' hD' hrel' hts' hobj' => ?_
 refine wpAny_call ?_
 k_dflt cell_enter
 with_reducible rename Fr _ _ _ (fun y => _) => F1
 with_reducible rename Below _ _ _ _ => B1
 with_reducible rename Top _ _ _ _ _ _ => T1
 with_reducible rename Frag.In _ _ => X1
 replace F1 := frBinds F1 (fun y => if y = "other" then some (.ref o') else if y = "self" then some (.ref o) else none) (by kernel_rfl)
 k_steps
 refine unhold ?_
 with_reducible rename Fr _ _ _ _ => F3
 with_reducible rename News _ _ _ _ => N3
 refine getFld (es := [ent w "cats" t1 (.ref D), ent w "params" t2 (.ref px)]) (X1.keeps F3.keep) (N3 _ ho).1 (N3 _ hdx).1 (by kernel_rfl) (by kernel_rfl) (by k_is) (v := .ref D) (by kernel_rfl) rfl ?_
 k_steps
 refine unhold ?_
 refine getFld (es := [ent w "cats" t1' (.ref D'), ent w "params" t2' (.ref px')]) (X1.keeps F3.keep) (N3 _ ho').1 (N3 _ hdx').1 (by kernel_rfl) (by kernel_rfl) (by k_is) (v := .ref D') (by kernel_rfl) rfl ?_
 k_steps
 refine unhold ?_
 have v1 := vtsAt_of _ _ _ hrel fun p hp => (N3 _ (hobj p hp)).1
 have v2 := vtsAt_of _ _ _ hrel' fun p hp => (N3 _ (hobj' p hp)).1
 rw [hts, Array.toArray_toList] at v1
 rw [hts', Array.toArray_toList] at v2
 refine rc_lists (N3.isList hD) (N3.isList hD') v1.1 v2.1 ?_ (fun j h1 h2 => el_VV (X1.keeps F3.keep) ?_ v1 v2 j h1 h2) _ _ _ _ ?_
 ·show un + 3 < cLine; have : 200 ≤ cLine := by decide
  lia
 ·show un + 3 + 1 < cLine; have : 200 ≤ cLine := by decide
  lia
 k_steps
 with_reducible rename Fr h₀ L _ m => F9
 with_reducible rename News h₀ L _ _ => N9
 exact hret _ _ F9 N9
end
section
local macro_rules | `(tactic| walk_at "exec Assign cons ListComp") => `(tactic| (refine hold ?_))
local macro_rules | `(tactic| walk_at "call builtin:str.join") => `(tactic| (refine hold ?_))
local macro_rules | `(tactic| walk_at "getMethod str") => `(tactic| (k_here; (with_reducible show wpAny _ _ (getMethod (Value.str _ _) (PySem.Str.ofString "encode") _) _ _ _); refine getEncode ?_))
local macro_rules | `(tactic| walk_at "call builtin:str.encode") => `(tactic| (refine hold ?_))
theorem dec_out {h s0 : Heap} {S : List Addr} : ∀ (ts : List (List Nat × Tok)) (zs : List Value), Paired (ObjAt S s0 DecRel h) (txs ts) zs → ∃ us, zs = txs us ∧ us.map (·.1) = (ts.map (·.1)).map escL
 | [], _, hp => by cases hp; exact ⟨[], rfl, rfl⟩
 | t :: ts, _, hp => by
  cases hp with
  | cons q1 q2 =>
   refine ob1_2 (dec_out ts _ q2) fun us eq1 hus => ?_
   subst eq1
   obtain ⟨os, ⟨l, tx, t', e1, rfl, rfl⟩, _⟩ := q1
   have el : t.1 = l := by injection e1 with b1; exact strOf_inj b1
   exact ⟨(escL l, t') :: us, rfl, by simp [hus, el]⟩
theorem glue_mem {c d : Nat} : ∀ {ls : List (List Nat)}, d ∈ glue [c] ls → d = c ∨ ∃ l ∈ ls, d ∈ l
 | [], h => by cases h
 | [x], h => .inr ⟨x, .head _, h⟩
 | x :: y :: r, h => by
  simp only [glue, List.mem_append, List.mem_singleton] at h
  rcases h with (h | h) | h
  ·exact .inr ⟨x, .head _, h⟩
  ·exact .inl h
  ·rcases glue_mem h with h | ⟨l, hl, h⟩
   ·exact .inl h
   ·exact .inr ⟨l, .tail _ hl, h⟩
theorem semi_is2 : Str.ofString ";" = strOf [59] := by decide
noncomputable def fldDict (w : World) (t1 t2 : Nat) (D px : Addr) : Obj := dictOf [ent w "fields" t1 (.ref D), ent w "params" t2 (.ref px)] 2
theorem org_ical {w : World} {mean : ExcName → Option Value} {mg mb : Str → Option Value} {news : List (Addr × Obj)} (o dx D px : Addr) (t1 t2 : Nat) (ts : List (List Nat × Tok)) (kD : Nat)
  (dp un : Nat) (gd : Option (List Code)) (cn : Str) (cs : Scope) (a : Addr) (ccd : Value) (cl : List (Str × Addr)) (outer : List Env) (A₀ : Around) (base h₀ : Heap) (L : Addr) (m : Str → Option Value) (s : Shared) (Q E : Value → Shared → Prop)
  (B : Below A₀ base outer h₀) (F : Fr h₀ L s.heap m) (X : (K w.params).In h₀) (N : News h₀ L s.heap news) (T : Top q0 (looseW q0 loose0) mean mg mb h₀) (hk : cs.kind = .function)
  (ho : (o, instObj 869 dx) ∈ news) (hdx : (dx, fldDict w t1 t2 D px) ∈ news) (hD : (D, ⟨.type "tuple", none, .seq (txs ts).toArray kD, #[]⟩) ∈ news)
  (hxs : Texts (ts.map (·.1))) (hn : ts.length ≤ 30)
  (hd : dp + 31 < 500) (hu : un + 131 < 200)
  (hret : ∀ (t : Tok) (h' : Heap) (tk' : Nat), Fr h₀ L h' m → News h₀ L h' news → Q (.bytes (bytesOf (glue [59] ((ts.map (·.1)).map escL))) t) { s with heap := h', toks := tk' }) :
  wpAny (model pw w) (ktrTop dp un gd cn cs L a ccd cl outer) (call (.ref 825) [.ref o]) Q E s := by
 have hd' : dp + 3 < recursionLimit := by first | exact rc1 (by assumption) rfl | (rw [show recursionLimit = 1000 from rfl]; lia)
 refine wpAny_call ?_
 k_dflt cell_enter
 with_reducible rename Fr _ _ _ (fun y => _) => F1
 with_reducible rename Below _ _ _ _ => B1
 with_reducible rename Top _ _ _ _ _ _ => T1
 with_reducible rename Frag.In _ _ => X1
 replace F1 := frBinds F1 (fun y => if y = "self" then some (.ref o) else none) (by kernel_rfl)
 k_steps
 refine unhold ?_
 with_reducible rename Fr _ _ _ _ => F3
 with_reducible rename News _ _ _ _ => N3
 k_dflt (refine' assignCompS DecRel ?hsw ?hL ?hh ?hclos ?hcell ?hkind ?hnames ?hx ?hy ?hp ?hs F3 ?_; (case hsw => with_unfolding_all rfl); (case hL => with_unfolding_all rfl); (case hh => with_unfolding_all rfl); (case hclos => with_unfolding_all rfl); (case hcell => decide); (case hkind => with_unfolding_all rfl); (case hnames => decide); (case hx => with_unfolding_all rfl); (case hy => with_unfolding_all rfl); (case hp => with_unfolding_all rfl); (case hs => intro _; with_unfolding_all rfl))
 k_steps
 refine unhold ?_
 refine getFld (es := [ent w "fields" t1 (.ref D), ent w "params" t2 (.ref px)]) (X1.keeps F3.keep) (N3 _ ho).1 (N3 _ hdx).1 (by kernel_rfl) (by kernel_rfl) (by k_is) (v := .ref D) (by kernel_rfl) rfl ?_
 refine unhold ⟨D, txs ts, _, _, _, _, rfl, srcTuple D (txs ts), trivial, ⟨_, (N3 _ hD).1, rfl, _, rfl⟩, (by rw [txs_len, List.length_map, sizeLine_eq]; lia), F3, (N3 _ hD).2.1, fun C v h₃ tk₃ m₃ hv hC hn' hm' F4 hk4 => ?_, fun D' h5 tk5 zs hD' hDL' hpl F5 hP hk5 => ?_⟩
 ·refine ob2_2 (txs_mem hv) fun l t' hl eq3 => ?_
  subst eq3
  refine elt_dec l t' _ _ _ _ _ _ _ _ C h₃ tk₃ m₃ _ _ _ _ _ _ _ _ _ _ _ _ _ _ _ _ _ B1 F4 X1 T1 rfl (hxs l hl).1 (hxs l hl).2 hn' hm' rfl rfl rfl ?_ ?_ _ _ rfl rfl
  ·show dp + 1 + 22 < 500; first | exact rm2 (by assumption) rfl | lia
  ·show un + 3 + 115 < 200; first | exact rm2 (by assumption) rfl | lia
 with_reducible refine ob1_2 (dec_out ts _ hP) fun us hzs hus => ?_
 obtain ⟨kD2, hDo⟩ := hpl
 have N5 : News _ _ h5 news := fun p hp => ⟨hk5 _ _ (N3 p hp).2.1 (N3 p hp).1, (N3 p hp).2⟩
 clear F3 N3
 k_steps
 refine unhold ?_
 have hzs' : zs = (txs us).toArray := by rw [← hzs, Array.toArray_toList]
 subst hzs'
 rw [semi_is2]
 have hu1 : ∀ l ∈ us.map (·.1), l.length ≤ 2048 ∧ ∀ c ∈ l, c < 128 := fun l hl => by
  rw [hus] at hl
  refine ob1_2 (List.mem_map.mp hl) fun l0 h0 eq2 => ?_
  subst eq2
  have := escL_len l0
  have := (hxs l0 h0).1
  exact ⟨by lia, escL_ascii (hxs l0 h0).2⟩
 have hlu : (us.map (·.1)).length = ts.length := by rw [hus]; simp
 have htot : total (us.map (·.1)) ≤ 65536 := Nat.le_trans (total_le (B := 2048) fun l hl => (hu1 l hl).1) (by rw [hlu]; lia)
 refine joinS hDo htot (fun t7 k7 => ?_)
 k_steps
 refine unhold ?_
 have hg := glue_len 59 (us.map (·.1))
 refine enc_call (fun c hc => ?_) (by lia) (fun t8 k8 => ?_)
 ·rcases glue_mem hc with rfl | ⟨l, hl, hc⟩
  ·decide
  ·exact (hu1 l hl).2 c hc
 rw [hus]
 k_steps
 with_reducible rename Fr h₀ L _ m => F9
 with_reducible rename News h₀ L _ _ => N9
 exact hret _ _ _ F9 N9
noncomputable abbrev tupSub (C : Addr) (dn : Addr) (vs : List Value) : Obj := ⟨.ref C, some dn, .seq vs.toArray 0, #[]⟩
theorem n_ical {w : World} {mean : ExcName → Option Value} {mg mb : Str → Option Value} {news : List (Addr × Obj)} (o dx D dn px : Addr) (t1 t2 : Nat) (ts : List (List Nat × Tok))
  (dp un : Nat) (gd : Option (List Code)) (cn : Str) (cs : Scope) (a : Addr) (ccd : Value) (cl : List (Str × Addr)) (outer : List Env) (A₀ : Around) (base h₀ : Heap) (L : Addr) (m : Str → Option Value) (s : Shared) (Q E : Value → Shared → Prop)
  (B : Below A₀ base outer h₀) (F : Fr h₀ L s.heap m) (X : (K w.params).In h₀) (N : News h₀ L s.heap news) (T : Top q0 (looseW q0 loose0) mean mg mb h₀) (hk : cs.kind = .function)
  (ho : (o, instObj 801 dx) ∈ news) (hdx : (dx, fldDict w t1 t2 D px) ∈ news) (hD : (D, tupSub 750 dn (txs ts)) ∈ news)
  (hxs : Texts (ts.map (·.1))) (hn : ts.length ≤ 30)
  (hd : dp + 31 < 500) (hu : un + 131 < 200)
  (hret : ∀ (t : Tok) (h' : Heap) (tk' : Nat), Fr h₀ L h' m → News h₀ L h' news → Q (.bytes (bytesOf (glue [59] ((ts.map (·.1)).map escL))) t) { s with heap := h', toks := tk' }) :
  wpAny (model pw w) (ktrTop dp un gd cn cs L a ccd cl outer) (call (.ref 773) [.ref o]) Q E s := by
 have hd' : dp + 3 < recursionLimit := by first | exact rc1 (by assumption) rfl | (rw [show recursionLimit = 1000 from rfl]; lia)
 refine wpAny_call ?_
 k_dflt cell_enter
 with_reducible rename Fr _ _ _ (fun y => _) => F1
 with_reducible rename Below _ _ _ _ => B1
 with_reducible rename Top _ _ _ _ _ _ => T1
 with_reducible rename Frag.In _ _ => X1
 replace F1 := frBinds F1 (fun y => if y = "self" then some (.ref o) else none) (by kernel_rfl)
 k_steps
 refine unhold ?_
 with_reducible rename Fr _ _ _ _ => F3
 with_reducible rename News _ _ _ _ => N3
 k_dflt (refine' assignCompS DecRel ?hsw ?hL ?hh ?hclos ?hcell ?hkind ?hnames ?hx ?hy ?hp ?hs F3 ?_; (case hsw => with_unfolding_all rfl); (case hL => with_unfolding_all rfl); (case hh => with_unfolding_all rfl); (case hclos => with_unfolding_all rfl); (case hcell => decide); (case hkind => with_unfolding_all rfl); (case hnames => decide); (case hx => with_unfolding_all rfl); (case hy => with_unfolding_all rfl); (case hp => with_unfolding_all rfl); (case hs => intro _; with_unfolding_all rfl))
 k_steps
 refine unhold ?_
 refine getFld (es := [ent w "fields" t1 (.ref D), ent w "params" t2 (.ref px)]) (X1.keeps F3.keep) (N3 _ ho).1 (N3 _ hdx).1 (by kernel_rfl) (by kernel_rfl) (by k_is) (v := .ref D) (by kernel_rfl) rfl ?_
 refine unhold ⟨D, txs ts, _, _, _, _, rfl, srcSub (K := K w.params) (C := 750) D (tupSub 750 dn (txs ts)) (txs ts) 0 rfl rfl (by k_is) (by k_is), X1.keeps F3.keep, (N3 _ hD).1, (by rw [txs_len, List.length_map, sizeLine_eq]; lia), F3, (N3 _ hD).2.1, fun C v h₃ tk₃ m₃ hv hC hn' hm' F4 hk4 => ?_, fun D' h5 tk5 zs hD' hDL' hpl F5 hP hk5 => ?_⟩
 ·refine ob2_2 (txs_mem hv) fun l t' hl eq3 => ?_
  subst eq3
  refine elt_dec l t' _ _ _ _ _ _ _ _ C h₃ tk₃ m₃ _ _ _ _ _ _ _ _ _ _ _ _ _ _ _ _ _ B1 F4 X1 T1 rfl (hxs l hl).1 (hxs l hl).2 hn' hm' rfl rfl rfl ?_ ?_ _ _ rfl rfl
  ·show dp + 1 + 22 < 500; first | exact rm2 (by assumption) rfl | lia
  ·show un + 3 + 115 < 200; first | exact rm2 (by assumption) rfl | lia
 with_reducible refine ob1_2 (dec_out ts _ hP) fun us hzs hus => ?_
 obtain ⟨kD2, hDo⟩ := hpl
 have N5 : News _ _ h5 news := fun p hp => ⟨hk5 _ _ (N3 p hp).2.1 (N3 p hp).1, (N3 p hp).2⟩
 clear F3 N3
 k_steps
 refine unhold ?_
 have hzs' : zs = (txs us).toArray := by rw [← hzs, Array.toArray_toList]
 subst hzs'
 rw [semi_is2]
 have hu1 : ∀ l ∈ us.map (·.1), l.length ≤ 2048 ∧ ∀ c ∈ l, c < 128 := fun l hl => by
  rw [hus] at hl
  refine ob1_2 (List.mem_map.mp hl) fun l0 h0 eq2 => ?_
  subst eq2
  have := escL_len l0
  have := (hxs l0 h0).1
  exact ⟨by lia, escL_ascii (hxs l0 h0).2⟩
 have hlu : (us.map (·.1)).length = ts.length := by rw [hus]; simp
 have htot : total (us.map (·.1)) ≤ 65536 := Nat.le_trans (total_le (B := 2048) fun l hl => (hu1 l hl).1) (by rw [hlu]; lia)
 refine joinS hDo htot (fun t7 k7 => ?_)
 k_steps
 refine unhold ?_
 have hg := glue_len 59 (us.map (·.1))
 refine enc_call (fun c hc => ?_) (by lia) (fun t8 k8 => ?_)
 ·rcases glue_mem hc with rfl | ⟨l, hl, hc⟩
  ·decide
  ·exact (hu1 l hl).2 c hc
 rw [hus]
 k_steps
 with_reducible rename Fr h₀ L _ m => F9
 with_reducible rename News h₀ L _ _ => N9
 exact hret _ _ _ F9 N9
theorem adr_ical {w : World} {mean : ExcName → Option Value} {mg mb : Str → Option Value} {news : List (Addr × Obj)} (o dx D dn px : Addr) (t1 t2 : Nat) (ts : List (List Nat × Tok))
  (dp un : Nat) (gd : Option (List Code)) (cn : Str) (cs : Scope) (a : Addr) (ccd : Value) (cl : List (Str × Addr)) (outer : List Env) (A₀ : Around) (base h₀ : Heap) (L : Addr) (m : Str → Option Value) (s : Shared) (Q E : Value → Shared → Prop)
  (B : Below A₀ base outer h₀) (F : Fr h₀ L s.heap m) (X : (K w.params).In h₀) (N : News h₀ L s.heap news) (T : Top q0 (looseW q0 loose0) mean mg mb h₀) (hk : cs.kind = .function)
  (ho : (o, instObj 569 dx) ∈ news) (hdx : (dx, fldDict w t1 t2 D px) ∈ news) (hD : (D, tupSub 518 dn (txs ts)) ∈ news)
  (hxs : Texts (ts.map (·.1))) (hn : ts.length ≤ 30)
  (hd : dp + 31 < 500) (hu : un + 131 < 200)
  (hret : ∀ (t : Tok) (h' : Heap) (tk' : Nat), Fr h₀ L h' m → News h₀ L h' news → Q (.bytes (bytesOf (glue [59] ((ts.map (·.1)).map escL))) t) { s with heap := h', toks := tk' }) :
  wpAny (model pw w) (ktrTop dp un gd cn cs L a ccd cl outer) (call (.ref 541) [.ref o]) Q E s := by
 have hd' : dp + 3 < recursionLimit := by first | exact rc1 (by assumption) rfl | (rw [show recursionLimit = 1000 from rfl]; lia)
 refine wpAny_call ?_
 k_dflt cell_enter
 with_reducible rename Fr _ _ _ (fun y => _) => F1
 with_reducible rename Below _ _ _ _ => B1
 with_reducible rename Top _ _ _ _ _ _ => T1
 with_reducible rename Frag.In _ _ => X1
 replace F1 := frBinds F1 (fun y => if y = "self" then some (.ref o) else none) (by kernel_rfl)
 k_steps
 refine unhold ?_
 with_reducible rename Fr _ _ _ _ => F3
 with_reducible rename News _ _ _ _ => N3
 k_dflt (refine' assignCompS DecRel ?hsw ?hL ?hh ?hclos ?hcell ?hkind ?hnames ?hx ?hy ?hp ?hs F3 ?_; (case hsw => with_unfolding_all rfl); (case hL => with_unfolding_all rfl); (case hh => with_unfolding_all rfl); (case hclos => with_unfolding_all rfl); (case hcell => decide); (case hkind => with_unfolding_all rfl); (case hnames => decide); (case hx => with_unfolding_all rfl); (case hy => with_unfolding_all rfl); (case hp => with_unfolding_all rfl); (case hs => intro _; with_unfolding_all rfl))
 k_steps
 refine unhold ?_
 refine getFld (es := [ent w "fields" t1 (.ref D), ent w "params" t2 (.ref px)]) (X1.keeps F3.keep) (N3 _ ho).1 (N3 _ hdx).1 (by kernel_rfl) (by kernel_rfl) (by k_is) (v := .ref D) (by kernel_rfl) rfl ?_
 refine unhold ⟨D, txs ts, _, _, _, _, rfl, srcSub (K := K w.params) (C := 518) D (tupSub 518 dn (txs ts)) (txs ts) 0 rfl rfl (by k_is) (by k_is), X1.keeps F3.keep, (N3 _ hD).1, (by rw [txs_len, List.length_map, sizeLine_eq]; lia), F3, (N3 _ hD).2.1, fun C v h₃ tk₃ m₃ hv hC hn' hm' F4 hk4 => ?_, fun D' h5 tk5 zs hD' hDL' hpl F5 hP hk5 => ?_⟩
 ·refine ob2_2 (txs_mem hv) fun l t' hl eq3 => ?_
  subst eq3
  refine elt_dec l t' _ _ _ _ _ _ _ _ C h₃ tk₃ m₃ _ _ _ _ _ _ _ _ _ _ _ _ _ _ _ _ _ B1 F4 X1 T1 rfl (hxs l hl).1 (hxs l hl).2 hn' hm' rfl rfl rfl ?_ ?_ _ _ rfl rfl
  ·show dp + 1 + 22 < 500; first | exact rm2 (by assumption) rfl | lia
  ·show un + 3 + 115 < 200; first | exact rm2 (by assumption) rfl | lia
 with_reducible refine ob1_2 (dec_out ts _ hP) fun us hzs hus => ?_
 obtain ⟨kD2, hDo⟩ := hpl
 have N5 : News _ _ h5 news := fun p hp => ⟨hk5 _ _ (N3 p hp).2.1 (N3 p hp).1, (N3 p hp).2⟩
 clear F3 N3
 k_steps
 refine unhold ?_
 have hzs' : zs = (txs us).toArray := by rw [← hzs, Array.toArray_toList]
 subst hzs'
 rw [semi_is2]
 have hu1 : ∀ l ∈ us.map (·.1), l.length ≤ 2048 ∧ ∀ c ∈ l, c < 128 := fun l hl => by
  rw [hus] at hl
  refine ob1_2 (List.mem_map.mp hl) fun l0 h0 eq2 => ?_
  subst eq2
  have := escL_len l0
  have := (hxs l0 h0).1
  exact ⟨by lia, escL_ascii (hxs l0 h0).2⟩
 have hlu : (us.map (·.1)).length = ts.length := by rw [hus]; simp
 have htot : total (us.map (·.1)) ≤ 65536 := Nat.le_trans (total_le (B := 2048) fun l hl => (hu1 l hl).1) (by rw [hlu]; lia)
 refine joinS hDo htot (fun t7 k7 => ?_)
 k_steps
 refine unhold ?_
 have hg := glue_len 59 (us.map (·.1))
 refine enc_call (fun c hc => ?_) (by lia) (fun t8 k8 => ?_)
 ·rcases glue_mem hc with rfl | ⟨l, hl, hc⟩
  ·decide
  ·exact (hu1 l hl).2 c hc
 rw [hus]
 k_steps
 with_reducible rename Fr h₀ L _ m => F9
 with_reducible rename News h₀ L _ _ => N9
 exact hret _ _ _ F9 N9
end
end
section
local macro_rules | `(tactic| walk_at "call builtin:tuple.__new__") => `(tactic| (refine hold ?_))
local macro_rules | `(tactic| walk_at "getMethod type:tuple") => `(tactic| (refine hold ?_))
theorem nf_new {w : World} {mean : ExcName → Option Value} {mg mb : Str → Option Value} {news : List (Addr × Obj)} (v1 v2 v3 v4 v5 : Value)
  (dp un : Nat) (gd : Option (List Code)) (cn : Str) (cs : Scope) (a : Addr) (ccd : Value) (cl : List (Str × Addr)) (outer : List Env) (A₀ : Around) (base h₀ : Heap) (L : Addr) (m : Str → Option Value) (s : Shared) (R : Result → Shared → Prop)
  (B : Below A₀ base outer h₀) (F : Fr h₀ L s.heap m) (X : (K w.params).In h₀) (N : News h₀ L s.heap news) (T : Top q0 (looseW q0 loose0) mean mg mb h₀) (hk : cs.kind = .function)
  (hd : dp + 5 < 500) (hu : un + 15 < 200)
  (hret : ∀ (x dn : Addr) (h' : Heap) (tk' : Nat), Fr h₀ L h' m → News h₀ L h' ((x, tupSub 750 dn [v1, v2, v3, v4, v5]) :: (dn, dictOf [] 0) :: news) → (∀ p ∈ news, p.1 ≠ x ∧ p.1 ≠ dn) → R (.ok (.ret (.ref x))) { s with heap := h', toks := tk' }) :
  codeAny (model pw w) (ktrTop dp un gd cn cs L a ccd cl outer) (.call (.ref 691) ⟨[.ref 750, v1, v2, v3, v4, v5], []⟩) R s := by
 have hd' : dp + 3 < recursionLimit := by first | exact rc1 (by assumption) rfl | (rw [show recursionLimit = 1000 from rfl]; lia)
 k_dflt cell_enter
 with_reducible rename Fr _ _ _ (fun y => _) => F1
 with_reducible rename Below _ _ _ _ => B1
 with_reducible rename Top _ _ _ _ _ _ => T1
 with_reducible rename Frag.In _ _ => X1
 replace F1 := frBinds F1 (fun y => if y = "suffix" then some (v5) else if y = "prefix" then some (v4) else if y = "additional" then some (v3) else if y = "given" then some (v2) else if y = "family" then some (v1) else if y = "_cls" then some (.ref 750) else none) (by kernel_rfl)
 k_steps
 refine unhold ?_
 with_reducible rename Fr _ _ _ _ => F2
 with_reducible rename News _ _ _ _ => N2
 k_dflt (refine' method_type ?F ?X ?m ?hs ?e ?h ?_; (case F => exact F2); (case X => exact X1); (case m => first | rfl | kernel_rfl); (case hs => decide +kernel); (case e => k_dflt k_is); (case h => k_handed))
 k_steps
 refine unhold ?_
 with_reducible rename Fr _ _ _ _ => F3
 with_reducible rename News _ _ _ _ => N3
 refine up (lf_tnew5 (X1.keeps F3.keep) _ 0 v1 v2 v3 v4 v5 (N3 _ (.head _)).1 (fun x dn h4 tk4 rest D4 => ?_)) ?_ ?_
 rotate_left
 ·show dp + 1 ≤ 500; first | exact rl1 (by assumption) rfl | lia
 ·show un + 3 ≤ 200; first | exact rl1 (by assumption) rfl | lia
 have F4 := memFr F3 D4
 have N4' := memNews F3 N3 D4
 have N4 : News _ _ h4 ((x, tupSub 750 dn [v1, v2, v3, v4, v5]) :: (dn, dictOf [] 0) :: news) := fun p hp => N4' p (by
  rcases List.mem_cons.mp hp with rfl | hp
  ·exact .head _
  ·rcases List.mem_cons.mp hp with rfl | hp
   ·exact .tail _ (.head _)
   ·exact List.mem_append_right _ (.tail _ hp))
 have ne4 : ∀ p ∈ news, p.1 ≠ x ∧ p.1 ≠ dn := fun p hp => ⟨memNe N3 D4 (.head _) (.tail _ hp), memNe N3 D4 (.tail _ (.head _)) (.tail _ hp)⟩
 clear F3 N3 N4'
 k_steps
 with_reducible rename Fr h₀ L _ m => F9
 with_reducible rename News h₀ L _ _ => N9
 exact hret x dn _ _ F9 N9 ne4
theorem nf_spec {w : World} {mean : ExcName → Option Value} {mg mb : Str → Option Value} {news : List (Addr × Obj)} (v1 v2 v3 v4 v5 : Value)
  (dp un : Nat) (gd : Option (List Code)) (cn : Str) (cs : Scope) (a : Addr) (ccd : Value) (cl : List (Str × Addr)) (outer : List Env) (A₀ : Around) (base h₀ : Heap) (L : Addr) (m : Str → Option Value) (s : Shared) (Q E : Value → Shared → Prop)
  (B : Below A₀ base outer h₀) (F : Fr h₀ L s.heap m) (X : (K w.params).In h₀) (N : News h₀ L s.heap news) (T : Top q0 (looseW q0 loose0) mean mg mb h₀) (hk : cs.kind = .function)
  (hd : dp + 7 < 500) (hu : un + 20 < 200)
  (hret : ∀ (x dn : Addr) (h' : Heap) (tk' : Nat), Fr h₀ L h' m → News h₀ L h' ((x, tupSub 750 dn [v1, v2, v3, v4, v5]) :: (dn, dictOf [] 0) :: news) → (∀ p ∈ news, p.1 ≠ x ∧ p.1 ≠ dn) → Q (.ref x) { s with heap := h', toks := tk' }) :
  wpAny (model pw w) (ktrTop dp un gd cn cs L a ccd cl outer) (call (.ref 750) [v1, v2, v3, v4, v5]) Q E s := by
 have XX := X.keeps F.keep
 obtain ⟨hh, g, d, t, os⟩ := s
 have e1 : (Code.builtin "type.__call__" { pos := [Value.ref 750, v1, v2, v3, v4, v5] }).weight = 1 := rfl
 have e2 : (Code.builtin "type.__call__" { pos := [Value.ref 750, v1, v2, v3, v4, v5] }).cUnits = 1 := rfl
 refine wpAny_call (make_f (XX 750 _ rfl) rfl (looks_specialIn XX (by k_is)) (looks_instIn XX (by k_is)) (Looks.of_peek XX (by kernel_rfl)) ?_)
 refine attr_cls (looks_typeIn XX (by k_is)) ?_
 refine up (lf_nnew XX t (fun h1 tk1 nw1 D1 => ⟨rfl, ?_⟩)) ?_ ?_
 rotate_left
 ·rw [e1]; show dp + 1 ≤ 500; first | exact rl1 (by assumption) rfl | lia
 ·rw [e2]; show un + 1 ≤ 200; first | exact rl1 (by assumption) rfl | lia
 have F1 := memFr F D1
 have N1 : News h₀ L h1 news := fun p hp => memNews F N D1 p (List.mem_append_right _ hp)
 refine wpAny_call (nf_new v1 v2 v3 v4 v5 _ _ _ _ _ _ _ _ _ _ _ _ _ _ _ _ B F1 X N1 T hk ?_ ?_ (fun x dn h2 tk2 F2 N2 ne2 => ?_))
 ·rw [e1]; show dp + 1 + 5 < 500; first | exact rm2 (by assumption) rfl | lia
 ·rw [e2]; show un + 1 + 15 < 200; first | exact rm2 (by assumption) rfl | lia
 have X2 := X.keeps F2.keep
 refine ⟨x, _, .builtin "object.__init__", rfl, (N2 _ (.head _)).1, rfl, looks_mroIn X2 (by k_is), looks_findIn X2 (by k_is), Looks.of_pure (oi_bind _), ?_⟩
 refine up (lf_ninit X2 x dn v1 v2 v3 v4 v5 v1 v2 v3 v4 v5 (N2 _ (.head _)).1 (fun h3 tk3 nw3 D3 => ⟨rfl, ?_⟩)) ?_ ?_
 rotate_left
 ·rw [e1]; show dp + 1 ≤ 500; first | exact rl1 (by assumption) rfl | lia
 ·rw [e2]; show un + 1 ≤ 200; first | exact rl1 (by assumption) rfl | lia
 exact hret x dn _ _ (memFr F2 D3) (fun p hp => memNews F2 N2 D3 p (List.mem_append_right _ hp)) ne2
theorem af_new {w : World} {mean : ExcName → Option Value} {mg mb : Str → Option Value} {news : List (Addr × Obj)} (v1 v2 v3 v4 v5 v6 v7 : Value)
  (dp un : Nat) (gd : Option (List Code)) (cn : Str) (cs : Scope) (a : Addr) (ccd : Value) (cl : List (Str × Addr)) (outer : List Env) (A₀ : Around) (base h₀ : Heap) (L : Addr) (m : Str → Option Value) (s : Shared) (R : Result → Shared → Prop)
  (B : Below A₀ base outer h₀) (F : Fr h₀ L s.heap m) (X : (K w.params).In h₀) (N : News h₀ L s.heap news) (T : Top q0 (looseW q0 loose0) mean mg mb h₀) (hk : cs.kind = .function)
  (hd : dp + 5 < 500) (hu : un + 15 < 200)
  (hret : ∀ (x dn : Addr) (h' : Heap) (tk' : Nat), Fr h₀ L h' m → News h₀ L h' ((x, tupSub 518 dn [v1, v2, v3, v4, v5, v6, v7]) :: (dn, dictOf [] 0) :: news) → (∀ p ∈ news, p.1 ≠ x ∧ p.1 ≠ dn) → R (.ok (.ret (.ref x))) { s with heap := h', toks := tk' }) :
  codeAny (model pw w) (ktrTop dp un gd cn cs L a ccd cl outer) (.call (.ref 453) ⟨[.ref 518, v1, v2, v3, v4, v5, v6, v7], []⟩) R s := by
 have hd' : dp + 3 < recursionLimit := by first | exact rc1 (by assumption) rfl | (rw [show recursionLimit = 1000 from rfl]; lia)
 k_dflt cell_enter
 with_reducible rename Fr _ _ _ (fun y => _) => F1
 with_reducible rename Below _ _ _ _ => B1
 with_reducible rename Top _ _ _ _ _ _ => T1
 with_reducible rename Frag.In _ _ => X1
 replace F1 := frBinds F1 (fun y => if y = "country" then some (v7) else if y = "postal_code" then some (v6) else if y = "region" then some (v5) else if y = "locality" then some (v4) else if y = "street" then some (v3) else if y = "extended" then some (v2) else if y = "po_box" then some (v1) else if y = "_cls" then some (.ref 518) else none) (by kernel_rfl)
 k_steps
 refine unhold ?_
 with_reducible rename Fr _ _ _ _ => F2
 with_reducible rename News _ _ _ _ => N2
 k_dflt (refine' method_type ?F ?X ?m ?hs ?e ?h ?_; (case F => exact F2); (case X => exact X1); (case m => first | rfl | kernel_rfl); (case hs => decide +kernel); (case e => k_dflt k_is); (case h => k_handed))
 k_steps
 refine unhold ?_
 with_reducible rename Fr _ _ _ _ => F3
 with_reducible rename News _ _ _ _ => N3
 refine up (lf_tnew7 (X1.keeps F3.keep) _ 0 v1 v2 v3 v4 v5 v6 v7 (N3 _ (.head _)).1 (fun x dn h4 tk4 rest D4 => ?_)) ?_ ?_
 rotate_left
 ·show dp + 1 ≤ 500; first | exact rl1 (by assumption) rfl | lia
 ·show un + 3 ≤ 200; first | exact rl1 (by assumption) rfl | lia
 have F4 := memFr F3 D4
 have N4' := memNews F3 N3 D4
 have N4 : News _ _ h4 ((x, tupSub 518 dn [v1, v2, v3, v4, v5, v6, v7]) :: (dn, dictOf [] 0) :: news) := fun p hp => N4' p (by
  rcases List.mem_cons.mp hp with rfl | hp
  ·exact .head _
  ·rcases List.mem_cons.mp hp with rfl | hp
   ·exact .tail _ (.head _)
   ·exact List.mem_append_right _ (.tail _ hp))
 have ne4 : ∀ p ∈ news, p.1 ≠ x ∧ p.1 ≠ dn := fun p hp => ⟨memNe N3 D4 (.head _) (.tail _ hp), memNe N3 D4 (.tail _ (.head _)) (.tail _ hp)⟩
 clear F3 N3 N4'
 k_steps
 with_reducible rename Fr h₀ L _ m => F9
 with_reducible rename News h₀ L _ _ => N9
 exact hret x dn _ _ F9 N9 ne4
theorem af_spec {w : World} {mean : ExcName → Option Value} {mg mb : Str → Option Value} {news : List (Addr × Obj)} (v1 v2 v3 v4 v5 v6 v7 : Value)
  (dp un : Nat) (gd : Option (List Code)) (cn : Str) (cs : Scope) (a : Addr) (ccd : Value) (cl : List (Str × Addr)) (outer : List Env) (A₀ : Around) (base h₀ : Heap) (L : Addr) (m : Str → Option Value) (s : Shared) (Q E : Value → Shared → Prop)
  (B : Below A₀ base outer h₀) (F : Fr h₀ L s.heap m) (X : (K w.params).In h₀) (N : News h₀ L s.heap news) (T : Top q0 (looseW q0 loose0) mean mg mb h₀) (hk : cs.kind = .function)
  (hd : dp + 7 < 500) (hu : un + 20 < 200)
  (hret : ∀ (x dn : Addr) (h' : Heap) (tk' : Nat), Fr h₀ L h' m → News h₀ L h' ((x, tupSub 518 dn [v1, v2, v3, v4, v5, v6, v7]) :: (dn, dictOf [] 0) :: news) → (∀ p ∈ news, p.1 ≠ x ∧ p.1 ≠ dn) → Q (.ref x) { s with heap := h', toks := tk' }) :
  wpAny (model pw w) (ktrTop dp un gd cn cs L a ccd cl outer) (call (.ref 518) [v1, v2, v3, v4, v5, v6, v7]) Q E s := by
 have XX := X.keeps F.keep
 obtain ⟨hh, g, d, t, os⟩ := s
 have e1 : (Code.builtin "type.__call__" { pos := [Value.ref 518, v1, v2, v3, v4, v5, v6, v7] }).weight = 1 := rfl
 have e2 : (Code.builtin "type.__call__" { pos := [Value.ref 518, v1, v2, v3, v4, v5, v6, v7] }).cUnits = 1 := rfl
 refine wpAny_call (make_f (XX 518 _ rfl) rfl (looks_specialIn XX (by k_is)) (looks_instIn XX (by k_is)) (Looks.of_peek XX (by kernel_rfl)) ?_)
 refine attr_cls (looks_typeIn XX (by k_is)) ?_
 refine up (lf_anew XX t (fun h1 tk1 nw1 D1 => ⟨rfl, ?_⟩)) ?_ ?_
 rotate_left
 ·rw [e1]; show dp + 1 ≤ 500; first | exact rl1 (by assumption) rfl | lia
 ·rw [e2]; show un + 1 ≤ 200; first | exact rl1 (by assumption) rfl | lia
 have F1 := memFr F D1
 have N1 : News h₀ L h1 news := fun p hp => memNews F N D1 p (List.mem_append_right _ hp)
 refine wpAny_call (af_new v1 v2 v3 v4 v5 v6 v7 _ _ _ _ _ _ _ _ _ _ _ _ _ _ _ _ B F1 X N1 T hk ?_ ?_ (fun x dn h2 tk2 F2 N2 ne2 => ?_))
 ·rw [e1]; show dp + 1 + 5 < 500; first | exact rm2 (by assumption) rfl | lia
 ·rw [e2]; show un + 1 + 15 < 200; first | exact rm2 (by assumption) rfl | lia
 have X2 := X.keeps F2.keep
 refine ⟨x, _, .builtin "object.__init__", rfl, (N2 _ (.head _)).1, rfl, looks_mroIn X2 (by k_is), looks_findIn X2 (by k_is), Looks.of_pure (oi_bind _), ?_⟩
 refine up (lf_ainit X2 x dn v1 v2 v3 v4 v5 v6 v7 v1 v2 v3 v4 v5 v6 v7 (N2 _ (.head _)).1 (fun h3 tk3 nw3 D3 => ⟨rfl, ?_⟩)) ?_ ?_
 rotate_left
 ·rw [e1]; show dp + 1 ≤ 500; first | exact rl1 (by assumption) rfl | lia
 ·rw [e2]; show un + 1 ≤ 200; first | exact rl1 (by assumption) rfl | lia
 exact hret x dn _ _ (memFr F2 D3) (fun p hp => memNews F2 N2 D3 p (List.mem_append_right _ hp)) ne2
end
section
local macro_rules | `(tactic| walk_at "call ref") => `(tactic| (refine hold ?_))
section
local macro_rules | `(tactic| walk_at "call type:tuple") => `(tactic| (refine hold ?_))
section
local macro_rules | `(tactic| walk_at "getAttr ref") => `(tactic| (refine hold ?_))
local macro_rules | `(tactic| walk_at "setAttr ref") => `(tactic| (refine hold ?_))
local macro_rules | `(tactic| walk_at "call builtin:len") => `(tactic| (refine hold ?_))
local macro_rules | `(tactic| walk_at "eval GeneratorExp") => `(tactic| (refine hold ?_))
theorem permN {h₀ h : Heap} {L : Addr} {a b c d : Addr × Obj} {news : List (Addr × Obj)} (N : News h₀ L h (a :: b :: c :: d :: news)) : News h₀ L h (d :: a :: b :: c :: news) := fun p hp => N p (by
 exact sub hp)
theorem org_initT {w : World} {mean : ExcName → Option Value} {mg mb : Str → Option Value} {news : List (Addr × Obj)} (o dx lst : Addr) (xs : List (List Nat × Tok)) (k : Nat) (op : Obj)
  (dp un : Nat) (gd : Option (List Code)) (cn : Str) (cs : Scope) (a : Addr) (ccd : Value) (cl : List (Str × Addr)) (outer : List Env) (A₀ : Around) (base h₀ : Heap) (L : Addr) (m : Str → Option Value) (s : Shared) (R : Result → Shared → Prop)
  (B : Below A₀ base outer h₀) (F : Fr h₀ L s.heap m) (X : (K w.params).In h₀) (N : News h₀ L s.heap ((815, op) :: (dx, dictOf [] 0) :: (o, instObj 869 dx) :: (lst, ⟨.type "tuple", none, .seq (txs xs).toArray k, #[]⟩) :: news)) (hne : ∀ p ∈ (815, op) :: (o, instObj 869 dx) :: (lst, (⟨.type "tuple", none, .seq (txs xs).toArray k, #[]⟩ : Obj)) :: news, p.1 ≠ dx)
  (hnP : ∀ p ∈ (dx, dictOf [] 0) :: (o, instObj 869 dx) :: (lst, (⟨.type "tuple", none, .seq (txs xs).toArray k, #[]⟩ : Obj)) :: news, p.1 ≠ 815) (hop : TabOk op) (T : Top q0 (looseW q0 loose0) mean mg mb h₀) (hk : cs.kind = .function)
  (hxs : Texts (xs.map (·.1))) (hn : xs.length ≤ 30) (hn0 : 0 < xs.length)
  (hd : dp + 30 < 500) (hu : un + 130 < 200)
  (hret : ∀ (s' : Shared) (D px : Addr) (t1 t2 kD : Nat) (op' : Obj), Fr h₀ L s'.heap m → News h₀ L s'.heap ((815, op') :: (dx, fldDict w t1 t2 D px) :: (o, instObj 869 dx) :: (D, ⟨.type "tuple", none, .seq (txs xs).toArray kD, #[]⟩) :: (lst, ⟨.type "tuple", none, .seq (txs xs).toArray k, #[]⟩) :: news) → TabOk op' → (AllBare s.gens → AllBare s'.gens) → s'.os = s.os → s'.drawn = s.drawn → R (.ok (.ret .none)) s') :
  codeAny (model pw w) (ktrTop dp un gd cn cs L a ccd cl outer) (.call (.ref 820) ⟨[.ref o, .ref lst], []⟩) R s := by
 have hd' : dp + 3 < recursionLimit := by first | exact rc1 (by assumption) rfl | (rw [show recursionLimit = 1000 from rfl]; lia)
 k_dflt (refine' code_def ?k1 ?k2 ?k3 ?k4 ?k5 ?kA ?kF ?kK ?k6 ?k7 ?k8 ?k9 ?kB ?_ ?c2 ?c3 ?c4 ?c5; (case kA => exact rfl); (case kF => exact rfl); (case kK => first | exact rfl | assumption); (case k1 => k_asm); (case k2 => k_asm); (case k3 => k_asm); (case k4 => k_asm); (case k5 => k_asm); (case k6 => k_is); (case k7 => k_is); (case k8 => ktr_room); (case k9 => first | exact BindsTo.of_eq rfl | exact binds_K (by k_in) rfl (by k_is) rfl rfl rfl); (case c5 => decide); (case kB => exact locs rfl); (case c2 => exact rfl); (case c3 => exact rfl); (case c4 => exact rfl); k_whole; intro g' L' h' FG' F' N' B' X' T'; (try dsimp only); (try k_lift B'); (try k_fold))
 with_reducible rename Below _ _ _ _ => B1
 with_reducible rename Top _ _ _ _ _ _ => T1
 with_reducible rename Frag.In _ _ => X1
 with_reducible rename Fr _ _ _ _ => F0
 replace F0 := frBinds F0 (fun y => if y = "params" then some .none else if y = "fields" then some (.ref lst) else if y = "self" then some (.ref o) else none) (by kernel_rfl)
 k_steps
 refine unhold ?_
 with_reducible rename Fr _ _ _ _ => F1
 with_reducible rename News _ _ _ _ => N1
 have hlen : (txs xs).toArray.size = xs.length := by simp [txs_len]
 refine len_tuple (items := (txs xs).toArray) ⟨_, (N1 _ (.tail _ (.tail _ (.tail _ (.head _))))).1, rfl, _, rfl⟩ (by rw [hlen]; lia) ?_
 rw [hlen]
 k_steps
 refine unhold ?_
 refine genStr (P := 815) (c := 819) (op := op) (lst := lst) (ys := txs xs) F1 N1 hnP X1 T1 hop rfl rfl rfl rfl ⟨_, _, rfl⟩ ⟨_, _, rfl⟩ ⟨_, rfl⟩ ⟨_, _, rfl⟩ (by decide) rfl rfl rfl rfl rfl (by kernel_rfl) (.inr ⟨_, (N1 _ (.tail _ (.tail _ (.tail _ (.head _))))).1, rfl, _, rfl⟩) (hnP _ (.tail _ (.tail _ (.head _)))) (fun v hv => ?_) rfl ?_ rfl rfl (by decide) rfl rfl rfl (fun u' u' u' => rfl) (fun u' u' u' => rfl) (by k_is) (fun u' => by with_unfolding_all rfl) (fun ga s5 op5 F5 N5 hop5 hb5 ho5 hd5 hG => ?_)
 ·obtain ⟨l, t, _, rfl⟩ := txs_mem hv; exact ⟨_, _, rfl⟩
 ·show dp + 1 < recursionLimit; first | exact rm1 (by assumption) rfl | lia
 k_steps
 refine unhold ?_
 refine tupGen F1 N1 F5 N5 (fun p hp => ?_) hG (by rw [txs_len, List.length_map]; lia) (fun D s6 F6 N6 hDn hb6 ho6 hd6 => ?_)
 ·rcases List.mem_cons.mp hp with rfl | hp
  ·exact ⟨_, .head _, rfl⟩
  ·exact ⟨p, .tail _ hp, rfl⟩
 clear F1 N1 F5
 k_steps
 refine unhold ?_
 have N7 : News _ _ _ ((dx, dictOf [] 0) :: (o, instObj 869 dx) :: (D, ⟨.type "tuple", none, .seq (txs xs).toArray 0, #[]⟩) :: (815, op5) :: (lst, ⟨.type "tuple", none, .seq (txs xs).toArray k, #[]⟩) :: news) := fun p hp => N6 p (by
  exact sub hp)
 have hneT : ∀ p ∈ (o, instObj 869 dx) :: (D, (⟨.type "tuple", none, .seq (txs xs).toArray 0, #[]⟩ : Obj)) :: (815, op5) :: (lst, ⟨.type "tuple", none, .seq (txs xs).toArray k, #[]⟩) :: news, p.1 ≠ dx := fun p hp e => by
  simp only [List.mem_cons] at hp
  rcases hp with h | h | h | h | h
  ·exact hne (o, instObj 869 dx) (.tail _ (.head _)) (by rw [h] at e; exact e)
  ·exact hDn (dx, dictOf [] 0) (.tail _ (.head _)) (by rw [h] at e; exact e.symm)
  ·exact hnP (dx, dictOf [] 0) (.head _) (by rw [h] at e; exact e.symm)
  ·exact hne (lst, _) (.tail _ (.tail _ (.head _))) (by rw [h] at e; exact e)
  ·exact hne p (.tail _ (.tail _ (.tail _ h))) e
 refine setNew F6 N7 (X1.keeps F6.keep) (.head _) (by k_is) (by k_is) (by k_is) rfl rfl hneT (by kernel_rfl) (Nat.zero_le _) (fun h8 F8 N8 => ?_)
 clear F6 N6 N7
 k_steps
 refine unhold ?_
 refine params_spec _ _ _ _ _ _ _ _ _ _ _ _ _ _ _ _ _ B1 F8 X1 N8 T1 rfl ?_ ?_ (fun px pdx h9 tk9 F9 N9 ne9 => ?_)
 ·show dp + 1 + 15 < 500; first | exact rm2 (by assumption) rfl | lia
 ·show un + 3 + 100 < 200; first | exact rm2 (by assumption) rfl | lia
 clear F8 N8
 k_steps
 refine unhold ?_
 have N10 : News _ _ h9 ((dx, dictOf ([] ++ [ent w "fields" _ (.ref D)]) (0 + 1)) :: (o, instObj 869 dx) :: (D, ⟨.type "tuple", none, .seq (txs xs).toArray 0, #[]⟩) :: (815, op5) :: (lst, ⟨.type "tuple", none, .seq (txs xs).toArray k, #[]⟩) :: news) := fun p hp => N9 p (.tail _ (.tail _ hp))
 refine setNew F9 N10 (X1.keeps F9.keep) (.head _) (by k_is) (by k_is) (by k_is) rfl rfl hneT (by kernel_rfl) (Nat.le_of_ble_eq_true rfl) (fun h11 F11 N11 => ?_)
 clear F9 N9 N10
 k_steps
 with_reducible rename Fr h₀ L _ m => F12
 with_reducible rename News h₀ L _ _ => N12
 exact hret _ D px _ _ 0 op5 F12 (permN N12) hop5 (fun b => hb6 (hb5 b)) (ho6.trans ho5) (hd6.trans hd5)
theorem org_specT {w : World} {mean : ExcName → Option Value} {mg mb : Str → Option Value} {news : List (Addr × Obj)} (lst : Addr) (xs : List (List Nat × Tok)) (k : Nat) (op : Obj)
  (dp un : Nat) (gd : Option (List Code)) (cn : Str) (cs : Scope) (a : Addr) (ccd : Value) (cl : List (Str × Addr)) (outer : List Env) (A₀ : Around) (base h₀ : Heap) (L : Addr) (m : Str → Option Value) (s : Shared) (Q E : Value → Shared → Prop)
  (B : Below A₀ base outer h₀) (F : Fr h₀ L s.heap m) (X : (K w.params).In h₀) (N : News h₀ L s.heap ((815, op) :: news)) (hl : (lst, ⟨.type "tuple", none, .seq (txs xs).toArray k, #[]⟩) ∈ news) (hnP : ∀ p ∈ news, p.1 ≠ 815) (hop : TabOk op) (T : Top q0 (looseW q0 loose0) mean mg mb h₀) (hk : cs.kind = .function)
  (hxs : Texts (xs.map (·.1))) (hn : xs.length ≤ 30) (hn0 : 0 < xs.length)
  (hd : dp + 31 < 500) (hu : un + 131 < 200)
  (hret : ∀ (s' : Shared) (o dx D px : Addr) (t1 t2 kD : Nat) (op' : Obj), Fr h₀ L s'.heap m → News h₀ L s'.heap ((815, op') :: (dx, fldDict w t1 t2 D px) :: (o, instObj 869 dx) :: (D, ⟨.type "tuple", none, .seq (txs xs).toArray kD, #[]⟩) :: news) → TabOk op' → (AllBare s.gens → AllBare s'.gens) → s'.os = s.os → s'.drawn = s.drawn → Q (.ref o) s') :
  wpAny (model pw w) (ktrTop dp un gd cn cs L a ccd cl outer) (call (.ref 869) [.ref lst]) Q E s := by
 refine wpAny_call (make_K (fI := 820) F N (X.keeps F.keep) (by kernel_rfl) (by k_is) (by k_is) (fun o dx h1 F1 N1 ne1 lt1 => ?_))
 have e1 : (Code.builtin "type.__call__" { pos := [Value.ref 869, Value.ref lst] }).weight = 1 := rfl
 have e2 : (Code.builtin "type.__call__" { pos := [Value.ref 869, Value.ref lst] }).cUnits = 1 := rfl
 have N2 : News h₀ L h1 ((815, op) :: (dx, dictOf [] 0) :: (o, instObj 869 dx) :: (lst, ⟨.type "tuple", none, .seq (txs xs).toArray k, #[]⟩) :: news) := fun p hp => by
  revert p; refine mcons ?_ (mcons ?_ (mcons ?_ (mcons ?_ (fun p hp => ?_))))
  ·exact N1 _ (.tail _ (.tail _ (.head _)))
  ·exact N1 _ (.tail _ (.head _))
  ·exact N1 _ (.head _)
  ·exact N1 _ (.tail _ (.tail _ (.tail _ hl)))
  ·exact N1 _ (.tail _ (.tail _ (.tail _ hp)))
 have l815 := ne1 _ (.head _)
 refine org_initT o dx lst xs k op _ _ _ _ _ _ _ _ _ _ _ _ _ _ _ _ B F1 X N2 (fun p hp => ?_) (fun p hp => ?_) hop T hk hxs hn hn0 ?_ ?_ (fun s' D px t1 t2 kD op' F2 N3 ho' hb hos hdr => ⟨rfl, ?_⟩)
 ·revert p; refine mcons ?_ (mcons ?_ (mcons ?_ (fun p hp => ?_)))
  ·exact Nat.ne_of_lt l815
  ·exact Nat.ne_of_gt lt1
  ·exact Nat.ne_of_lt (ne1 _ (.tail _ hl))
  ·exact Nat.ne_of_lt (ne1 _ (.tail _ hp))
 ·revert p; refine mcons ?_ (mcons ?_ (mcons ?_ (fun p hp => ?_)))
  ·exact Nat.ne_of_gt l815
  ·exact Nat.ne_of_gt (Nat.lt_trans l815 lt1)
  ·exact hnP _ hl
  ·exact hnP _ hp
 ·rw [e1]; show dp + 1 + 30 < 500; first | exact rm2 (by assumption) rfl | lia
 ·rw [e2]; show un + 1 + 130 < 200; first | exact rm2 (by assumption) rfl | lia
 refine hret s' o dx D px t1 t2 kD op' F2 (fun p hp => N3 p ?_) ho' hb hos hdr
 exact sub hp
theorem org_initL {w : World} {mean : ExcName → Option Value} {mg mb : Str → Option Value} {news : List (Addr × Obj)} (o dx lst : Addr) (xs : List (List Nat × Tok)) (k : Nat) (op : Obj)
  (dp un : Nat) (gd : Option (List Code)) (cn : Str) (cs : Scope) (a : Addr) (ccd : Value) (cl : List (Str × Addr)) (outer : List Env) (A₀ : Around) (base h₀ : Heap) (L : Addr) (m : Str → Option Value) (s : Shared) (R : Result → Shared → Prop)
  (B : Below A₀ base outer h₀) (F : Fr h₀ L s.heap m) (X : (K w.params).In h₀) (N : News h₀ L s.heap ((815, op) :: (dx, dictOf [] 0) :: (o, instObj 869 dx) :: (lst, W.listOf (txs xs).toArray k) :: news)) (hne : ∀ p ∈ (815, op) :: (o, instObj 869 dx) :: (lst, W.listOf (txs xs).toArray k) :: news, p.1 ≠ dx)
  (hnP : ∀ p ∈ (dx, dictOf [] 0) :: (o, instObj 869 dx) :: (lst, W.listOf (txs xs).toArray k) :: news, p.1 ≠ 815) (hop : TabOk op) (T : Top q0 (looseW q0 loose0) mean mg mb h₀) (hk : cs.kind = .function)
  (hxs : Texts (xs.map (·.1))) (hn : xs.length ≤ 30) (hn0 : 0 < xs.length)
  (hd : dp + 30 < 500) (hu : un + 130 < 200)
  (hret : ∀ (s' : Shared) (D px : Addr) (t1 t2 kD : Nat) (op' : Obj), Fr h₀ L s'.heap m → News h₀ L s'.heap ((815, op') :: (dx, fldDict w t1 t2 D px) :: (o, instObj 869 dx) :: (D, ⟨.type "tuple", none, .seq (txs xs).toArray kD, #[]⟩) :: (lst, W.listOf (txs xs).toArray k) :: news) → TabOk op' → (AllBare s.gens → AllBare s'.gens) → s'.os = s.os → s'.drawn = s.drawn → R (.ok (.ret .none)) s') :
  codeAny (model pw w) (ktrTop dp un gd cn cs L a ccd cl outer) (.call (.ref 820) ⟨[.ref o, .ref lst], []⟩) R s := by
 have hd' : dp + 3 < recursionLimit := by first | exact rc1 (by assumption) rfl | (rw [show recursionLimit = 1000 from rfl]; lia)
 k_dflt (refine' code_def ?k1 ?k2 ?k3 ?k4 ?k5 ?kA ?kF ?kK ?k6 ?k7 ?k8 ?k9 ?kB ?_ ?c2 ?c3 ?c4 ?c5; (case kA => exact rfl); (case kF => exact rfl); (case kK => first | exact rfl | assumption); (case k1 => k_asm); (case k2 => k_asm); (case k3 => k_asm); (case k4 => k_asm); (case k5 => k_asm); (case k6 => k_is); (case k7 => k_is); (case k8 => ktr_room); (case k9 => first | exact BindsTo.of_eq rfl | exact binds_K (by k_in) rfl (by k_is) rfl rfl rfl); (case c5 => decide); (case kB => exact locs rfl); (case c2 => exact rfl); (case c3 => exact rfl); (case c4 => exact rfl); k_whole; intro g' L' h' FG' F' N' B' X' T'; (try dsimp only); (try k_lift B'); (try k_fold))
 with_reducible rename Below _ _ _ _ => B1
 with_reducible rename Top _ _ _ _ _ _ => T1
 with_reducible rename Frag.In _ _ => X1
 with_reducible rename Fr _ _ _ _ => F0
 replace F0 := frBinds F0 (fun y => if y = "params" then some .none else if y = "fields" then some (.ref lst) else if y = "self" then some (.ref o) else none) (by kernel_rfl)
 k_steps
 refine unhold ?_
 with_reducible rename Fr _ _ _ _ => F1
 with_reducible rename News _ _ _ _ => N1
 have hlen : (txs xs).toArray.size = xs.length := by simp [txs_len]
 refine len_list (items := (txs xs).toArray) ⟨_, (N1 _ (.tail _ (.tail _ (.tail _ (.head _))))).1, rfl, _, rfl⟩ (by rw [hlen]; lia) ?_
 rw [hlen]
 k_steps
 refine unhold ?_
 refine genStr (P := 815) (c := 819) (op := op) (lst := lst) (ys := txs xs) F1 N1 hnP X1 T1 hop rfl rfl rfl rfl ⟨_, _, rfl⟩ ⟨_, _, rfl⟩ ⟨_, rfl⟩ ⟨_, _, rfl⟩ (by decide) rfl rfl rfl rfl rfl (by kernel_rfl) (.inl ⟨_, (N1 _ (.tail _ (.tail _ (.tail _ (.head _))))).1, rfl, _, rfl⟩) (hnP _ (.tail _ (.tail _ (.head _)))) (fun v hv => ?_) rfl ?_ rfl rfl (by decide) rfl rfl rfl (fun u' u' u' => rfl) (fun u' u' u' => rfl) (by k_is) (fun u' => by with_unfolding_all rfl) (fun ga s5 op5 F5 N5 hop5 hb5 ho5 hd5 hG => ?_)
 ·obtain ⟨l, t, _, rfl⟩ := txs_mem hv; exact ⟨_, _, rfl⟩
 ·show dp + 1 < recursionLimit; first | exact rm1 (by assumption) rfl | lia
 k_steps
 refine unhold ?_
 refine tupGen F1 N1 F5 N5 (fun p hp => ?_) hG (by rw [txs_len, List.length_map]; lia) (fun D s6 F6 N6 hDn hb6 ho6 hd6 => ?_)
 ·rcases List.mem_cons.mp hp with rfl | hp
  ·exact ⟨_, .head _, rfl⟩
  ·exact ⟨p, .tail _ hp, rfl⟩
 clear F1 N1 F5
 k_steps
 refine unhold ?_
 have N7 : News _ _ _ ((dx, dictOf [] 0) :: (o, instObj 869 dx) :: (D, ⟨.type "tuple", none, .seq (txs xs).toArray 0, #[]⟩) :: (815, op5) :: (lst, W.listOf (txs xs).toArray k) :: news) := fun p hp => N6 p (by
  exact sub hp)
 have hneT : ∀ p ∈ (o, instObj 869 dx) :: (D, (⟨.type "tuple", none, .seq (txs xs).toArray 0, #[]⟩ : Obj)) :: (815, op5) :: (lst, W.listOf (txs xs).toArray k) :: news, p.1 ≠ dx := fun p hp e => by
  simp only [List.mem_cons] at hp
  rcases hp with h | h | h | h | h
  ·exact hne (o, instObj 869 dx) (.tail _ (.head _)) (by rw [h] at e; exact e)
  ·exact hDn (dx, dictOf [] 0) (.tail _ (.head _)) (by rw [h] at e; exact e.symm)
  ·exact hnP (dx, dictOf [] 0) (.head _) (by rw [h] at e; exact e.symm)
  ·exact hne (lst, _) (.tail _ (.tail _ (.head _))) (by rw [h] at e; exact e)
  ·exact hne p (.tail _ (.tail _ (.tail _ h))) e
 refine setNew F6 N7 (X1.keeps F6.keep) (.head _) (by k_is) (by k_is) (by k_is) rfl rfl hneT (by kernel_rfl) (Nat.zero_le _) (fun h8 F8 N8 => ?_)
 clear F6 N6 N7
 k_steps
 refine unhold ?_
 refine params_spec _ _ _ _ _ _ _ _ _ _ _ _ _ _ _ _ _ B1 F8 X1 N8 T1 rfl ?_ ?_ (fun px pdx h9 tk9 F9 N9 ne9 => ?_)
 ·show dp + 1 + 15 < 500; first | exact rm2 (by assumption) rfl | lia
 ·show un + 3 + 100 < 200; first | exact rm2 (by assumption) rfl | lia
 clear F8 N8
 k_steps
 refine unhold ?_
 have N10 : News _ _ h9 ((dx, dictOf ([] ++ [ent w "fields" _ (.ref D)]) (0 + 1)) :: (o, instObj 869 dx) :: (D, ⟨.type "tuple", none, .seq (txs xs).toArray 0, #[]⟩) :: (815, op5) :: (lst, W.listOf (txs xs).toArray k) :: news) := fun p hp => N9 p (.tail _ (.tail _ hp))
 refine setNew F9 N10 (X1.keeps F9.keep) (.head _) (by k_is) (by k_is) (by k_is) rfl rfl hneT (by kernel_rfl) (Nat.le_of_ble_eq_true rfl) (fun h11 F11 N11 => ?_)
 clear F9 N9 N10
 k_steps
 with_reducible rename Fr h₀ L _ m => F12
 with_reducible rename News h₀ L _ _ => N12
 exact hret _ D px _ _ 0 op5 F12 (permN N12) hop5 (fun b => hb6 (hb5 b)) (ho6.trans ho5) (hd6.trans hd5)
theorem org_specL {w : World} {mean : ExcName → Option Value} {mg mb : Str → Option Value} {news : List (Addr × Obj)} (lst : Addr) (xs : List (List Nat × Tok)) (k : Nat) (op : Obj)
  (dp un : Nat) (gd : Option (List Code)) (cn : Str) (cs : Scope) (a : Addr) (ccd : Value) (cl : List (Str × Addr)) (outer : List Env) (A₀ : Around) (base h₀ : Heap) (L : Addr) (m : Str → Option Value) (s : Shared) (Q E : Value → Shared → Prop)
  (B : Below A₀ base outer h₀) (F : Fr h₀ L s.heap m) (X : (K w.params).In h₀) (N : News h₀ L s.heap ((815, op) :: news)) (hl : (lst, W.listOf (txs xs).toArray k) ∈ news) (hnP : ∀ p ∈ news, p.1 ≠ 815) (hop : TabOk op) (T : Top q0 (looseW q0 loose0) mean mg mb h₀) (hk : cs.kind = .function)
  (hxs : Texts (xs.map (·.1))) (hn : xs.length ≤ 30) (hn0 : 0 < xs.length)
  (hd : dp + 31 < 500) (hu : un + 131 < 200)
  (hret : ∀ (s' : Shared) (o dx D px : Addr) (t1 t2 kD : Nat) (op' : Obj), Fr h₀ L s'.heap m → News h₀ L s'.heap ((815, op') :: (dx, fldDict w t1 t2 D px) :: (o, instObj 869 dx) :: (D, ⟨.type "tuple", none, .seq (txs xs).toArray kD, #[]⟩) :: news) → TabOk op' → (AllBare s.gens → AllBare s'.gens) → s'.os = s.os → s'.drawn = s.drawn → Q (.ref o) s') :
  wpAny (model pw w) (ktrTop dp un gd cn cs L a ccd cl outer) (call (.ref 869) [.ref lst]) Q E s := by
 refine wpAny_call (make_K (fI := 820) F N (X.keeps F.keep) (by kernel_rfl) (by k_is) (by k_is) (fun o dx h1 F1 N1 ne1 lt1 => ?_))
 have e1 : (Code.builtin "type.__call__" { pos := [Value.ref 869, Value.ref lst] }).weight = 1 := rfl
 have e2 : (Code.builtin "type.__call__" { pos := [Value.ref 869, Value.ref lst] }).cUnits = 1 := rfl
 have N2 : News h₀ L h1 ((815, op) :: (dx, dictOf [] 0) :: (o, instObj 869 dx) :: (lst, W.listOf (txs xs).toArray k) :: news) := fun p hp => by
  revert p; refine mcons ?_ (mcons ?_ (mcons ?_ (mcons ?_ (fun p hp => ?_))))
  ·exact N1 _ (.tail _ (.tail _ (.head _)))
  ·exact N1 _ (.tail _ (.head _))
  ·exact N1 _ (.head _)
  ·exact N1 _ (.tail _ (.tail _ (.tail _ hl)))
  ·exact N1 _ (.tail _ (.tail _ (.tail _ hp)))
 have l815 := ne1 _ (.head _)
 refine org_initL o dx lst xs k op _ _ _ _ _ _ _ _ _ _ _ _ _ _ _ _ B F1 X N2 (fun p hp => ?_) (fun p hp => ?_) hop T hk hxs hn hn0 ?_ ?_ (fun s' D px t1 t2 kD op' F2 N3 ho' hb hos hdr => ⟨rfl, ?_⟩)
 ·revert p; refine mcons ?_ (mcons ?_ (mcons ?_ (fun p hp => ?_)))
  ·exact Nat.ne_of_lt l815
  ·exact Nat.ne_of_gt lt1
  ·exact Nat.ne_of_lt (ne1 _ (.tail _ hl))
  ·exact Nat.ne_of_lt (ne1 _ (.tail _ hp))
 ·revert p; refine mcons ?_ (mcons ?_ (mcons ?_ (fun p hp => ?_)))
  ·exact Nat.ne_of_gt l815
  ·exact Nat.ne_of_gt (Nat.lt_trans l815 lt1)
  ·exact hnP _ hl
  ·exact hnP _ hp
 ·rw [e1]; show dp + 1 + 30 < 500; first | exact rm2 (by assumption) rfl | lia
 ·rw [e2]; show un + 1 + 130 < 200; first | exact rm2 (by assumption) rfl | lia
 refine hret s' o dx D px t1 t2 kD op' F2 (fun p hp => N3 p ?_) ho' hb hos hdr
 exact sub hp
end
noncomputable def fieldsOf (sep : Nat) (l : List Nat) : List (List Nat) := (splitG sep [] l).map unescL
theorem txs_of (ls : List (Str × Tok)) : strValues ls = txs (ls.map fun p => (p.1.cps.toList, p.2)) := by
 simp [txs, strValues, strOf]
theorem fields_of {sep : Nat} {l : List Nat} {ls : List (Str × Tok)} (h : ls.map (·.1) = splitS sep (strOf l)) : (ls.map fun p => (p.1.cps.toList, p.2)).map (·.1) = fieldsOf sep l := by
 have : ls.map (fun p => p.1.cps.toList) = (ls.map (·.1)).map fun x => x.cps.toList := by simp
 rw [List.map_map]
 show ls.map (fun p => p.1.cps.toList) = _
 rw [this, h]
 simp [splitS, fieldsOf, strOf]
theorem org_from {w : World} {mean : ExcName → Option Value} {mg mb : Str → Option Value} {news : List (Addr × Obj)} (l : List Nat) (tx : Tok)
  (dp un : Nat) (gd : Option (List Code)) (cn : Str) (cs : Scope) (a : Addr) (ccd : Value) (cl : List (Str × Addr)) (outer : List Env) (A₀ : Around) (base h₀ : Heap) (L : Addr) (m : Str → Option Value) (s : Shared) (Q E : Value → Shared → Prop)
  (B : Below A₀ base outer h₀) (F : Fr h₀ L s.heap m) (X : (K w.params).In h₀) (N : News h₀ L s.heap news) (T : Top q0 (looseW q0 loose0) mean mg mb h₀) (hk : cs.kind = .function)
  (hx : l.length ≤ 65536) (hn : (fieldsOf 59 l).length ≤ 1000)
  (hd : dp + 10 < 500) (hu : un + 40 < 200)
  (hret : ∀ (D : Addr) (xs : List (List Nat × Tok)) (h' : Heap) (tk' : Nat), Fr h₀ L h' m → News h₀ L h' ((D, ⟨.type "tuple", none, .seq (txs xs).toArray 0, #[]⟩) :: news) → xs.map (·.1) = fieldsOf 59 l → (∀ p ∈ news, p.1 ≠ D) → Q (.ref D) { s with heap := h', toks := tk' }) :
  wpAny (model pw w) (ktrTop dp un gd cn cs L a ccd cl outer) (call (.ref 832) [.str (strOf l) tx]) Q E s := by
 have hd' : dp + 3 < recursionLimit := by first | exact rc1 (by assumption) rfl | (rw [show recursionLimit = 1000 from rfl]; lia)
 refine wpAny_call ?_
 k_dflt cell_enter
 with_reducible rename Fr _ _ _ (fun y => _) => F1
 with_reducible rename Below _ _ _ _ => B1
 with_reducible rename Top _ _ _ _ _ _ => T1
 with_reducible rename Frag.In _ _ => X1
 replace F1 := frBinds F1 (fun y => if y = "ical" then some (.str (strOf l) tx) else none) (by kernel_rfl)
 k_steps
 refine unhold ?_
 with_reducible rename News _ _ _ _ => N1
 have c200 : 300 ≤ cLine := by decide
 have r500 : 600 ≤ recursionLimit := by decide
 refine uni_spec (strOf l) tx _ _ _ _ _ _ _ _ _ _ _ _ _ _ _ _ _ B1 F1 X1 N1 T1 rfl ?_ ?_ (fun h2 tk2 F2 N2 => ?_)
 ·show dp + 1 + 1 < recursionLimit; first | exact rm2 (by assumption) rfl | lia
 ·show un + 3 + 8 < cLine; first | exact rm2 (by assumption) rfl | lia
 clear F1 N1
 k_steps
 refine unhold ?_
 with_reducible rename Fr _ _ _ _ => F3
 with_reducible rename News _ _ _ _ => N3
 refine splits_spec (strOf l) tx _ _ _ _ _ _ _ _ _ _ _ _ _ _ _ _ _ B1 F3 X1 N3 T1 rfl (by rw [len_strOf]; exact hx) ?_ ?_ (fun lst ls k h4 tk4 F4 N4 ne4 hls => ?_)
 ·show dp + 1 + 2 < recursionLimit; first | exact rm2 (by assumption) rfl | lia
 ·show un + 3 + 16 < cLine; first | exact rm2 (by assumption) rfl | lia
 clear F3 N3
 k_steps
 refine unhold ?_
 with_reducible rename Fr _ _ _ _ => F5
 with_reducible rename News _ _ _ _ => N5
 refine tupList F5 N5 (.head _) (by have := congrArg List.length (fields_of hls); simp only [List.length_map] at this; simp only [strValues, List.size_toArray, List.length_map]; lia) (fun D h6 F6 N6 ne6 => ?_)
 clear F5 N5
 k_steps
 with_reducible rename Fr h₀ L _ m => F9
 with_reducible rename News h₀ L _ _ => N9
 rw [txs_of] at N9
 exact hret D _ _ _ F9 (drop2 N9) (fields_of hls) (fun p hp => ne6 p (.tail _ hp))
end
section
local macro_rules | `(tactic| walk_at "call builtin:len") => `(tactic| (refine hold ?_))
local macro_rules | `(tactic| walk_at "none") => `(tactic| fail)
theorem n_from {w : World} {mean : ExcName → Option Value} {mg mb : Str → Option Value} {news : List (Addr × Obj)} (l : List Nat) (tx : Tok)
  (dp un : Nat) (gd : Option (List Code)) (cn : Str) (cs : Scope) (a : Addr) (ccd : Value) (cl : List (Str × Addr)) (outer : List Env) (A₀ : Around) (base h₀ : Heap) (L : Addr) (m : Str → Option Value) (s : Shared) (Q E : Value → Shared → Prop)
  (B : Below A₀ base outer h₀) (F : Fr h₀ L s.heap m) (X : (K w.params).In h₀) (N : News h₀ L s.heap news) (T : Top q0 (looseW q0 loose0) mean mg mb h₀) (hk : cs.kind = .function)
  (hx : l.length ≤ 65536) (hn : (fieldsOf 59 l).length = 5)
  (hd : dp + 12 < 500) (hu : un + 40 < 200)
  (hret : ∀ (D dn : Addr) (xs : List (List Nat × Tok)) (h' : Heap) (tk' : Nat), Fr h₀ L h' m → News h₀ L h' ((D, tupSub 750 dn (txs xs)) :: (dn, dictOf [] 0) :: news) → xs.map (·.1) = fieldsOf 59 l → (∀ p ∈ news, p.1 ≠ D ∧ p.1 ≠ dn) → Q (.ref D) { s with heap := h', toks := tk' }) :
  wpAny (model pw w) (ktrTop dp un gd cn cs L a ccd cl outer) (call (.ref 780) [.str (strOf l) tx]) Q E s := by
 have hd' : dp + 3 < recursionLimit := by first | exact rc1 (by assumption) rfl | (rw [show recursionLimit = 1000 from rfl]; lia)
 refine wpAny_call ?_
 k_dflt cell_enter
 with_reducible rename Fr _ _ _ (fun y => _) => F1
 with_reducible rename Below _ _ _ _ => B1
 with_reducible rename Top _ _ _ _ _ _ => T1
 with_reducible rename Frag.In _ _ => X1
 replace F1 := frBinds F1 (fun y => if y = "ical" then some (.str (strOf l) tx) else none) (by kernel_rfl)
 k_steps
 refine unhold ?_
 with_reducible rename News _ _ _ _ => N1
 have c200 : 300 ≤ cLine := by decide
 have r500 : 600 ≤ recursionLimit := by decide
 refine uni_spec (strOf l) tx _ _ _ _ _ _ _ _ _ _ _ _ _ _ _ _ _ B1 F1 X1 N1 T1 rfl ?_ ?_ (fun h2 tk2 F2 N2 => ?_)
 ·show dp + 1 + 1 < recursionLimit; first | exact rm2 (by assumption) rfl | lia
 ·show un + 3 + 8 < cLine; first | exact rm2 (by assumption) rfl | lia
 clear F1 N1
 k_steps
 refine unhold ?_
 with_reducible rename Fr _ _ _ _ => F3
 with_reducible rename News _ _ _ _ => N3
 refine splits_spec (strOf l) tx _ _ _ _ _ _ _ _ _ _ _ _ _ _ _ _ _ B1 F3 X1 N3 T1 rfl (by rw [len_strOf]; exact hx) ?_ ?_ (fun lst ls k h4 tk4 F4 N4 ne4 hls => ?_)
 ·show dp + 1 + 2 < recursionLimit; first | exact rm2 (by assumption) rfl | lia
 ·show un + 3 + 16 < cLine; first | exact rm2 (by assumption) rfl | lia
 clear F3 N3
 have hll : ls.length = 5 := by have := congrArg List.length (fields_of hls); simp only [List.length_map] at this; lia
 k_steps
 refine unhold ?_
 have hsz : (strValues ls).toArray.size = 5 := by simpa [strValues] using hll
 with_reducible rename Fr _ _ _ _ => F5
 with_reducible rename News _ _ _ _ => N5
 refine len_list (items := (strValues ls).toArray) ⟨_, (N5 _ (.head _)).1, rfl, _, rfl⟩ (by rw [hsz]; decide) ?_
 rw [hsz]
 k_steps
 with_reducible rename Fr _ _ _ _ => F6
 with_reducible rename News _ _ _ _ => N6
 refine star_seq F6 N6 (.head _) rfl rfl (.inl rfl) (ws := strValues ls) rfl (by rw [hsz, sizeLine_eq]; decide) (fun h7 F7 N7 => ?_)
 clear F6 N6
 obtain ⟨a1, a2, a3, a4, a5, rfl⟩ := len5 hll
 refine ⟨X1.keeps F7.keep, ?_⟩
 refine nf_spec (.str a1.1 a1.2) (.str a2.1 a2.2) (.str a3.1 a3.2) (.str a4.1 a4.2) (.str a5.1 a5.2) _ _ _ _ _ _ _ _ _ _ _ _ _ _ _ _ _ B1 F7 X1 N7 T1 rfl ?_ ?_ (fun D dn h8 tk8 F8 N8 ne8 => ?_)
 ·show dp + 1 + 7 < 500; first | exact rm2 (by assumption) rfl | lia
 ·show un + 3 + 20 < 200; first | exact rm2 (by assumption) rfl | lia
 clear F7 N7
 k_steps
 with_reducible rename Fr h₀ L _ m => F9
 with_reducible rename News h₀ L _ _ => N9
 have ex := txs_of [a1, a2, a3, a4, a5]
 refine hret D dn _ _ _ F9 (fun p hp => N9 p ?_) (fields_of hls) (fun p hp => ne8 p (.tail _ hp))
 rw [← ex] at hp
 rcases List.mem_cons.mp hp with rfl | hp
 ·exact .head _
 ·rcases List.mem_cons.mp hp with rfl | hp
  ·exact .tail _ (.head _)
  ·exact .tail _ (.tail _ (.tail _ hp))
theorem adr_from {w : World} {mean : ExcName → Option Value} {mg mb : Str → Option Value} {news : List (Addr × Obj)} (l : List Nat) (tx : Tok)
  (dp un : Nat) (gd : Option (List Code)) (cn : Str) (cs : Scope) (a : Addr) (ccd : Value) (cl : List (Str × Addr)) (outer : List Env) (A₀ : Around) (base h₀ : Heap) (L : Addr) (m : Str → Option Value) (s : Shared) (Q E : Value → Shared → Prop)
  (B : Below A₀ base outer h₀) (F : Fr h₀ L s.heap m) (X : (K w.params).In h₀) (N : News h₀ L s.heap news) (T : Top q0 (looseW q0 loose0) mean mg mb h₀) (hk : cs.kind = .function)
  (hx : l.length ≤ 65536) (hn : (fieldsOf 59 l).length = 7)
  (hd : dp + 12 < 500) (hu : un + 40 < 200)
  (hret : ∀ (D dn : Addr) (xs : List (List Nat × Tok)) (h' : Heap) (tk' : Nat), Fr h₀ L h' m → News h₀ L h' ((D, tupSub 518 dn (txs xs)) :: (dn, dictOf [] 0) :: news) → xs.map (·.1) = fieldsOf 59 l → (∀ p ∈ news, p.1 ≠ D ∧ p.1 ≠ dn) → Q (.ref D) { s with heap := h', toks := tk' }) :
  wpAny (model pw w) (ktrTop dp un gd cn cs L a ccd cl outer) (call (.ref 548) [.str (strOf l) tx]) Q E s := by
 have hd' : dp + 3 < recursionLimit := by first | exact rc1 (by assumption) rfl | (rw [show recursionLimit = 1000 from rfl]; lia)
 refine wpAny_call ?_
 k_dflt cell_enter
 with_reducible rename Fr _ _ _ (fun y => _) => F1
 with_reducible rename Below _ _ _ _ => B1
 with_reducible rename Top _ _ _ _ _ _ => T1
 with_reducible rename Frag.In _ _ => X1
 replace F1 := frBinds F1 (fun y => if y = "ical" then some (.str (strOf l) tx) else none) (by kernel_rfl)
 k_steps
 refine unhold ?_
 with_reducible rename News _ _ _ _ => N1
 have c200 : 300 ≤ cLine := by decide
 have r500 : 600 ≤ recursionLimit := by decide
 refine uni_spec (strOf l) tx _ _ _ _ _ _ _ _ _ _ _ _ _ _ _ _ _ B1 F1 X1 N1 T1 rfl ?_ ?_ (fun h2 tk2 F2 N2 => ?_)
 ·show dp + 1 + 1 < recursionLimit; first | exact rm2 (by assumption) rfl | lia
 ·show un + 3 + 8 < cLine; first | exact rm2 (by assumption) rfl | lia
 clear F1 N1
 k_steps
 refine unhold ?_
 with_reducible rename Fr _ _ _ _ => F3
 with_reducible rename News _ _ _ _ => N3
 refine splits_spec (strOf l) tx _ _ _ _ _ _ _ _ _ _ _ _ _ _ _ _ _ B1 F3 X1 N3 T1 rfl (by rw [len_strOf]; exact hx) ?_ ?_ (fun lst ls k h4 tk4 F4 N4 ne4 hls => ?_)
 ·show dp + 1 + 2 < recursionLimit; first | exact rm2 (by assumption) rfl | lia
 ·show un + 3 + 16 < cLine; first | exact rm2 (by assumption) rfl | lia
 clear F3 N3
 have hll : ls.length = 7 := by have := congrArg List.length (fields_of hls); simp only [List.length_map] at this; lia
 k_steps
 refine unhold ?_
 have hsz : (strValues ls).toArray.size = 7 := by simpa [strValues] using hll
 with_reducible rename Fr _ _ _ _ => F5
 with_reducible rename News _ _ _ _ => N5
 refine len_list (items := (strValues ls).toArray) ⟨_, (N5 _ (.head _)).1, rfl, _, rfl⟩ (by rw [hsz]; decide) ?_
 rw [hsz]
 k_steps
 with_reducible rename Fr _ _ _ _ => F6
 with_reducible rename News _ _ _ _ => N6
 refine star_seq F6 N6 (.head _) rfl rfl (.inl rfl) (ws := strValues ls) rfl (by rw [hsz, sizeLine_eq]; decide) (fun h7 F7 N7 => ?_)
 clear F6 N6
 obtain ⟨a1, a2, a3, a4, a5, a6, a7, rfl⟩ := len7 hll
 refine ⟨X1.keeps F7.keep, ?_⟩
 refine af_spec (.str a1.1 a1.2) (.str a2.1 a2.2) (.str a3.1 a3.2) (.str a4.1 a4.2) (.str a5.1 a5.2) (.str a6.1 a6.2) (.str a7.1 a7.2) _ _ _ _ _ _ _ _ _ _ _ _ _ _ _ _ _ B1 F7 X1 N7 T1 rfl ?_ ?_ (fun D dn h8 tk8 F8 N8 ne8 => ?_)
 ·show dp + 1 + 7 < 500; first | exact rm2 (by assumption) rfl | lia
 ·show un + 3 + 20 < 200; first | exact rm2 (by assumption) rfl | lia
 clear F7 N7
 k_steps
 with_reducible rename Fr h₀ L _ m => F9
 with_reducible rename News h₀ L _ _ => N9
 have ex := txs_of [a1, a2, a3, a4, a5, a6, a7]
 refine hret D dn _ _ _ F9 (fun p hp => N9 p ?_) (fields_of hls) (fun p hp => ne8 p (.tail _ hp))
 rw [← ex] at hp
 rcases List.mem_cons.mp hp with rfl | hp
 ·exact .head _
 ·rcases List.mem_cons.mp hp with rfl | hp
  ·exact .tail _ (.head _)
  ·exact .tail _ (.tail _ (.tail _ hp))
section
local macro_rules | `(tactic| walk_at "formatField str") => `(tactic| (refine hold ?_))
local macro_rules | `(tactic| walk_at "leaving ref") => `(tactic| (refine hold ?_))
local macro_rules | `(tactic| walk_at "exec Raise some none") => `(tactic| (refine hold ?_))
theorem short_int : ∀ n : Fin 31, (PySem.Str.ofString (toString ((n : Nat) : Int))).length ≤ 2 := by decide +kernel
theorem n_fromE {w : World} {mean : ExcName → Option Value} {mg mb : Str → Option Value} {news : List (Addr × Obj)} (c : Addr) (oc : Obj) (vc : Array Value) (hvc : oc.data = .fields vc) (hv2 : vc[2]? = some .none) (l : List Nat) (tx : Tok)
  (dp un : Nat) (gd : Option (List Code)) (cn : Str) (cs : Scope) (a : Addr) (ccd : Value) (cl : List (Str × Addr)) (outer : List Env) (A₀ : Around) (base h₀ : Heap) (L : Addr) (m : Str → Option Value) (s : Shared) (Q E : Value → Shared → Prop)
  (B : Below A₀ base outer h₀) (F : Fr h₀ L s.heap m) (X : (K w.params).In h₀) (N : News h₀ L s.heap news) (hc : (c, oc) ∈ news) (T : Top q0 (looseW q0 loose0) mean mg mb h₀) (hk : cs.kind = .function)
  (hx : l.length ≤ 65536) (hn : (fieldsOf 59 l).length ≠ 5) (hn2 : (fieldsOf 59 l).length ≤ 30)
  (hd : dp + 12 < 500) (hu : un + 40 < 200)
  (hE : ∀ (e : Addr) (g h' : Heap) (tk' : Nat), Fr h₀ L g m → RaisedC base g (envX cn cs L a ccd cl :: outer) e "ValueError" (.ref c) news h' → g.UpToSlots h' → E (.ref e) { s with heap := h', toks := tk' }) :
  wpAny (model pw w) (ktrH (some (.ref c)) dp un gd cn cs L a ccd cl outer) (call (.ref 780) [.str (strOf l) tx]) Q E s := by
 have hd' : dp + 3 < recursionLimit := by first | exact rc1 (by assumption) rfl | (rw [show recursionLimit = 1000 from rfl]; lia)
 refine wpAny_call ?_
 k_dflt cell_enter
 with_reducible rename Fr _ _ _ (fun y => _) => F1
 with_reducible rename Below _ _ _ _ => B1
 with_reducible rename Top _ _ _ _ _ _ => T1
 with_reducible rename Frag.In _ _ => X1
 with_reducible rename Fr h₀ L _ m => FG0
 replace F1 := frBinds F1 (fun y => if y = "ical" then some (.str (strOf l) tx) else none) (by kernel_rfl)
 k_steps
 refine unhold ?_
 with_reducible rename News _ _ _ _ => N1
 have c200 : 300 ≤ cLine := by decide
 have r500 : 600 ≤ recursionLimit := by decide
 refine uni_spec (strOf l) tx _ _ _ _ _ _ _ _ _ _ _ _ _ _ _ _ _ B1 F1 X1 N1 T1 rfl ?_ ?_ (fun h2 tk2 F2 N2 => ?_)
 ·show dp + 1 + 1 < recursionLimit; first | exact rm2 (by assumption) rfl | lia
 ·show un + 3 + 8 < cLine; first | exact rm2 (by assumption) rfl | lia
 clear F1 N1
 k_steps
 refine unhold ?_
 with_reducible rename Fr _ _ _ _ => F3
 with_reducible rename News _ _ _ _ => N3
 refine splits_spec (strOf l) tx _ _ _ _ _ _ _ _ _ _ _ _ _ _ _ _ _ B1 F3 X1 N3 T1 rfl (by rw [len_strOf]; exact hx) ?_ ?_ (fun lst ls k h4 tk4 F4 N4 ne4 hls => ?_)
 ·show dp + 1 + 2 < recursionLimit; first | exact rm2 (by assumption) rfl | lia
 ·show un + 3 + 16 < cLine; first | exact rm2 (by assumption) rfl | lia
 clear F3 N3
 have hll : ls.length ≠ 5 ∧ ls.length ≤ 30 := by have := congrArg List.length (fields_of hls); simp only [List.length_map] at this; lia
 k_steps
 refine unhold ?_
 have hsz : (strValues ls).toArray.size = ls.length := by simp [strValues]
 with_reducible rename Fr _ _ _ _ => F5
 with_reducible rename News _ _ _ _ => N5
 refine len_list (items := (strValues ls).toArray) ⟨_, (N5 _ (.head _)).1, rfl, _, rfl⟩ (by rw [hsz]; lia) ?_
 rw [hsz]
 obtain ⟨hll1, hll2⟩ := hll
 k_steps
 rotate_left
 ·exact absurd (by assumption) (fun e : (ls.length : Int) = 5 => hll1 (by lia))
 refine unhold ?_
 with_reducible rename Fr _ _ _ (fun y => _) => F6
 with_reducible rename News _ _ _ _ => N6
 refine RaiseH PySem.F.excCall_ValueError PySem.F.excRaise_ValueError (c := c) rfl rfl (tp_builtin (v := .type "ValueError") F6 (by assumption) PyProof.Rows.Boot.«ValueError» ⟨rfl, ?_⟩)
 k_steps
 refine unhold ?_
 with_reducible rename Fr _ _ _ _ => F7
 with_reducible rename News _ _ _ _ => N7
 refine len_list (items := (strValues ls).toArray) ⟨_, (N7 _ (.head _)).1, rfl, _, rfl⟩ (by rw [hsz]; lia) ?_
 rw [hsz]
 k_steps
 refine unhold ?_
 have hsl : (Str.empty ++ PySem.Str.ofString "N must have exactly 5 fields, got " ++ PySem.Str.ofString (toString (ls.length : Int)) ++ PySem.Str.ofString ": " ++ strOf l).length ≤ sizeLine := by
  have h1 := short_int ⟨ls.length, by lia⟩
  dsimp only at h1
  simp only [Str.length_append, len_strOf]
  have h2 : (Str.empty).length = 0 := rfl
  have h3 : (PySem.Str.ofString ": ").length = 2 := rfl
  have h4 : (PySem.Str.ofString "N must have exactly 5 fields, got ").length ≤ 100 := by decide +kernel
  rw [sizeLine_eq]
  lia
 refine formatField_str (fun t8 tk8 => ?_) (by rw [len_strOf, sizeLine_eq]; lia)
 dsimp only
 refine ⟨hsl, ?_⟩
 show wpAny _ _ (mkStr _) _ _ _
 refine wpAny_mkStr ?_ hsl
 generalize (Str.empty ++ PySem.Str.ofString "N must have exactly 5 fields, got " ++ PySem.Str.ofString (toString (ls.length : Int)) ++ PySem.Str.ofString ": " ++ strOf l) = msg at *
 with_reducible rename Fr _ _ _ (fun y => _) => F8
 with_reducible rename News _ _ _ _ => N8
 refine unhold ⟨⟨oc, vc, (N8 _ (.tail _ hc)).1, hvc, hv2⟩, fun h9 e9 t9 hkeep hnew he9 => ?_⟩
 exact leaveC B1 hkeep hnew he9 rfl rfl rfl rfl F8 (fun p hp => N8 p (.tail _ hp)) (fun h10 RC U10 => hE _ _ h10 _ FG0 RC U10)
theorem adr_fromE {w : World} {mean : ExcName → Option Value} {mg mb : Str → Option Value} {news : List (Addr × Obj)} (c : Addr) (oc : Obj) (vc : Array Value) (hvc : oc.data = .fields vc) (hv2 : vc[2]? = some .none) (l : List Nat) (tx : Tok)
  (dp un : Nat) (gd : Option (List Code)) (cn : Str) (cs : Scope) (a : Addr) (ccd : Value) (cl : List (Str × Addr)) (outer : List Env) (A₀ : Around) (base h₀ : Heap) (L : Addr) (m : Str → Option Value) (s : Shared) (Q E : Value → Shared → Prop)
  (B : Below A₀ base outer h₀) (F : Fr h₀ L s.heap m) (X : (K w.params).In h₀) (N : News h₀ L s.heap news) (hc : (c, oc) ∈ news) (T : Top q0 (looseW q0 loose0) mean mg mb h₀) (hk : cs.kind = .function)
  (hx : l.length ≤ 65536) (hn : (fieldsOf 59 l).length ≠ 7) (hn2 : (fieldsOf 59 l).length ≤ 30)
  (hd : dp + 12 < 500) (hu : un + 40 < 200)
  (hE : ∀ (e : Addr) (g h' : Heap) (tk' : Nat), Fr h₀ L g m → RaisedC base g (envX cn cs L a ccd cl :: outer) e "ValueError" (.ref c) news h' → g.UpToSlots h' → E (.ref e) { s with heap := h', toks := tk' }) :
  wpAny (model pw w) (ktrH (some (.ref c)) dp un gd cn cs L a ccd cl outer) (call (.ref 548) [.str (strOf l) tx]) Q E s := by
 have hd' : dp + 3 < recursionLimit := by first | exact rc1 (by assumption) rfl | (rw [show recursionLimit = 1000 from rfl]; lia)
 refine wpAny_call ?_
 k_dflt cell_enter
 with_reducible rename Fr _ _ _ (fun y => _) => F1
 with_reducible rename Below _ _ _ _ => B1
 with_reducible rename Top _ _ _ _ _ _ => T1
 with_reducible rename Frag.In _ _ => X1
 with_reducible rename Fr h₀ L _ m => FG0
 replace F1 := frBinds F1 (fun y => if y = "ical" then some (.str (strOf l) tx) else none) (by kernel_rfl)
 k_steps
 refine unhold ?_
 with_reducible rename News _ _ _ _ => N1
 have c200 : 300 ≤ cLine := by decide
 have r500 : 600 ≤ recursionLimit := by decide
 refine uni_spec (strOf l) tx _ _ _ _ _ _ _ _ _ _ _ _ _ _ _ _ _ B1 F1 X1 N1 T1 rfl ?_ ?_ (fun h2 tk2 F2 N2 => ?_)
 ·show dp + 1 + 1 < recursionLimit; first | exact rm2 (by assumption) rfl | lia
 ·show un + 3 + 8 < cLine; first | exact rm2 (by assumption) rfl | lia
 clear F1 N1
 k_steps
 refine unhold ?_
 with_reducible rename Fr _ _ _ _ => F3
 with_reducible rename News _ _ _ _ => N3
 refine splits_spec (strOf l) tx _ _ _ _ _ _ _ _ _ _ _ _ _ _ _ _ _ B1 F3 X1 N3 T1 rfl (by rw [len_strOf]; exact hx) ?_ ?_ (fun lst ls k h4 tk4 F4 N4 ne4 hls => ?_)
 ·show dp + 1 + 2 < recursionLimit; first | exact rm2 (by assumption) rfl | lia
 ·show un + 3 + 16 < cLine; first | exact rm2 (by assumption) rfl | lia
 clear F3 N3
 have hll : ls.length ≠ 7 ∧ ls.length ≤ 30 := by have := congrArg List.length (fields_of hls); simp only [List.length_map] at this; lia
 k_steps
 refine unhold ?_
 have hsz : (strValues ls).toArray.size = ls.length := by simp [strValues]
 with_reducible rename Fr _ _ _ _ => F5
 with_reducible rename News _ _ _ _ => N5
 refine len_list (items := (strValues ls).toArray) ⟨_, (N5 _ (.head _)).1, rfl, _, rfl⟩ (by rw [hsz]; lia) ?_
 rw [hsz]
 obtain ⟨hll1, hll2⟩ := hll
 k_steps
 rotate_left
 ·exact absurd (by assumption) (fun e : (ls.length : Int) = 7 => hll1 (by lia))
 refine unhold ?_
 with_reducible rename Fr _ _ _ (fun y => _) => F6
 with_reducible rename News _ _ _ _ => N6
 refine RaiseH PySem.F.excCall_ValueError PySem.F.excRaise_ValueError (c := c) rfl rfl (tp_builtin (v := .type "ValueError") F6 (by assumption) PyProof.Rows.Boot.«ValueError» ⟨rfl, ?_⟩)
 k_steps
 refine unhold ?_
 with_reducible rename Fr _ _ _ _ => F7
 with_reducible rename News _ _ _ _ => N7
 refine len_list (items := (strValues ls).toArray) ⟨_, (N7 _ (.head _)).1, rfl, _, rfl⟩ (by rw [hsz]; lia) ?_
 rw [hsz]
 k_steps
 refine unhold ?_
 have hsl : (Str.empty ++ PySem.Str.ofString "ADR must have exactly 7 fields, got " ++ PySem.Str.ofString (toString (ls.length : Int)) ++ PySem.Str.ofString ": " ++ strOf l).length ≤ sizeLine := by
  have h1 := short_int ⟨ls.length, by lia⟩
  dsimp only at h1
  simp only [Str.length_append, len_strOf]
  have h2 : (Str.empty).length = 0 := rfl
  have h3 : (PySem.Str.ofString ": ").length = 2 := rfl
  have h4 : (PySem.Str.ofString "ADR must have exactly 7 fields, got ").length ≤ 100 := by decide +kernel
  rw [sizeLine_eq]
  lia
 refine formatField_str (fun t8 tk8 => ?_) (by rw [len_strOf, sizeLine_eq]; lia)
 dsimp only
 refine ⟨hsl, ?_⟩
 show wpAny _ _ (mkStr _) _ _ _
 refine wpAny_mkStr ?_ hsl
 generalize (Str.empty ++ PySem.Str.ofString "ADR must have exactly 7 fields, got " ++ PySem.Str.ofString (toString (ls.length : Int)) ++ PySem.Str.ofString ": " ++ strOf l) = msg at *
 with_reducible rename Fr _ _ _ (fun y => _) => F8
 with_reducible rename News _ _ _ _ => N8
 refine unhold ⟨⟨oc, vc, (N8 _ (.tail _ hc)).1, hvc, hv2⟩, fun h9 e9 t9 hkeep hnew he9 => ?_⟩
 exact leaveC B1 hkeep hnew he9 rfl rfl rfl rfl F8 (fun p hp => N8 p (.tail _ hp)) (fun h10 RC U10 => hE _ _ h10 _ FG0 RC U10)
end
section
local macro_rules | `(tactic| walk_at "getAttr ref") => `(tactic| (refine hold ?_))
local macro_rules | `(tactic| walk_at "setAttr ref") => `(tactic| (refine hold ?_))
local macro_rules | `(tactic| walk_at "eval GeneratorExp") => `(tactic| (refine hold ?_))
local macro_rules | `(tactic| walk_at "call type:tuple") => `(tactic| (refine hold ?_))
theorem n_initT {w : World} {mean : ExcName → Option Value} {mg mb : Str → Option Value} {news : List (Addr × Obj)} (o dx lst : Addr) (xs : List (List Nat × Tok)) (k : Nat) (op : Obj)
  (dp un : Nat) (gd : Option (List Code)) (cn : Str) (cs : Scope) (a : Addr) (ccd : Value) (cl : List (Str × Addr)) (outer : List Env) (A₀ : Around) (base h₀ : Heap) (L : Addr) (m : Str → Option Value) (s : Shared) (R : Result → Shared → Prop)
  (B : Below A₀ base outer h₀) (F : Fr h₀ L s.heap m) (X : (K w.params).In h₀) (N : News h₀ L s.heap ((763, op) :: (dx, dictOf [] 0) :: (o, instObj 801 dx) :: (lst, ⟨.type "tuple", none, .seq (txs xs).toArray k, #[]⟩) :: news)) (hne : ∀ p ∈ (763, op) :: (o, instObj 801 dx) :: (lst, (⟨.type "tuple", none, .seq (txs xs).toArray k, #[]⟩ : Obj)) :: news, p.1 ≠ dx)
  (hnP : ∀ p ∈ (dx, dictOf [] 0) :: (o, instObj 801 dx) :: (lst, (⟨.type "tuple", none, .seq (txs xs).toArray k, #[]⟩ : Obj)) :: news, p.1 ≠ 763) (hop : TabOk op) (T : Top q0 (looseW q0 loose0) mean mg mb h₀) (hk : cs.kind = .function)
  (hxs : Texts (xs.map (·.1))) (hn5 : xs.length = 5)
  (hd : dp + 30 < 500) (hu : un + 130 < 200)
  (hret : ∀ (s' : Shared) (D dn px : Addr) (t1 t2 : Nat) (op' : Obj), Fr h₀ L s'.heap m → News h₀ L s'.heap ((763, op') :: (dx, fldDict w t1 t2 D px) :: (o, instObj 801 dx) :: (D, tupSub 750 dn (txs xs)) :: (lst, ⟨.type "tuple", none, .seq (txs xs).toArray k, #[]⟩) :: news) → TabOk op' → (AllBare s.gens → AllBare s'.gens) → s'.os = s.os → s'.drawn = s.drawn → R (.ok (.ret .none)) s') :
  codeAny (model pw w) (ktrTop dp un gd cn cs L a ccd cl outer) (.call (.ref 768) ⟨[.ref o, .ref lst], []⟩) R s := by
 have hn : xs.length ≤ 30 := by lia
 have hd' : dp + 3 < recursionLimit := by first | exact rc1 (by assumption) rfl | (rw [show recursionLimit = 1000 from rfl]; lia)
 k_dflt (refine' code_def ?k1 ?k2 ?k3 ?k4 ?k5 ?kA ?kF ?kK ?k6 ?k7 ?k8 ?k9 ?kB ?_ ?c2 ?c3 ?c4 ?c5; (case kA => exact rfl); (case kF => exact rfl); (case kK => first | exact rfl | assumption); (case k1 => k_asm); (case k2 => k_asm); (case k3 => k_asm); (case k4 => k_asm); (case k5 => k_asm); (case k6 => k_is); (case k7 => k_is); (case k8 => ktr_room); (case k9 => first | exact BindsTo.of_eq rfl | exact binds_K (by k_in) rfl (by k_is) rfl rfl rfl); (case c5 => decide); (case kB => exact locs rfl); (case c2 => exact rfl); (case c3 => exact rfl); (case c4 => exact rfl); k_whole; intro g' L' h' FG' F' N' B' X' T'; (try dsimp only); (try k_lift B'); (try k_fold))
 with_reducible rename Below _ _ _ _ => B1
 with_reducible rename Top _ _ _ _ _ _ => T1
 with_reducible rename Frag.In _ _ => X1
 with_reducible rename Fr _ _ _ _ => F0
 replace F0 := frBinds F0 (fun y => if y = "params" then some .none else if y = "fields" then some (.ref lst) else if y = "self" then some (.ref o) else none) (by kernel_rfl)
 k_steps
 refine unhold ?_
 with_reducible rename Fr _ _ _ _ => F1
 with_reducible rename News _ _ _ _ => N1
 have hlen : (txs xs).toArray.size = xs.length := by simp [txs_len]
 refine len_tuple (items := (txs xs).toArray) ⟨_, (N1 _ (.tail _ (.tail _ (.tail _ (.head _))))).1, rfl, _, rfl⟩ (by rw [hlen]; lia) ?_
 rw [hlen, hn5]
 k_steps
 refine unhold ?_
 refine genStr (P := 763) (c := 767) (op := op) (lst := lst) (ys := txs xs) F1 N1 hnP X1 T1 hop rfl rfl rfl rfl ⟨_, _, rfl⟩ ⟨_, _, rfl⟩ ⟨_, rfl⟩ ⟨_, _, rfl⟩ (by decide) rfl rfl rfl rfl rfl (by kernel_rfl) (.inr ⟨_, (N1 _ (.tail _ (.tail _ (.tail _ (.head _))))).1, rfl, _, rfl⟩) (hnP _ (.tail _ (.tail _ (.head _)))) (fun v hv => ?_) rfl ?_ rfl rfl (by decide) rfl rfl rfl (fun u' u' u' => rfl) (fun u' u' u' => rfl) (by k_is) (fun u' => by with_unfolding_all rfl) (fun ga s5 op5 F5 N5 hop5 hb5 ho5 hd5 hG => ?_)
 ·obtain ⟨l, t, _, rfl⟩ := txs_mem hv; exact ⟨_, _, rfl⟩
 ·show dp + 1 < recursionLimit; first | exact rm1 (by assumption) rfl | lia
 k_steps
 refine starGen F1 N1 F5 N5 (fun p hp => ?_) hG (by rw [txs_len, List.length_map]; lia) (fun s6 F6 N6 hb6 ho6 hd6 => ?_)
 ·rcases List.mem_cons.mp hp with rfl | hp
  ·exact ⟨_, .head _, rfl⟩
  ·exact ⟨p, .tail _ hp, rfl⟩
 refine ⟨X1.keeps F6.keep, ?_⟩
 obtain ⟨a1, a2, a3, a4, a5, rfl⟩ := len5 hn5
 refine nf_spec (.str (strOf a1.1) a1.2) (.str (strOf a2.1) a2.2) (.str (strOf a3.1) a3.2) (.str (strOf a4.1) a4.2) (.str (strOf a5.1) a5.2) _ _ _ _ _ _ _ _ _ _ _ _ _ _ _ _ _ B1 F6 X1 N6 T1 rfl ?_ ?_ (fun D dn h7 tk7 F7 N7' neD => ?_)
 ·show dp + 1 + 7 < 500; first | exact rm2 (by assumption) rfl | lia
 ·show un + 3 + 20 < 200; first | exact rm2 (by assumption) rfl | lia
 generalize hxs' : [a1, a2, a3, a4, a5] = xs at *
 have ex : [Value.str (strOf a1.1) a1.2, Value.str (strOf a2.1) a2.2, Value.str (strOf a3.1) a3.2, Value.str (strOf a4.1) a4.2, Value.str (strOf a5.1) a5.2] = txs xs := by rw [← hxs']; rfl
 rw [ex] at N7'
 clear F1 N1 F5 F6 N6
 k_steps
 refine unhold ?_
 with_reducible rename Fr _ _ _ _ => F8
 have N8 : News _ _ h7 ((dx, dictOf [] 0) :: (o, instObj 801 dx) :: (D, tupSub 750 dn (txs xs)) :: (763, op5) :: (lst, ⟨.type "tuple", none, .seq (txs xs).toArray k, #[]⟩) :: news) := fun p hp => N7' p (by
  exact sub hp)
 have hneT : ∀ p ∈ (o, instObj 801 dx) :: (D, tupSub 750 dn (txs xs)) :: (763, op5) :: (lst, ⟨.type "tuple", none, .seq (txs xs).toArray k, #[]⟩) :: news, p.1 ≠ dx := fun p hp e => by
  simp only [List.mem_cons] at hp
  rcases hp with h | h | h | h | h
  ·exact hne (o, instObj 801 dx) (.tail _ (.head _)) (by rw [h] at e; exact e)
  ·exact (neD (dx, dictOf [] 0) (.tail _ (.head _))).1 (by rw [h] at e; exact e.symm)
  ·exact hnP (dx, dictOf [] 0) (.head _) (by rw [h] at e; exact e.symm)
  ·exact hne (lst, _) (.tail _ (.tail _ (.head _))) (by rw [h] at e; exact e)
  ·exact hne p (.tail _ (.tail _ (.tail _ h))) e
 refine setNew F8 N8 (X1.keeps F8.keep) (.head _) (by k_is) (by k_is) (by k_is) rfl rfl hneT (by kernel_rfl) (Nat.zero_le _) (fun h8 F9 N9 => ?_)
 clear F8 N8 N7'
 k_steps
 refine unhold ?_
 refine params_spec _ _ _ _ _ _ _ _ _ _ _ _ _ _ _ _ _ B1 F9 X1 N9 T1 rfl ?_ ?_ (fun px pdx h9 tk9 F10 N10 ne10 => ?_)
 ·show dp + 1 + 15 < 500; first | exact rm2 (by assumption) rfl | lia
 ·show un + 3 + 100 < 200; first | exact rm2 (by assumption) rfl | lia
 clear F9 N9
 k_steps
 refine unhold ?_
 have N11 : News _ _ h9 ((dx, dictOf ([] ++ [ent w "fields" _ (.ref D)]) (0 + 1)) :: (o, instObj 801 dx) :: (D, tupSub 750 dn (txs xs)) :: (763, op5) :: (lst, ⟨.type "tuple", none, .seq (txs xs).toArray k, #[]⟩) :: news) := fun p hp => N10 p (.tail _ (.tail _ hp))
 refine setNew F10 N11 (X1.keeps F10.keep) (.head _) (by k_is) (by k_is) (by k_is) rfl rfl hneT (by kernel_rfl) (Nat.le_of_ble_eq_true rfl) (fun h11 F12 N12 => ?_)
 clear F10 N10 N11
 k_steps
 with_reducible rename Fr h₀ L _ m => F13
 with_reducible rename News h₀ L _ _ => N13
 exact hret _ D dn px _ _ op5 F13 (permN N13) hop5 (fun b => hb6 (hb5 b)) (ho6.trans ho5) (hd6.trans hd5)
theorem adr_initT {w : World} {mean : ExcName → Option Value} {mg mb : Str → Option Value} {news : List (Addr × Obj)} (o dx lst : Addr) (xs : List (List Nat × Tok)) (k : Nat) (op : Obj)
  (dp un : Nat) (gd : Option (List Code)) (cn : Str) (cs : Scope) (a : Addr) (ccd : Value) (cl : List (Str × Addr)) (outer : List Env) (A₀ : Around) (base h₀ : Heap) (L : Addr) (m : Str → Option Value) (s : Shared) (R : Result → Shared → Prop)
  (B : Below A₀ base outer h₀) (F : Fr h₀ L s.heap m) (X : (K w.params).In h₀) (N : News h₀ L s.heap ((531, op) :: (dx, dictOf [] 0) :: (o, instObj 569 dx) :: (lst, ⟨.type "tuple", none, .seq (txs xs).toArray k, #[]⟩) :: news)) (hne : ∀ p ∈ (531, op) :: (o, instObj 569 dx) :: (lst, (⟨.type "tuple", none, .seq (txs xs).toArray k, #[]⟩ : Obj)) :: news, p.1 ≠ dx)
  (hnP : ∀ p ∈ (dx, dictOf [] 0) :: (o, instObj 569 dx) :: (lst, (⟨.type "tuple", none, .seq (txs xs).toArray k, #[]⟩ : Obj)) :: news, p.1 ≠ 531) (hop : TabOk op) (T : Top q0 (looseW q0 loose0) mean mg mb h₀) (hk : cs.kind = .function)
  (hxs : Texts (xs.map (·.1))) (hn5 : xs.length = 7)
  (hd : dp + 30 < 500) (hu : un + 130 < 200)
  (hret : ∀ (s' : Shared) (D dn px : Addr) (t1 t2 : Nat) (op' : Obj), Fr h₀ L s'.heap m → News h₀ L s'.heap ((531, op') :: (dx, fldDict w t1 t2 D px) :: (o, instObj 569 dx) :: (D, tupSub 518 dn (txs xs)) :: (lst, ⟨.type "tuple", none, .seq (txs xs).toArray k, #[]⟩) :: news) → TabOk op' → (AllBare s.gens → AllBare s'.gens) → s'.os = s.os → s'.drawn = s.drawn → R (.ok (.ret .none)) s') :
  codeAny (model pw w) (ktrTop dp un gd cn cs L a ccd cl outer) (.call (.ref 536) ⟨[.ref o, .ref lst], []⟩) R s := by
 have hn : xs.length ≤ 30 := by lia
 have hd' : dp + 3 < recursionLimit := by first | exact rc1 (by assumption) rfl | (rw [show recursionLimit = 1000 from rfl]; lia)
 k_dflt (refine' code_def ?k1 ?k2 ?k3 ?k4 ?k5 ?kA ?kF ?kK ?k6 ?k7 ?k8 ?k9 ?kB ?_ ?c2 ?c3 ?c4 ?c5; (case kA => exact rfl); (case kF => exact rfl); (case kK => first | exact rfl | assumption); (case k1 => k_asm); (case k2 => k_asm); (case k3 => k_asm); (case k4 => k_asm); (case k5 => k_asm); (case k6 => k_is); (case k7 => k_is); (case k8 => ktr_room); (case k9 => first | exact BindsTo.of_eq rfl | exact binds_K (by k_in) rfl (by k_is) rfl rfl rfl); (case c5 => decide); (case kB => exact locs rfl); (case c2 => exact rfl); (case c3 => exact rfl); (case c4 => exact rfl); k_whole; intro g' L' h' FG' F' N' B' X' T'; (try dsimp only); (try k_lift B'); (try k_fold))
 with_reducible rename Below _ _ _ _ => B1
 with_reducible rename Top _ _ _ _ _ _ => T1
 with_reducible rename Frag.In _ _ => X1
 with_reducible rename Fr _ _ _ _ => F0
 replace F0 := frBinds F0 (fun y => if y = "params" then some .none else if y = "fields" then some (.ref lst) else if y = "self" then some (.ref o) else none) (by kernel_rfl)
 k_steps
 refine unhold ?_
 with_reducible rename Fr _ _ _ _ => F1
 with_reducible rename News _ _ _ _ => N1
 have hlen : (txs xs).toArray.size = xs.length := by simp [txs_len]
 refine len_tuple (items := (txs xs).toArray) ⟨_, (N1 _ (.tail _ (.tail _ (.tail _ (.head _))))).1, rfl, _, rfl⟩ (by rw [hlen]; lia) ?_
 rw [hlen, hn5]
 k_steps
 refine unhold ?_
 refine genStr (P := 531) (c := 535) (op := op) (lst := lst) (ys := txs xs) F1 N1 hnP X1 T1 hop rfl rfl rfl rfl ⟨_, _, rfl⟩ ⟨_, _, rfl⟩ ⟨_, rfl⟩ ⟨_, _, rfl⟩ (by decide) rfl rfl rfl rfl rfl (by kernel_rfl) (.inr ⟨_, (N1 _ (.tail _ (.tail _ (.tail _ (.head _))))).1, rfl, _, rfl⟩) (hnP _ (.tail _ (.tail _ (.head _)))) (fun v hv => ?_) rfl ?_ rfl rfl (by decide) rfl rfl rfl (fun u' u' u' => rfl) (fun u' u' u' => rfl) (by k_is) (fun u' => by with_unfolding_all rfl) (fun ga s5 op5 F5 N5 hop5 hb5 ho5 hd5 hG => ?_)
 ·obtain ⟨l, t, _, rfl⟩ := txs_mem hv; exact ⟨_, _, rfl⟩
 ·show dp + 1 < recursionLimit; first | exact rm1 (by assumption) rfl | lia
 k_steps
 refine starGen F1 N1 F5 N5 (fun p hp => ?_) hG (by rw [txs_len, List.length_map]; lia) (fun s6 F6 N6 hb6 ho6 hd6 => ?_)
 ·rcases List.mem_cons.mp hp with rfl | hp
  ·exact ⟨_, .head _, rfl⟩
  ·exact ⟨p, .tail _ hp, rfl⟩
 refine ⟨X1.keeps F6.keep, ?_⟩
 obtain ⟨a1, a2, a3, a4, a5, a6, a7, rfl⟩ := len7 hn5
 refine af_spec (.str (strOf a1.1) a1.2) (.str (strOf a2.1) a2.2) (.str (strOf a3.1) a3.2) (.str (strOf a4.1) a4.2) (.str (strOf a5.1) a5.2) (.str (strOf a6.1) a6.2) (.str (strOf a7.1) a7.2) _ _ _ _ _ _ _ _ _ _ _ _ _ _ _ _ _ B1 F6 X1 N6 T1 rfl ?_ ?_ (fun D dn h7 tk7 F7 N7' neD => ?_)
 ·show dp + 1 + 7 < 500; first | exact rm2 (by assumption) rfl | lia
 ·show un + 3 + 20 < 200; first | exact rm2 (by assumption) rfl | lia
 generalize hxs' : [a1, a2, a3, a4, a5, a6, a7] = xs at *
 have ex : [Value.str (strOf a1.1) a1.2, Value.str (strOf a2.1) a2.2, Value.str (strOf a3.1) a3.2, Value.str (strOf a4.1) a4.2, Value.str (strOf a5.1) a5.2, Value.str (strOf a6.1) a6.2, Value.str (strOf a7.1) a7.2] = txs xs := by rw [← hxs']; rfl
 rw [ex] at N7'
 clear F1 N1 F5 F6 N6
 k_steps
 refine unhold ?_
 with_reducible rename Fr _ _ _ _ => F8
 have N8 : News _ _ h7 ((dx, dictOf [] 0) :: (o, instObj 569 dx) :: (D, tupSub 518 dn (txs xs)) :: (531, op5) :: (lst, ⟨.type "tuple", none, .seq (txs xs).toArray k, #[]⟩) :: news) := fun p hp => N7' p (by
  exact sub hp)
 have hneT : ∀ p ∈ (o, instObj 569 dx) :: (D, tupSub 518 dn (txs xs)) :: (531, op5) :: (lst, ⟨.type "tuple", none, .seq (txs xs).toArray k, #[]⟩) :: news, p.1 ≠ dx := fun p hp e => by
  simp only [List.mem_cons] at hp
  rcases hp with h | h | h | h | h
  ·exact hne (o, instObj 569 dx) (.tail _ (.head _)) (by rw [h] at e; exact e)
  ·exact (neD (dx, dictOf [] 0) (.tail _ (.head _))).1 (by rw [h] at e; exact e.symm)
  ·exact hnP (dx, dictOf [] 0) (.head _) (by rw [h] at e; exact e.symm)
  ·exact hne (lst, _) (.tail _ (.tail _ (.head _))) (by rw [h] at e; exact e)
  ·exact hne p (.tail _ (.tail _ (.tail _ h))) e
 refine setNew F8 N8 (X1.keeps F8.keep) (.head _) (by k_is) (by k_is) (by k_is) rfl rfl hneT (by kernel_rfl) (Nat.zero_le _) (fun h8 F9 N9 => ?_)
 clear F8 N8 N7'
 k_steps
 refine unhold ?_
 refine params_spec _ _ _ _ _ _ _ _ _ _ _ _ _ _ _ _ _ B1 F9 X1 N9 T1 rfl ?_ ?_ (fun px pdx h9 tk9 F10 N10 ne10 => ?_)
 ·show dp + 1 + 15 < 500; first | exact rm2 (by assumption) rfl | lia
 ·show un + 3 + 100 < 200; first | exact rm2 (by assumption) rfl | lia
 clear F9 N9
 k_steps
 refine unhold ?_
 have N11 : News _ _ h9 ((dx, dictOf ([] ++ [ent w "fields" _ (.ref D)]) (0 + 1)) :: (o, instObj 569 dx) :: (D, tupSub 518 dn (txs xs)) :: (531, op5) :: (lst, ⟨.type "tuple", none, .seq (txs xs).toArray k, #[]⟩) :: news) := fun p hp => N10 p (.tail _ (.tail _ hp))
 refine setNew F10 N11 (X1.keeps F10.keep) (.head _) (by k_is) (by k_is) (by k_is) rfl rfl hneT (by kernel_rfl) (Nat.le_of_ble_eq_true rfl) (fun h11 F12 N12 => ?_)
 clear F10 N10 N11
 k_steps
 with_reducible rename Fr h₀ L _ m => F13
 with_reducible rename News h₀ L _ _ => N13
 exact hret _ D dn px _ _ op5 F13 (permN N13) hop5 (fun b => hb6 (hb5 b)) (ho6.trans ho5) (hd6.trans hd5)
end
end
end
noncomputable abbrev Fld := Addr × List (Nat × Tok) × Nat
noncomputable def fdVals (fs : List Fld) : List Value := fs.map fun p => .ref p.1
noncomputable def FdsIn (news : List (Addr × Obj)) (fs : List Fld) : Prop := ∀ p ∈ fs, (p.1, W.listOf (intVals p.2.1).toArray p.2.2) ∈ news
noncomputable def fds (fs : List Fld) : List (List Nat) := fs.map fun p => p.2.1.map (·.1)
noncomputable def textOf (tab : Nat → List Nat) (f : List Nat) : List Nat := (f.map tab).flatten
structure FdOk (fs : List Fld) : Prop where
 dig : ∀ p ∈ fs, (∀ q ∈ p.2.1, q.1 < 9) ∧ p.2.1.length ≤ 6
 few : fs.length ≤ 8
 some : fs ≠ []
theorem intVals_inj {a b : List (Nat × Tok)} (h : (intVals a).toArray = (intVals b).toArray) : a.map (·.1) = b.map (·.1) := by
 have h1 : intVals a = intVals b := by simpa using h
 have h2 := congrArg (List.map fun v : Value => match v with | .int n _ => n | _ => 0) h1
 simp only [intVals, List.map_map] at h2
 have h3 : (a.map (·.1)).map (fun n : Nat => (n : Int)) = (b.map (·.1)).map (fun n : Nat => (n : Int)) := by simpa [List.map_map, Function.comp_def] using h2
 exact (List.map_inj_right (fun x y e => by lia)).mp h3
theorem join_out {H h s0 : Heap} {S : List Addr} {tab : Nat → List Nat} : ∀ (fs : List Fld) (zs : List Value), (∀ p ∈ fs, H.get? p.1 = some (W.listOf (intVals p.2.1).toArray p.2.2)) → Paired (ObjAt S s0 (JoinRel H tab) h) (fdVals fs) zs → ∃ us, zs = txs us ∧ us.map (·.1) = (fds fs).map (textOf tab)
 | [], _, _, hp => by cases hp; exact ⟨[], rfl, rfl⟩
 | f :: fs, _, hf, hp => by
  cases hp with
  | cons q1 q2 =>
   refine ob1_2 (join_out fs _ (fun p hp => hf p (.tail _ hp)) q2) fun us eq1 hus => ?_
   subst eq1
   obtain ⟨os, ⟨a, ds, k, t', e1, e2, rfl, rfl⟩, _⟩ := q1
   have ea : f.1 = a := by injection e1
   subst ea
   rw [hf f (.head _)] at e2
   have e3 := Option.some.inj e2
   have e4 : (intVals f.2.1).toArray = (intVals ds).toArray := by
    have := congrArg Obj.data e3
    exact (by simpa [W.listOf] using this : intVals f.2.1 = intVals ds ∧ f.2.2 = k).1 ▸ rfl
   refine ⟨(textOf tab (ds.map (·.1)), t') :: us, rfl, ?_⟩
   simp only [List.map_cons, hus, fds, intVals_inj e4]
theorem textOf_len {tab : Nat → List Nat} (h : ∀ d < 9, (tab d).length ≤ 2) : ∀ f : List Nat, (∀ d ∈ f, d < 9) → (textOf tab f).length ≤ 2 * f.length
 | [], _ => Nat.le_refl _
 | d :: f, hd => by
  have h1 := textOf_len h f fun p hp => hd p (.tail _ hp)
  have h2 := h d (hd d (.head _))
  simp only [textOf, List.map_cons, List.flatten_cons, List.length_append, List.length_cons] at h1 ⊢
  lia
theorem fds_ok {fs : List Fld} (ok : FdOk fs) : ∀ f ∈ fds fs, (∀ d ∈ f, d < 9) ∧ f.length ≤ 6 := fun f hf => by
 simp only [fds, List.mem_map] at hf
 refine ob1_2 hf fun p hp eq2 => ?_
 clear hf
 subst eq2
 obtain ⟨h1, h2⟩ := ok.dig p hp
 refine ⟨fun d hd => ?_, by simpa using h2⟩
 refine ob1_2 (List.mem_map.mp hd) fun q hq eq2 => ?_
 subst eq2
 exact h1 q hq
theorem total_fds {fs : List Fld} {tab : Nat → List Nat} (h : ∀ d < 9, (tab d).length ≤ 2) (ok : FdOk fs) : total ((fds fs).map (textOf tab)) ≤ 200 := by
 refine Nat.le_trans (total_le (B := 12) fun l hl => ?_) ?_
 ·refine ob1_2 (List.mem_map.mp hl) fun f hf eq2 => ?_
  subst eq2
  have := textOf_len h f (fds_ok ok f hf).1
  have := (fds_ok ok f hf).2
  lia
 ·have := ok.few
  simp only [fds, List.length_map]
  lia
theorem escTab_esc : ∀ d < 9, escTab d = escL (signTab d) := by decide
theorem escL_append (a b : List Nat) : escL (a ++ b) = escL a ++ escL b := by simp [escL]
theorem textOf_esc : ∀ f : List Nat, (∀ d ∈ f, d < 9) → textOf escTab f = escL (textOf signTab f)
 | [], _ => rfl
 | d :: f, h => by
  have h1 := textOf_esc f fun x hx => h x (.tail _ hx)
  simp only [textOf, List.map_cons, List.flatten_cons] at h1 ⊢
  rw [escL_append, h1, escTab_esc d (h d (.head _))]
theorem told_esc {fs : List Fld} (ok : FdOk fs) : (fds fs).map (textOf escTab) = ((fds fs).map (textOf signTab)).map escL := by
 rw [List.map_map]
 exact List.map_congr_left fun f hf => textOf_esc f (fds_ok ok f hf).1
theorem read_told {fs : List Fld} (ok : FdOk fs) {sep : Nat} (hs : sep = 44 ∨ sep = 59) : fieldsOf sep (glue [sep] ((fds fs).map (textOf escTab))) = (fds fs).map (textOf signTab) := by
 rw [told_esc ok]
 exact split_glue hs _ (by simp only [ne_eq, List.map_eq_nil_iff, fds]; exact ok.some)
theorem signTab_one : ∀ d < 9, (signTab d).length = 1 ∧ ∀ c ∈ signTab d, c ∈ signs := by decide
theorem text_ok : ∀ f : List Nat, (∀ d ∈ f, d < 9) → f.length ≤ 6 → (textOf signTab f).length ≤ 1024 ∧ ∀ c ∈ textOf signTab f, c ∈ signs := fun f hd hl => by
 refine ⟨?_, fun c hc => ?_⟩
 ·have := textOf_len (tab := signTab) (fun d h => by have := (signTab_one d h).1; lia) f hd
  lia
 ·simp only [textOf, List.mem_flatten, List.mem_map] at hc
  obtain ⟨l, ⟨d, hdf, rfl⟩, hc⟩ := hc
  exact (signTab_one d (hd d hdf)).2 c hc
theorem newsCons {h₀ h h' : Heap} {L D : Addr} {m : Str → Option Value} {o : Obj} {news : List (Addr × Obj)} (F : Fr h₀ L h m) (N : News h₀ L h news) (hD : h.get? D = none) (hDL : D ≠ L) (hDo : h'.get? D = some o) (hk : ∀ b o, b ≠ L → h.get? b = some o → h'.get? b = some o) : News h₀ L h' ((D, o) :: news) := fun p hp => by
 rcases List.mem_cons.mp hp with rfl | hp
 ·refine ⟨hDo, hDL, ?_⟩
  cases e : h₀.get? D with
  | none => rfl
  | some o' => rw [F.keep _ _ e] at hD; cases hD
 ·exact ⟨hk _ _ (N p hp).2.1 (N p hp).1, (N p hp).2⟩
section
section
variable {prog : Program} {w w₀ : World} {A : Around} {E : Value → Shared → Prop} {h : Heap} {g : Array GenState} {d : Drawn} {t : Nat} {os : OsState} {K : Frag} {C : Addr} {s : Shared}
theorem call_tupEq (X : K.In h) (hm : mroIn K C (.type "tuple") = some true) {l b : Addr} {ol ob : Obj} {xs ys : Array Value} {n n2 : Nat} {e : Nat → Bool} {Q : Value → Shared → Prop}
  (hl : h.get? l = some ol) (hc : ol.cls = .ref C) (hd : ol.data = .seq xs n) (hb : h.get? b = some ob) (hcb : ob.cls = .ref C) (hdb : ob.data = .seq ys n2)
  (he : ∀ j (h1 : j < xs.size) (h2 : j < ys.size), EqAt A.in1 ⟨h, g, d, t, os⟩ xs[j] ys[j] (e j))
  (q : Q (.bool ((List.range (min xs.size ys.size)).all e && xs.size == ys.size)) ⟨h, g, d, t, os⟩) :
  wpAny (model prog w) A (call (.builtin "tuple.__eq__") [.ref l, .ref b]) Q E ⟨h, g, d, t, os⟩ := by
 have L0 : Looks (model prog w) h (isInstance (.ref l) (.type "tuple")) true := by
  have L0 : Looks (model prog w) h (typeOf (.ref l)) (.ref C) := by rw [← hc]; exact (Looks.ld hl).andThen .now
  exact L0.andThen (looks_mroIn X hm)
 have L1 : Looks (model prog w) h (isInstance (.ref b) (.type "tuple")) true := by
  have L0 : Looks (model prog w) h (typeOf (.ref b)) (.ref C) := by rw [← hcb]; exact (Looks.ld hb).andThen .now
  exact L0.andThen (looks_mroIn X hm)
 refine wpAny_call (codeAny_call_builtin PySem.F.slot_tuple_eq.plain PySem.F.entry_tuple_eq (@check_slot (model prog w) _ _ ⟨h, g, d, t, os⟩ "tuple.__eq__" "tuple" "__eq__" (.ref l) [.ref b] [] _ (by decide +kernel) (by decide +kernel) L0 (PySem.F.args_tuple_eq_2 _ _) ?_))
 refine wpAny_bind (wpAny_of_eq (show PySem.slotArgs "__eq__" 1 ⟨[.ref l, .ref b], []⟩ = pure (.ref l, [.ref b]) from rfl) ?_)
 dsimp only
 refine wpAny_bind (L1.here ?_)
 refine w_else (by decide) ?_
 have items : ∀ (x : Addr) (o : Obj) (zs : Array Value) (n : Nat) (A' : Around) (Q' : Array Value → Shared → Prop) (E' : Value → Shared → Prop), h.get? x = some o → o.data = .seq zs n → Q' zs ⟨h, g, d, t, os⟩ → wpAny (model prog w) A' (Builtin.Tuple.tupleItemsOf (.ref x)) Q' E' ⟨h, g, d, t, os⟩ := fun x o zs n A' Q' E' ho hdd q' =>
  wpAny_bind (wpAny_seqItems ho hdd (wpAny_pure q'))
 refine wpAny_bind (items l ol xs n _ _ _ hl hd ?_)
 refine wpAny_bind (items b ob ys n2 _ _ _ hb hdb ?_)
 have hZ : (xs.toList.zip ys.toList).length = min xs.size ys.size := by simp
 refine wpAny_bind (wpAny_forIn_list _ (fun rest r s' => r = ((none : Option Fin), ()) ∧ s' = ⟨h, g, d, t, os⟩ ∧ ∃ i, rest = (xs.toList.zip ys.toList).drop i ∧
  (((List.range (min xs.size ys.size)).drop i).all e && xs.size == ys.size) = ((List.range (min xs.size ys.size)).all e && xs.size == ys.size)) _ ?_ ?_ _ _ ⟨rfl, rfl, 0, rfl, rfl⟩)
 ·rintro ⟨y, x⟩ rest r s' ⟨rfl, rfl, i, hz, hR⟩
  have hlt : i < (xs.toList.zip ys.toList).length := by
   rcases Nat.lt_or_ge i (xs.toList.zip ys.toList).length with h' | h'
   ·exact h'
   ·rw [List.drop_of_length_le h'] at hz; cases hz
  have hm' : i < min xs.size ys.size := hZ ▸ hlt
  have h1 : i < xs.size := by lia
  have h2 : i < ys.size := by lia
  rw [List.drop_eq_getElem_cons hlt] at hz
  injection hz with hyx hrest
  have hy : y = xs[i] := by have := congrArg Prod.fst hyx; simpa using this
  have hx : x = ys[i] := by have := congrArg Prod.snd hyx; simpa using this
  subst hy hx
  have hdr : (List.range (min xs.size ys.size)).drop i = i :: (List.range (min xs.size ys.size)).drop (i + 1) := by simp [List.drop_eq_getElem_cons, hm']
  rw [hdr, List.all_cons] at hR
  refine wpAny_bind (he i h1 h2 prog w _ _ ?_)
  cases hyb : e i with
  | true =>
   rw [hyb, Bool.true_and] at hR
   refine w_else (by decide) ?_
   exact wpAny_pure ⟨rfl, rfl, i + 1, hrest, hR⟩
  | false =>
   rw [hyb, Bool.false_and, Bool.false_and] at hR
   refine w_if (show (!false) = true from rfl) ?_
   rw [← hR] at q
   refine wpAny_bind (wpAny_pure (wpAny_pure ?_))
   dsimp only
   exact wpAny_pure (by simpa using q)
 ·rintro r s' ⟨rfl, rfl, i, hz, hR⟩
  have hge : min xs.size ys.size ≤ i := by
   rcases Nat.lt_or_ge i (xs.toList.zip ys.toList).length with h' | h'
   ·rw [List.drop_eq_getElem_cons h'] at hz; cases hz
   ·exact hZ ▸ h'
  rw [List.drop_of_length_le (by simpa using hge)] at hR
  dsimp only
  refine wpAny_pure ?_
  show Q (.bool (xs.size == ys.size)) _
  rw [← hR] at q
  simpa using q
theorem rcSub (X : K.In h) (hm : mroIn K C (.type "tuple") = some true) (hf : findIn K (.ref C) "__eq__" = some (some (.builtin "tuple.__eq__"))) {l b : Addr} {ol ob : Obj} {xs ys : Array Value} {n n2 : Nat} {e : Nat → Bool}
  (hl : h.get? l = some ol) (hc : ol.cls = .ref C) (hd : ol.data = .seq xs n) (hb : h.get? b = some ob) (hcb : ob.cls = .ref C) (hdb : ob.data = .seq ys n2) (hu : A.units < cLine)
  (he : ∀ j (h1 : j < xs.size) (h2 : j < ys.size), EqAt A.in1 ⟨h, g, d, t, os⟩ xs[j] ys[j] (e j)) :
  RcAt A ⟨h, g, d, t, os⟩ (.ref l) (.ref b) ((List.range (min xs.size ys.size)).all e && xs.size == ys.size) := fun prog w E Q q => by
 have L0 : Looks (model prog w) h (typeOf (.ref l)) (.ref C) := by rw [← hc]; exact (Looks.ld hl).andThen .now
 have L1 : Looks (model prog w) h (typeOf (.ref b)) (.ref C) := by rw [← hcb]; exact (Looks.ld hb).andThen .now
 delta richCompare
 refine wpAny_holding ?_
 refine wpAny_bind (wpAny_cRoomFor hu ?_)
 have e1 : oneThing? CmpOp.Eq (.ref l) (.ref b) = none := rfl
 rw [e1]
 dsimp only [cmpInfo]
 refine wpAny_bind (L0.here ?_)
 generalize hres : ((List.range (min xs.size ys.size)).all e && xs.size == ys.size) = res at *
 have tail : wpAny (model prog w) A (tryCompare (.ref l) "__eq__" (.ref b)) (fun r s => r = some (.bool res) ∧ s = ⟨h, g, d, t, os⟩) E ⟨h, g, d, t, os⟩ := by
  delta tryCompare callSpecialIfBound? bindSpecialIfBound?
  refine wpAny_bind (wpAny_holding (wpAny_bind (wpAny_bind ?_)))
  refine wpAny_bind (L0.here ?_)
  refine (looks_findIn X hf).here ?_
  dsimp only
  refine wpAny_bind (wpAny_askSetting ?_)
  rw [PySem.F.slot_tuple_eq.bind]
  have fin : wpAny (model prog w) A (call (.builtin "tuple.__eq__") ([.ref l] ++ [.ref b])) (fun r s => r = .bool res ∧ s = ⟨h, g, d, t, os⟩) E ⟨h, g, d, t, os⟩ := call_tupEq X hm hl hc hd hb hcb hdb he ⟨by rw [hres], rfl⟩
  have fin2 : ∀ Q' : Option Value → Shared → Prop, Q' (some (.bool res)) ⟨h, g, d, t, os⟩ → wpAny (model prog w) A (do return some (← call (.builtin "tuple.__eq__") ([.ref l] ++ [.ref b]))) Q' E ⟨h, g, d, t, os⟩ := fun Q' q' =>
   wpAny_bind (_root_.PySem.wpAny_mono fin (fun r s' hr => by obtain ⟨rfl, rfl⟩ := hr; exact wpAny_pure q') fun u' u' z => z)
  split
  ·exact wpAny_bind (wpAny_pure (wpAny_pure (fin2 _ (wpAny_pure ⟨rfl, rfl⟩))))
  ·exact wpAny_tryCatch (wpAny_bind (wpAny_pure (wpAny_pure (fin2 _ (wpAny_pure ⟨rfl, rfl⟩)))))
 refine wpAny_bind (L1.here ?_)
 refine w_else (by simp) ?_
 refine wpAny_bind (wpAny_pure ?_)
 rw [if_neg Bool.false_ne_true]
 refine wpAny_bind (_root_.PySem.wpAny_mono tail (fun r s' hr => ?_) fun u' u' z => z)
 obtain ⟨rfl, rfl⟩ := hr
 exact wpAny_pure q
theorem rc_subs (X : K.In s.heap) (hm : mroIn K C (.type "tuple") = some true) (hf : findIn K (.ref C) "__eq__" = some (some (.builtin "tuple.__eq__"))) {l b : Addr} {ol ob : Obj} {xs ys : Array Value} {n n2 : Nat} {ls ms : List (List Nat)}
  (hl : s.heap.get? l = some ol) (hc : ol.cls = .ref C) (hd : ol.data = .seq xs n) (hb : s.heap.get? b = some ob) (hcb : ob.cls = .ref C) (hdb : ob.data = .seq ys n2) (n1 : xs.size = ls.length) (n2 : ys.size = ms.length) (hu : A.units < cLine)
  (he : ∀ j (h1 : j < xs.size) (h2 : j < ys.size), EqAt A.in1 s xs[j] ys[j] (decide (ls[j]? = ms[j]?))) :
  RcAt A s (.ref l) (.ref b) (decide (ls = ms)) := by
 obtain ⟨h, g, d, t, os⟩ := s
 have := rcSub (e := fun j => decide (ls[j]? = ms[j]?)) X hm hf hl hc hd hb hcb hdb hu he
 rwa [n1, n2, all_min] at this
end
end
section
local macro_rules | `(tactic| walk_at "getAttr ref") => `(tactic| (refine hold ?_))
local macro_rules | `(tactic| walk_at "compareOp Eq ref ref") => `(tactic| (refine hold ?_))
theorem n_eq {w : World} {mean : ExcName → Option Value} {mg mb : Str → Option Value} {news : List (Addr × Obj)} (o o' dx D dn px dx' D' dn' px' : Addr) (t1 t2 t1' t2' : Nat) (ts ts' : List (List Nat × Tok))
  (dp un : Nat) (gd : Option (List Code)) (cn : Str) (cs : Scope) (a : Addr) (ccd : Value) (cl : List (Str × Addr)) (outer : List Env) (A₀ : Around) (base h₀ : Heap) (L : Addr) (m : Str → Option Value) (s : Shared) (Q E : Value → Shared → Prop)
  (B : Below A₀ base outer h₀) (F : Fr h₀ L s.heap m) (X : (K w.params).In h₀) (N : News h₀ L s.heap news) (T : Top q0 (looseW q0 loose0) mean mg mb h₀) (hk : cs.kind = .function)
  (ho : (o, instObj 801 dx) ∈ news) (hdx : (dx, fldDict w t1 t2 D px) ∈ news) (hD : (D, tupSub 750 dn (txs ts)) ∈ news)
  (ho' : (o', instObj 801 dx') ∈ news) (hdx' : (dx', fldDict w t1' t2' D' px') ∈ news) (hD' : (D', tupSub 750 dn' (txs ts')) ∈ news)
  (hd : dp + 31 < 500) (hu : un + 131 < 200)
  (hret : ∀ (h' : Heap) (tk' : Nat), Fr h₀ L h' m → News h₀ L h' news → Q (.bool (decide (ts.map (·.1) = ts'.map (·.1)))) { s with heap := h', toks := tk' }) :
  wpAny (model pw w) (ktrTop dp un gd cn cs L a ccd cl outer) (call (.ref 790) [.ref o, .ref o']) Q E s := by
 have hd' : dp + 3 < recursionLimit := by first | exact rc1 (by assumption) rfl | (rw [show recursionLimit = 1000 from rfl]; lia)
 refine wpAny_call ?_
 k_dflt cell_enter
 with_reducible rename Fr _ _ _ (fun y => _) => F1
 with_reducible rename Below _ _ _ _ => B1
 with_reducible rename Top _ _ _ _ _ _ => T1
 with_reducible rename Frag.In _ _ => X1
 replace F1 := frBinds F1 (fun y => if y = "other" then some (.ref o') else if y = "self" then some (.ref o) else none) (by kernel_rfl)
 k_steps
 refine unhold ?_
 with_reducible rename Fr _ _ _ _ => F3
 with_reducible rename News _ _ _ _ => N3
 refine getFld (es := [ent w "fields" t1 (.ref D), ent w "params" t2 (.ref px)]) (X1.keeps F3.keep) (N3 _ ho).1 (N3 _ hdx).1 (by kernel_rfl) (by kernel_rfl) (by k_is) (v := .ref D) (by kernel_rfl) rfl ?_
 k_steps
 refine unhold ?_
 refine getFld (es := [ent w "fields" t1' (.ref D'), ent w "params" t2' (.ref px')]) (X1.keeps F3.keep) (N3 _ ho').1 (N3 _ hdx').1 (by kernel_rfl) (by kernel_rfl) (by k_is) (v := .ref D') (by kernel_rfl) rfl ?_
 k_steps
 refine unhold ?_
 have v1 := strsAt_txs ts
 have v2 := strsAt_txs ts'
 refine rc_subs (K := K w.params) (C := 750) (X1.keeps F3.keep) (by k_is) (by k_is) (N3 _ hD).1 rfl rfl (N3 _ hD').1 rfl rfl v1.1 v2.1 ?_ (fun j h1 h2 => el_SS v1 v2 j h1 h2) _ _ _ _ ?_
 ·show un + 3 < cLine; have : 200 ≤ cLine := by decide
  lia
 k_steps
 with_reducible rename Fr h₀ L _ m => F9
 with_reducible rename News h₀ L _ _ => N9
 exact hret _ _ F9 N9
theorem n_specT {w : World} {mean : ExcName → Option Value} {mg mb : Str → Option Value} {news : List (Addr × Obj)} (lst : Addr) (xs : List (List Nat × Tok)) (k : Nat) (op : Obj)
  (dp un : Nat) (gd : Option (List Code)) (cn : Str) (cs : Scope) (a : Addr) (ccd : Value) (cl : List (Str × Addr)) (outer : List Env) (A₀ : Around) (base h₀ : Heap) (L : Addr) (m : Str → Option Value) (s : Shared) (Q E : Value → Shared → Prop)
  (B : Below A₀ base outer h₀) (F : Fr h₀ L s.heap m) (X : (K w.params).In h₀) (N : News h₀ L s.heap ((763, op) :: news)) (hl : (lst, ⟨.type "tuple", none, .seq (txs xs).toArray k, #[]⟩) ∈ news) (hnP : ∀ p ∈ news, p.1 ≠ 763) (hop : TabOk op) (T : Top q0 (looseW q0 loose0) mean mg mb h₀) (hk : cs.kind = .function)
  (hxs : Texts (xs.map (·.1))) (hn5 : xs.length = 5)
  (hd : dp + 31 < 500) (hu : un + 131 < 200)
  (hret : ∀ (s' : Shared) (o dx D dn px : Addr) (t1 t2 : Nat) (op' : Obj), Fr h₀ L s'.heap m → News h₀ L s'.heap ((763, op') :: (dx, fldDict w t1 t2 D px) :: (o, instObj 801 dx) :: (D, tupSub 750 dn (txs xs)) :: news) → TabOk op' → (AllBare s.gens → AllBare s'.gens) → s'.os = s.os → s'.drawn = s.drawn → Q (.ref o) s') :
  wpAny (model pw w) (ktrTop dp un gd cn cs L a ccd cl outer) (call (.ref 801) [.ref lst]) Q E s := by
 refine wpAny_call (make_K (fI := 768) F N (X.keeps F.keep) (by kernel_rfl) (by k_is) (by k_is) (fun o dx h1 F1 N1 ne1 lt1 => ?_))
 have e1 : (Code.builtin "type.__call__" { pos := [Value.ref 801, Value.ref lst] }).weight = 1 := rfl
 have e2 : (Code.builtin "type.__call__" { pos := [Value.ref 801, Value.ref lst] }).cUnits = 1 := rfl
 have N2 : News h₀ L h1 ((763, op) :: (dx, dictOf [] 0) :: (o, instObj 801 dx) :: (lst, ⟨.type "tuple", none, .seq (txs xs).toArray k, #[]⟩) :: news) := fun p hp => by
  revert p; refine mcons ?_ (mcons ?_ (mcons ?_ (mcons ?_ (fun p hp => ?_))))
  ·exact N1 _ (.tail _ (.tail _ (.head _)))
  ·exact N1 _ (.tail _ (.head _))
  ·exact N1 _ (.head _)
  ·exact N1 _ (.tail _ (.tail _ (.tail _ hl)))
  ·exact N1 _ (.tail _ (.tail _ (.tail _ hp)))
 have lTab := ne1 _ (.head _)
 refine n_initT o dx lst xs k op _ _ _ _ _ _ _ _ _ _ _ _ _ _ _ _ B F1 X N2 (fun p hp => ?_) (fun p hp => ?_) hop T hk hxs hn5 ?_ ?_ (fun s' D dn px t1 t2 op' F2 N3 ho' hb hos hdr => ⟨rfl, ?_⟩)
 ·revert p; refine mcons ?_ (mcons ?_ (mcons ?_ (fun p hp => ?_)))
  ·exact Nat.ne_of_lt lTab
  ·exact Nat.ne_of_gt lt1
  ·exact Nat.ne_of_lt (ne1 _ (.tail _ hl))
  ·exact Nat.ne_of_lt (ne1 _ (.tail _ hp))
 ·revert p; refine mcons ?_ (mcons ?_ (mcons ?_ (fun p hp => ?_)))
  ·exact Nat.ne_of_gt lTab
  ·exact Nat.ne_of_gt (Nat.lt_trans lTab lt1)
  ·exact hnP _ hl
  ·exact hnP _ hp
 ·rw [e1]; show dp + 1 + 30 < 500; first | exact rm2 (by assumption) rfl | lia
 ·rw [e2]; show un + 1 + 130 < 200; first | exact rm2 (by assumption) rfl | lia
 refine hret s' o dx D dn px t1 t2 op' F2 (fun p hp => N3 p ?_) ho' hb hos hdr
 exact sub hp
theorem adr_eq {w : World} {mean : ExcName → Option Value} {mg mb : Str → Option Value} {news : List (Addr × Obj)} (o o' dx D dn px dx' D' dn' px' : Addr) (t1 t2 t1' t2' : Nat) (ts ts' : List (List Nat × Tok))
  (dp un : Nat) (gd : Option (List Code)) (cn : Str) (cs : Scope) (a : Addr) (ccd : Value) (cl : List (Str × Addr)) (outer : List Env) (A₀ : Around) (base h₀ : Heap) (L : Addr) (m : Str → Option Value) (s : Shared) (Q E : Value → Shared → Prop)
  (B : Below A₀ base outer h₀) (F : Fr h₀ L s.heap m) (X : (K w.params).In h₀) (N : News h₀ L s.heap news) (T : Top q0 (looseW q0 loose0) mean mg mb h₀) (hk : cs.kind = .function)
  (ho : (o, instObj 569 dx) ∈ news) (hdx : (dx, fldDict w t1 t2 D px) ∈ news) (hD : (D, tupSub 518 dn (txs ts)) ∈ news)
  (ho' : (o', instObj 569 dx') ∈ news) (hdx' : (dx', fldDict w t1' t2' D' px') ∈ news) (hD' : (D', tupSub 518 dn' (txs ts')) ∈ news)
  (hd : dp + 31 < 500) (hu : un + 131 < 200)
  (hret : ∀ (h' : Heap) (tk' : Nat), Fr h₀ L h' m → News h₀ L h' news → Q (.bool (decide (ts.map (·.1) = ts'.map (·.1)))) { s with heap := h', toks := tk' }) :
  wpAny (model pw w) (ktrTop dp un gd cn cs L a ccd cl outer) (call (.ref 558) [.ref o, .ref o']) Q E s := by
 have hd' : dp + 3 < recursionLimit := by first | exact rc1 (by assumption) rfl | (rw [show recursionLimit = 1000 from rfl]; lia)
 refine wpAny_call ?_
 k_dflt cell_enter
 with_reducible rename Fr _ _ _ (fun y => _) => F1
 with_reducible rename Below _ _ _ _ => B1
 with_reducible rename Top _ _ _ _ _ _ => T1
 with_reducible rename Frag.In _ _ => X1
 replace F1 := frBinds F1 (fun y => if y = "other" then some (.ref o') else if y = "self" then some (.ref o) else none) (by kernel_rfl)
 k_steps
 refine unhold ?_
 with_reducible rename Fr _ _ _ _ => F3
 with_reducible rename News _ _ _ _ => N3
 refine getFld (es := [ent w "fields" t1 (.ref D), ent w "params" t2 (.ref px)]) (X1.keeps F3.keep) (N3 _ ho).1 (N3 _ hdx).1 (by kernel_rfl) (by kernel_rfl) (by k_is) (v := .ref D) (by kernel_rfl) rfl ?_
 k_steps
 refine unhold ?_
 refine getFld (es := [ent w "fields" t1' (.ref D'), ent w "params" t2' (.ref px')]) (X1.keeps F3.keep) (N3 _ ho').1 (N3 _ hdx').1 (by kernel_rfl) (by kernel_rfl) (by k_is) (v := .ref D') (by kernel_rfl) rfl ?_
 k_steps
 refine unhold ?_
 have v1 := strsAt_txs ts
 have v2 := strsAt_txs ts'
 refine rc_subs (K := K w.params) (C := 518) (X1.keeps F3.keep) (by k_is) (by k_is) (N3 _ hD).1 rfl rfl (N3 _ hD').1 rfl rfl v1.1 v2.1 ?_ (fun j h1 h2 => el_SS v1 v2 j h1 h2) _ _ _ _ ?_
 ·show un + 3 < cLine; have : 200 ≤ cLine := by decide
  lia
 k_steps
 with_reducible rename Fr h₀ L _ m => F9
 with_reducible rename News h₀ L _ _ => N9
 exact hret _ _ F9 N9
theorem adr_specT {w : World} {mean : ExcName → Option Value} {mg mb : Str → Option Value} {news : List (Addr × Obj)} (lst : Addr) (xs : List (List Nat × Tok)) (k : Nat) (op : Obj)
  (dp un : Nat) (gd : Option (List Code)) (cn : Str) (cs : Scope) (a : Addr) (ccd : Value) (cl : List (Str × Addr)) (outer : List Env) (A₀ : Around) (base h₀ : Heap) (L : Addr) (m : Str → Option Value) (s : Shared) (Q E : Value → Shared → Prop)
  (B : Below A₀ base outer h₀) (F : Fr h₀ L s.heap m) (X : (K w.params).In h₀) (N : News h₀ L s.heap ((531, op) :: news)) (hl : (lst, ⟨.type "tuple", none, .seq (txs xs).toArray k, #[]⟩) ∈ news) (hnP : ∀ p ∈ news, p.1 ≠ 531) (hop : TabOk op) (T : Top q0 (looseW q0 loose0) mean mg mb h₀) (hk : cs.kind = .function)
  (hxs : Texts (xs.map (·.1))) (hn5 : xs.length = 7)
  (hd : dp + 31 < 500) (hu : un + 131 < 200)
  (hret : ∀ (s' : Shared) (o dx D dn px : Addr) (t1 t2 : Nat) (op' : Obj), Fr h₀ L s'.heap m → News h₀ L s'.heap ((531, op') :: (dx, fldDict w t1 t2 D px) :: (o, instObj 569 dx) :: (D, tupSub 518 dn (txs xs)) :: news) → TabOk op' → (AllBare s.gens → AllBare s'.gens) → s'.os = s.os → s'.drawn = s.drawn → Q (.ref o) s') :
  wpAny (model pw w) (ktrTop dp un gd cn cs L a ccd cl outer) (call (.ref 569) [.ref lst]) Q E s := by
 refine wpAny_call (make_K (fI := 536) F N (X.keeps F.keep) (by kernel_rfl) (by k_is) (by k_is) (fun o dx h1 F1 N1 ne1 lt1 => ?_))
 have e1 : (Code.builtin "type.__call__" { pos := [Value.ref 569, Value.ref lst] }).weight = 1 := rfl
 have e2 : (Code.builtin "type.__call__" { pos := [Value.ref 569, Value.ref lst] }).cUnits = 1 := rfl
 have N2 : News h₀ L h1 ((531, op) :: (dx, dictOf [] 0) :: (o, instObj 569 dx) :: (lst, ⟨.type "tuple", none, .seq (txs xs).toArray k, #[]⟩) :: news) := fun p hp => by
  revert p; refine mcons ?_ (mcons ?_ (mcons ?_ (mcons ?_ (fun p hp => ?_))))
  ·exact N1 _ (.tail _ (.tail _ (.head _)))
  ·exact N1 _ (.tail _ (.head _))
  ·exact N1 _ (.head _)
  ·exact N1 _ (.tail _ (.tail _ (.tail _ hl)))
  ·exact N1 _ (.tail _ (.tail _ (.tail _ hp)))
 have lTab := ne1 _ (.head _)
 refine adr_initT o dx lst xs k op _ _ _ _ _ _ _ _ _ _ _ _ _ _ _ _ B F1 X N2 (fun p hp => ?_) (fun p hp => ?_) hop T hk hxs hn5 ?_ ?_ (fun s' D dn px t1 t2 op' F2 N3 ho' hb hos hdr => ⟨rfl, ?_⟩)
 ·revert p; refine mcons ?_ (mcons ?_ (mcons ?_ (fun p hp => ?_)))
  ·exact Nat.ne_of_lt lTab
  ·exact Nat.ne_of_gt lt1
  ·exact Nat.ne_of_lt (ne1 _ (.tail _ hl))
  ·exact Nat.ne_of_lt (ne1 _ (.tail _ hp))
 ·revert p; refine mcons ?_ (mcons ?_ (mcons ?_ (fun p hp => ?_)))
  ·exact Nat.ne_of_gt lTab
  ·exact Nat.ne_of_gt (Nat.lt_trans lTab lt1)
  ·exact hnP _ hl
  ·exact hnP _ hp
 ·rw [e1]; show dp + 1 + 30 < 500; first | exact rm2 (by assumption) rfl | lia
 ·rw [e2]; show un + 1 + 130 < 200; first | exact rm2 (by assumption) rfl | lia
 refine hret s' o dx D dn px t1 t2 op' F2 (fun p hp => N3 p ?_) ho' hb hos hdr
 exact sub hp
section
local macro_rules | `(tactic| walk_at "subscriptTail Name Slice ref ref") => `(tactic| (refine hold ?_))
local macro_rules | `(tactic| walk_at "subscriptTail Name Constant ref int") => `(tactic| (refine hold ?_))
theorem org_eq {w : World} {mean : ExcName → Option Value} {mg mb : Str → Option Value} {news : List (Addr × Obj)} (o o' dx D px dx' D' px' : Addr) (t1 t2 t1' t2' k k' : Nat) (ts ts' : List (List Nat × Tok))
  (dp un : Nat) (gd : Option (List Code)) (cn : Str) (cs : Scope) (a : Addr) (ccd : Value) (cl : List (Str × Addr)) (outer : List Env) (A₀ : Around) (base h₀ : Heap) (L : Addr) (m : Str → Option Value) (s : Shared) (Q E : Value → Shared → Prop)
  (B : Below A₀ base outer h₀) (F : Fr h₀ L s.heap m) (X : (K w.params).In h₀) (N : News h₀ L s.heap news) (T : Top q0 (looseW q0 loose0) mean mg mb h₀) (hk : cs.kind = .function)
  (ho : (o, instObj 869 dx) ∈ news) (hdx : (dx, fldDict w t1 t2 D px) ∈ news) (hD : (D, ⟨.type "tuple", none, .seq (txs ts).toArray k, #[]⟩) ∈ news)
  (ho' : (o', instObj 869 dx') ∈ news) (hdx' : (dx', fldDict w t1' t2' D' px') ∈ news) (hD' : (D', ⟨.type "tuple", none, .seq (txs ts').toArray k', #[]⟩) ∈ news)
  (hd : dp + 31 < 500) (hu : un + 131 < 200)
  (hret : ∀ (h' : Heap) (tk' : Nat), Fr h₀ L h' m → News h₀ L h' news → Q (.bool (decide (ts.map (·.1) = ts'.map (·.1)))) { s with heap := h', toks := tk' }) :
  wpAny (model pw w) (ktrTop dp un gd cn cs L a ccd cl outer) (call (.ref 842) [.ref o, .ref o']) Q E s := by
 have hd' : dp + 3 < recursionLimit := by first | exact rc1 (by assumption) rfl | (rw [show recursionLimit = 1000 from rfl]; lia)
 refine wpAny_call ?_
 k_dflt cell_enter
 with_reducible rename Fr _ _ _ (fun y => _) => F1
 with_reducible rename Below _ _ _ _ => B1
 with_reducible rename Top _ _ _ _ _ _ => T1
 with_reducible rename Frag.In _ _ => X1
 replace F1 := frBinds F1 (fun y => if y = "other" then some (.ref o') else if y = "self" then some (.ref o) else none) (by kernel_rfl)
 k_steps
 refine unhold ?_
 with_reducible rename Fr _ _ _ _ => F3
 with_reducible rename News _ _ _ _ => N3
 refine getFld (es := [ent w "fields" t1 (.ref D), ent w "params" t2 (.ref px)]) (X1.keeps F3.keep) (N3 _ ho).1 (N3 _ hdx).1 (by kernel_rfl) (by kernel_rfl) (by k_is) (v := .ref D) (by kernel_rfl) rfl ?_
 k_steps
 refine unhold ?_
 refine getFld (es := [ent w "fields" t1' (.ref D'), ent w "params" t2' (.ref px')]) (X1.keeps F3.keep) (N3 _ ho').1 (N3 _ hdx').1 (by kernel_rfl) (by kernel_rfl) (by k_is) (v := .ref D') (by kernel_rfl) rfl ?_
 k_steps
 refine unhold ?_
 have v1 := strsAt_txs ts
 have v2 := strsAt_txs ts'
 refine rc_tuples ⟨_, (N3 _ hD).1, rfl, _, rfl⟩ ⟨_, (N3 _ hD').1, rfl, _, rfl⟩ v1.1 v2.1 ?_ (fun j h1 h2 => el_SS v1 v2 j h1 h2) _ _ _ _ ?_
 ·show un + 3 < cLine; have : 200 ≤ cLine := by decide
  lia
 k_steps
 with_reducible rename Fr h₀ L _ m => F9
 with_reducible rename News h₀ L _ _ => N9
 exact hret _ _ F9 N9
theorem org_name {w : World} {mean : ExcName → Option Value} {mg mb : Str → Option Value} {news : List (Addr × Obj)} (o dx D px : Addr) (t1 t2 k : Nat) (ts : List (List Nat × Tok)) (hn0 : 0 < ts.length) (hn : ts.length ≤ 1000)
  (dp un : Nat) (gd : Option (List Code)) (cn : Str) (cs : Scope) (a : Addr) (ccd : Value) (cl : List (Str × Addr)) (outer : List Env) (A₀ : Around) (base h₀ : Heap) (L : Addr) (m : Str → Option Value) (s : Shared) (R : Result → Shared → Prop)
  (B : Below A₀ base outer h₀) (F : Fr h₀ L s.heap m) (X : (K w.params).In h₀) (N : News h₀ L s.heap news) (T : Top q0 (looseW q0 loose0) mean mg mb h₀) (hk : cs.kind = .function)
  (ho : (o, instObj 869 dx) ∈ news) (hdx : (dx, fldDict w t1 t2 D px) ∈ news) (hD : (D, ⟨.type "tuple", none, .seq (txs ts).toArray k, #[]⟩) ∈ news)
  (hd : dp + 31 < 500) (hu : un + 131 < 200)
  (hret : ∀ (l : List Nat) (t : Tok) (h' : Heap) (tk' : Nat), (ts.map (·.1))[0]? = some l → Fr h₀ L h' m → News h₀ L h' news → R (.ok (.ret (.str (strOf l) t))) { s with heap := h', toks := tk' }) :
  codeAny (model pw w) (ktrTop dp un gd cn cs L a ccd cl outer) (.call (.ref 849) ⟨[.ref o], []⟩) R s := by
 have hd' : dp + 3 < recursionLimit := by first | exact rc1 (by assumption) rfl | (rw [show recursionLimit = 1000 from rfl]; lia)
 k_dflt cell_enter
 with_reducible rename Fr _ _ _ (fun y => _) => F1
 with_reducible rename Below _ _ _ _ => B1
 with_reducible rename Top _ _ _ _ _ _ => T1
 with_reducible rename Frag.In _ _ => X1
 replace F1 := frBinds F1 (fun y => if y = "self" then some (.ref o) else none) (by kernel_rfl)
 k_steps
 refine unhold ?_
 with_reducible rename Fr _ _ _ _ => F3
 with_reducible rename News _ _ _ _ => N3
 refine getFld (es := [ent w "fields" t1 (.ref D), ent w "params" t2 (.ref px)]) (X1.keeps F3.keep) (N3 _ ho).1 (N3 _ hdx).1 (by kernel_rfl) (by kernel_rfl) (by k_is) (v := .ref D) (by kernel_rfl) rfl ?_
 k_steps
 refine unhold ?_
 obtain ⟨t0, ts', rfl⟩ : ∃ t0 ts', ts = t0 :: ts' := by
  cases ts with
  | nil => exact absurd hn0 (Nat.lt_irrefl _)
  | cons t0 ts' => exact ⟨t0, ts', rfl⟩
 refine item_tuple (items := (txs (t0 :: ts')).toArray) (j := 0) (x := .str (strOf t0.1) t0.2) ⟨_, (N3 _ hD).1, rfl, _, rfl⟩ (by decide) (by decide) (by simp [seqIndex?, txs, strValues]) (by simp [txs, strValues]) ?_
 k_steps
 with_reducible rename Fr h₀ L _ m => F9
 with_reducible rename News h₀ L _ _ => N9
 exact hret t0.1 t0.2 _ _ rfl F9 N9
theorem org_units {w : World} {mean : ExcName → Option Value} {mg mb : Str → Option Value} {news : List (Addr × Obj)} (o dx D px : Addr) (t1 t2 k : Nat) (ts : List (List Nat × Tok)) (hn0 : 0 < ts.length) (hn : ts.length ≤ 1000)
  (dp un : Nat) (gd : Option (List Code)) (cn : Str) (cs : Scope) (a : Addr) (ccd : Value) (cl : List (Str × Addr)) (outer : List Env) (A₀ : Around) (base h₀ : Heap) (L : Addr) (m : Str → Option Value) (s : Shared) (R : Result → Shared → Prop)
  (B : Below A₀ base outer h₀) (F : Fr h₀ L s.heap m) (X : (K w.params).In h₀) (N : News h₀ L s.heap news) (T : Top q0 (looseW q0 loose0) mean mg mb h₀) (hk : cs.kind = .function)
  (ho : (o, instObj 869 dx) ∈ news) (hdx : (dx, fldDict w t1 t2 D px) ∈ news) (hD : (D, ⟨.type "tuple", none, .seq (txs ts).toArray k, #[]⟩) ∈ news)
  (hd : dp + 31 < 500) (hu : un + 131 < 200)
  (hret : ∀ (D' : Addr) (h' : Heap) (tk' : Nat), Fr h₀ L h' m → News h₀ L h' ((D', ⟨.type "tuple", none, .seq (txs (ts.drop 1)).toArray 0, #[]⟩) :: news) → R (.ok (.ret (.ref D'))) { s with heap := h', toks := tk' }) :
  codeAny (model pw w) (ktrTop dp un gd cn cs L a ccd cl outer) (.call (.ref 857) ⟨[.ref o], []⟩) R s := by
 have hd' : dp + 3 < recursionLimit := by first | exact rc1 (by assumption) rfl | (rw [show recursionLimit = 1000 from rfl]; lia)
 k_dflt cell_enter
 with_reducible rename Fr _ _ _ (fun y => _) => F1
 with_reducible rename Below _ _ _ _ => B1
 with_reducible rename Top _ _ _ _ _ _ => T1
 with_reducible rename Frag.In _ _ => X1
 replace F1 := frBinds F1 (fun y => if y = "self" then some (.ref o) else none) (by kernel_rfl)
 k_steps
 refine unhold ?_
 with_reducible rename Fr _ _ _ _ => F3
 with_reducible rename News _ _ _ _ => N3
 refine getFld (es := [ent w "fields" t1 (.ref D), ent w "params" t2 (.ref px)]) (X1.keeps F3.keep) (N3 _ ho).1 (N3 _ hdx).1 (by kernel_rfl) (by kernel_rfl) (by k_is) (v := .ref D) (by kernel_rfl) rfl ?_
 k_steps
 refine unhold ?_
 refine slice_tuple_from F3 N3 ⟨_, (N3 _ hD).1, rfl, _, rfl⟩ (by decide) (by rw [List.size_toArray, txs_len, List.length_map]; exact hn0) (fun h4 F4 N4 => ?_) (hsz := by simp [txs_len, sizeLine_eq]; lia)
 clear F3 N3
 k_steps
 with_reducible rename Fr h₀ L _ m => F9
 with_reducible rename News h₀ L _ _ => N9
 have e : ((txs ts).toArray.toList.drop 1).toArray = (txs (ts.drop 1)).toArray := by simp [txs, strValues]
 rw [e] at N9
 exact hret _ _ _ F9 N9
end
end
section
local macro_rules | `(tactic| walk_at "call builtin:len") => `(tactic| (refine hold ?_))
local macro_rules | `(tactic| walk_at "leaving ref") => `(tactic| (refine hold ?_))
theorem n_initE {w : World} {mean : ExcName → Option Value} {mg mb : Str → Option Value} {news : List (Addr × Obj)} (o dx lst : Addr) (xs : List (List Nat × Tok)) (k : Nat)
  (dp un : Nat) (gd : Option (List Code)) (cn : Str) (cs : Scope) (a : Addr) (ccd : Value) (cl : List (Str × Addr)) (outer : List Env) (A₀ : Around) (base h₀ : Heap) (L : Addr) (m : Str → Option Value) (s : Shared) (R : Result → Shared → Prop)
  (B : Below A₀ base outer h₀) (F : Fr h₀ L s.heap m) (X : (K w.params).In h₀) (N : News h₀ L s.heap ((lst, ⟨.type "tuple", none, .seq (txs xs).toArray k, #[]⟩) :: (dx, dictOf [] 0) :: (o, instObj 801 dx) :: news))
  (T : Top q0 (looseW q0 loose0) mean mg mb h₀) (hk : cs.kind = .function)
  (hn5 : xs.length ≠ 5) (hn : xs.length ≤ 30)
  (hd : dp + 30 < 500) (hu : un + 130 < 200)
  (hE : ∀ (e : Addr) (g h' : Heap) (tk' : Nat), Fr h₀ L g m → RaisedC base g (envX cn cs L a ccd cl :: outer) e "ValueError" .none news h' → g.UpToSlots h' → R (.error (.ref e)) { s with heap := h', toks := tk' }) :
  codeAny (model pw w) (ktrTop dp un gd cn cs L a ccd cl outer) (.call (.ref 768) ⟨[.ref o, .ref lst], []⟩) R s := by
 have hd' : dp + 3 < recursionLimit := by first | exact rc1 (by assumption) rfl | (rw [show recursionLimit = 1000 from rfl]; lia)
 k_dflt (refine' code_def ?k1 ?k2 ?k3 ?k4 ?k5 ?kA ?kF ?kK ?k6 ?k7 ?k8 ?k9 ?kB ?_ ?c2 ?c3 ?c4 ?c5; (case kA => exact rfl); (case kF => exact rfl); (case kK => first | exact rfl | assumption); (case k1 => k_asm); (case k2 => k_asm); (case k3 => k_asm); (case k4 => k_asm); (case k5 => k_asm); (case k6 => k_is); (case k7 => k_is); (case k8 => ktr_room); (case k9 => first | exact BindsTo.of_eq rfl | exact binds_K (by k_in) rfl (by k_is) rfl rfl rfl); (case c5 => decide); (case kB => exact locs rfl); (case c2 => exact rfl); (case c3 => exact rfl); (case c4 => exact rfl); k_whole; intro g' L' h' FG' F' N' B' X' T'; (try dsimp only); (try k_lift B'); (try k_fold))
 with_reducible rename Below _ _ _ _ => B1
 with_reducible rename Top _ _ _ _ _ _ => T1
 with_reducible rename Frag.In _ _ => X1
 with_reducible rename Fr _ _ _ (fun y => _) => F0
 with_reducible rename Fr h₀ L _ m => FG0
 replace F0 := frBinds F0 (fun y => if y = "params" then some .none else if y = "fields" then some (.ref lst) else if y = "self" then some (.ref o) else none) (by kernel_rfl)
 k_steps
 refine unhold ?_
 with_reducible rename Fr _ _ _ _ => F1
 with_reducible rename News _ _ _ _ => N1
 have hlen : (txs xs).toArray.size = xs.length := by simp [txs_len]
 refine len_tuple (items := (txs xs).toArray) ⟨_, (N1 _ (.head _)).1, rfl, _, rfl⟩ (by rw [hlen]; lia) ?_
 rw [hlen]
 k_steps
 rotate_left
 ·exact absurd (by assumption) (fun e : (xs.length : Int) = 5 => hn5 (by lia))
 refine unhold ?_
 with_reducible rename Fr _ _ _ _ => F6
 with_reducible rename News _ _ _ _ => N6
 refine len_tuple (items := (txs xs).toArray) ⟨_, (N6 _ (.head _)).1, rfl, _, rfl⟩ (by rw [hlen]; lia) ?_
 rw [hlen]
 k_steps
 refine unhold ?_
 with_reducible rename Heap.MadeExc _ _ _ _ _ => ME
 refine ob1_3 ME.there fun t he htn ht => ?_
 exact leaveC B1 ME.keeps ME.new he rfl rfl rfl rfl F6 (fun p hp => N6 p (.tail _ (.tail _ (.tail _ hp)))) (fun h9 RC U9 => hE _ _ h9 _ FG0 RC U9)
theorem n_specE {w : World} {mean : ExcName → Option Value} {mg mb : Str → Option Value} {news : List (Addr × Obj)} (lst : Addr) (xs : List (List Nat × Tok)) (k : Nat)
  (dp un : Nat) (gd : Option (List Code)) (cn : Str) (cs : Scope) (a : Addr) (ccd : Value) (cl : List (Str × Addr)) (outer : List Env) (A₀ : Around) (base h₀ : Heap) (L : Addr) (m : Str → Option Value) (s : Shared) (Q E : Value → Shared → Prop)
  (B : Below A₀ base outer h₀) (F : Fr h₀ L s.heap m) (X : (K w.params).In h₀) (N : News h₀ L s.heap news) (hl : (lst, ⟨.type "tuple", none, .seq (txs xs).toArray k, #[]⟩) ∈ news) (T : Top q0 (looseW q0 loose0) mean mg mb h₀) (hk : cs.kind = .function)
  (hn5 : xs.length ≠ 5) (hn : xs.length ≤ 30)
  (hd : dp + 31 < 500) (hu : un + 131 < 200)
  (hE : ∀ (e : Addr) (g h' : Heap) (tk' : Nat), Fr h₀ L g m → RaisedC base g (envX cn cs L a ccd cl :: outer) e "ValueError" .none news h' → g.UpToSlots h' → E (.ref e) { s with heap := h', toks := tk' }) :
  wpAny (model pw w) (ktrTop dp un gd cn cs L a ccd cl outer) (call (.ref 801) [.ref lst]) Q E s := by
 refine wpAny_call (make_K (fI := 768) F N (X.keeps F.keep) (by kernel_rfl) (by k_is) (by k_is) (fun o dx h1 F1 N1 ne1 lt1 => ?_))
 have e1 : (Code.builtin "type.__call__" { pos := [Value.ref 801, Value.ref lst] }).weight = 1 := rfl
 have e2 : (Code.builtin "type.__call__" { pos := [Value.ref 801, Value.ref lst] }).cUnits = 1 := rfl
 have N2 : News h₀ L h1 ((lst, ⟨.type "tuple", none, .seq (txs xs).toArray k, #[]⟩) :: (dx, dictOf [] 0) :: (o, instObj 801 dx) :: news) := fun p hp => by
  revert p; refine mcons ?_ (mcons ?_ (mcons ?_ (fun p hp => ?_)))
  ·exact N1 _ (.tail _ (.tail _ hl))
  ·exact N1 _ (.tail _ (.head _))
  ·exact N1 _ (.head _)
  ·exact N1 _ (.tail _ (.tail _ hp))
 refine n_initE o dx lst xs k _ _ _ _ _ _ _ _ _ _ _ _ _ _ _ _ B F1 X N2 T hk hn5 hn ?_ ?_ (fun e g h' tk' FG RC U => hE e g h' tk' FG RC U)
 ·rw [e1]; show dp + 1 + 30 < 500; first | exact rm2 (by assumption) rfl | lia
 ·rw [e2]; show un + 1 + 130 < 200; first | exact rm2 (by assumption) rfl | lia
theorem adr_initE {w : World} {mean : ExcName → Option Value} {mg mb : Str → Option Value} {news : List (Addr × Obj)} (o dx lst : Addr) (xs : List (List Nat × Tok)) (k : Nat)
  (dp un : Nat) (gd : Option (List Code)) (cn : Str) (cs : Scope) (a : Addr) (ccd : Value) (cl : List (Str × Addr)) (outer : List Env) (A₀ : Around) (base h₀ : Heap) (L : Addr) (m : Str → Option Value) (s : Shared) (R : Result → Shared → Prop)
  (B : Below A₀ base outer h₀) (F : Fr h₀ L s.heap m) (X : (K w.params).In h₀) (N : News h₀ L s.heap ((lst, ⟨.type "tuple", none, .seq (txs xs).toArray k, #[]⟩) :: (dx, dictOf [] 0) :: (o, instObj 569 dx) :: news))
  (T : Top q0 (looseW q0 loose0) mean mg mb h₀) (hk : cs.kind = .function)
  (hn5 : xs.length ≠ 7) (hn : xs.length ≤ 30)
  (hd : dp + 30 < 500) (hu : un + 130 < 200)
  (hE : ∀ (e : Addr) (g h' : Heap) (tk' : Nat), Fr h₀ L g m → RaisedC base g (envX cn cs L a ccd cl :: outer) e "ValueError" .none news h' → g.UpToSlots h' → R (.error (.ref e)) { s with heap := h', toks := tk' }) :
  codeAny (model pw w) (ktrTop dp un gd cn cs L a ccd cl outer) (.call (.ref 536) ⟨[.ref o, .ref lst], []⟩) R s := by
 have hd' : dp + 3 < recursionLimit := by first | exact rc1 (by assumption) rfl | (rw [show recursionLimit = 1000 from rfl]; lia)
 k_dflt (refine' code_def ?k1 ?k2 ?k3 ?k4 ?k5 ?kA ?kF ?kK ?k6 ?k7 ?k8 ?k9 ?kB ?_ ?c2 ?c3 ?c4 ?c5; (case kA => exact rfl); (case kF => exact rfl); (case kK => first | exact rfl | assumption); (case k1 => k_asm); (case k2 => k_asm); (case k3 => k_asm); (case k4 => k_asm); (case k5 => k_asm); (case k6 => k_is); (case k7 => k_is); (case k8 => ktr_room); (case k9 => first | exact BindsTo.of_eq rfl | exact binds_K (by k_in) rfl (by k_is) rfl rfl rfl); (case c5 => decide); (case kB => exact locs rfl); (case c2 => exact rfl); (case c3 => exact rfl); (case c4 => exact rfl); k_whole; intro g' L' h' FG' F' N' B' X' T'; (try dsimp only); (try k_lift B'); (try k_fold))
 with_reducible rename Below _ _ _ _ => B1
 with_reducible rename Top _ _ _ _ _ _ => T1
 with_reducible rename Frag.In _ _ => X1
 with_reducible rename Fr _ _ _ (fun y => _) => F0
 with_reducible rename Fr h₀ L _ m => FG0
 replace F0 := frBinds F0 (fun y => if y = "params" then some .none else if y = "fields" then some (.ref lst) else if y = "self" then some (.ref o) else none) (by kernel_rfl)
 k_steps
 refine unhold ?_
 with_reducible rename Fr _ _ _ _ => F1
 with_reducible rename News _ _ _ _ => N1
 have hlen : (txs xs).toArray.size = xs.length := by simp [txs_len]
 refine len_tuple (items := (txs xs).toArray) ⟨_, (N1 _ (.head _)).1, rfl, _, rfl⟩ (by rw [hlen]; lia) ?_
 rw [hlen]
 k_steps
 rotate_left
 ·exact absurd (by assumption) (fun e : (xs.length : Int) = 7 => hn5 (by lia))
 refine unhold ?_
 with_reducible rename Fr _ _ _ _ => F6
 with_reducible rename News _ _ _ _ => N6
 refine len_tuple (items := (txs xs).toArray) ⟨_, (N6 _ (.head _)).1, rfl, _, rfl⟩ (by rw [hlen]; lia) ?_
 rw [hlen]
 k_steps
 refine unhold ?_
 with_reducible rename Heap.MadeExc _ _ _ _ _ => ME
 obtain ⟨t, he, htn, ht⟩ := ME.there
 exact leaveC B1 ME.keeps ME.new he rfl rfl rfl rfl F6 (fun p hp => N6 p (.tail _ (.tail _ (.tail _ hp)))) (fun h9 RC U9 => hE _ _ h9 _ FG0 RC U9)
theorem adr_specE {w : World} {mean : ExcName → Option Value} {mg mb : Str → Option Value} {news : List (Addr × Obj)} (lst : Addr) (xs : List (List Nat × Tok)) (k : Nat)
  (dp un : Nat) (gd : Option (List Code)) (cn : Str) (cs : Scope) (a : Addr) (ccd : Value) (cl : List (Str × Addr)) (outer : List Env) (A₀ : Around) (base h₀ : Heap) (L : Addr) (m : Str → Option Value) (s : Shared) (Q E : Value → Shared → Prop)
  (B : Below A₀ base outer h₀) (F : Fr h₀ L s.heap m) (X : (K w.params).In h₀) (N : News h₀ L s.heap news) (hl : (lst, ⟨.type "tuple", none, .seq (txs xs).toArray k, #[]⟩) ∈ news) (T : Top q0 (looseW q0 loose0) mean mg mb h₀) (hk : cs.kind = .function)
  (hn5 : xs.length ≠ 7) (hn : xs.length ≤ 30)
  (hd : dp + 31 < 500) (hu : un + 131 < 200)
  (hE : ∀ (e : Addr) (g h' : Heap) (tk' : Nat), Fr h₀ L g m → RaisedC base g (envX cn cs L a ccd cl :: outer) e "ValueError" .none news h' → g.UpToSlots h' → E (.ref e) { s with heap := h', toks := tk' }) :
  wpAny (model pw w) (ktrTop dp un gd cn cs L a ccd cl outer) (call (.ref 569) [.ref lst]) Q E s := by
 refine wpAny_call (make_K (fI := 536) F N (X.keeps F.keep) (by kernel_rfl) (by k_is) (by k_is) (fun o dx h1 F1 N1 ne1 lt1 => ?_))
 have e1 : (Code.builtin "type.__call__" { pos := [Value.ref 569, Value.ref lst] }).weight = 1 := rfl
 have e2 : (Code.builtin "type.__call__" { pos := [Value.ref 569, Value.ref lst] }).cUnits = 1 := rfl
 have N2 : News h₀ L h1 ((lst, ⟨.type "tuple", none, .seq (txs xs).toArray k, #[]⟩) :: (dx, dictOf [] 0) :: (o, instObj 569 dx) :: news) := fun p hp => by
  revert p; refine mcons ?_ (mcons ?_ (mcons ?_ (fun p hp => ?_)))
  ·exact N1 _ (.tail _ (.tail _ hl))
  ·exact N1 _ (.tail _ (.head _))
  ·exact N1 _ (.head _)
  ·exact N1 _ (.tail _ (.tail _ hp))
 refine adr_initE o dx lst xs k _ _ _ _ _ _ _ _ _ _ _ _ _ _ _ _ B F1 X N2 T hk hn5 hn ?_ ?_ (fun e g h' tk' FG RC U => hE e g h' tk' FG RC U)
 ·rw [e1]; show dp + 1 + 30 < 500; first | exact rm2 (by assumption) rfl | lia
 ·rw [e2]; show un + 1 + 130 < 200; first | exact rm2 (by assumption) rfl | lia
end
section
noncomputable def NF (o : Obj) : Prop := ∀ ps, o ≠ tabObj ps
structure LSt (h₀ : Heap) (L : Addr) (m : Str → Option Value) (os : OsState) (news : List (Addr × Obj)) (s : Shared) : Prop where
 fr : Fr h₀ L s.heap m
 tabs : ∃ oA oN oO, News h₀ L s.heap ((531, oA) :: (763, oN) :: (815, oO) :: news) ∧ TabOk oA ∧ TabOk oN ∧ TabOk oO
 plain : ∀ p ∈ news, NF p.2
 bare : AllBare s.gens
 same : s.os = os
theorem LSt.elim {h₀ : Heap} {L : Addr} {m : Str → Option Value} {os : OsState} {news : List (Addr × Obj)} {s : Shared} {G : Prop} (S : LSt h₀ L m os news s)
  (k : Fr h₀ L s.heap m → ∀ oA oN oO, News h₀ L s.heap ((531, oA) :: (763, oN) :: (815, oO) :: news) → TabOk oA → TabOk oN → TabOk oO → (∀ p ∈ news, NF p.2) → AllBare s.gens → s.os = os → G) : G := by
 obtain ⟨F, ⟨oA, oN, oO, N, hA, hN, hO⟩, hpl, hb, hos⟩ := S
 exact k F oA oN oO N hA hN hO hpl hb hos
theorem LSt.mk2 {h₀ : Heap} {L : Addr} {m : Str → Option Value} {os : OsState} {news : List (Addr × Obj)} {s : Shared} (oA oN oO : Obj) (F : Fr h₀ L s.heap m) (N : News h₀ L s.heap ((531, oA) :: (763, oN) :: (815, oO) :: news))
  (hA : TabOk oA) (hN : TabOk oN) (hO : TabOk oO) (hpl : ∀ p ∈ news, NF p.2) (hb : AllBare s.gens) (hos : s.os = os) : LSt h₀ L m os news s := ⟨F, ⟨oA, oN, oO, N, hA, hN, hO⟩, hpl, hb, hos⟩
theorem apart_of {h₀ h : Heap} {L P : Addr} {op : Obj} {news : List (Addr × Obj)} (N : News h₀ L h news) (hP : (P, op) ∈ news) (hop : TabOk op) {p : Addr × Obj} (hp : p ∈ news) (hf : NF p.2) : p.1 ≠ P := fun e => by
 obtain ⟨ps, rfl, _⟩ := hop
 have h1 := (N p hp).1
 have h2 := (N _ hP).1
 rw [e, h2] at h1
 exact hf ps (Option.some.inj h1).symm
theorem nf_list (ys : Array Value) (k : Nat) : NF (W.listOf ys k) := fun ps e => by have e2 := congrArg Obj.data e; cases e2
theorem nf_tup (ys : Array Value) (k : Nat) : NF ⟨.type "tuple", none, .seq ys k, #[]⟩ := fun ps e => by have e2 := congrArg Obj.data e; cases e2
theorem nf_dict (es : List DictEntry) (n : Nat) : NF (dictOf es n) := fun ps e => by have e2 := congrArg Obj.data e; cases e2
theorem nf_inst (C dx : Addr) : NF (instObj C dx) := fun ps e => by have e2 := congrArg Obj.data e; cases e2
theorem nf_vt (x : Str) (tx : Tok) (dx : Addr) (sl : Array (Option Value)) : NF (vtObj x tx dx sl) := fun ps e => by have e2 := congrArg Obj.data e; cases e2
theorem nf_sub (C dn : Addr) (vs : List Value) : NF (tupSub C dn vs) := fun ps e => by have e2 := congrArg Obj.data e; cases e2
theorem nf_rel : ∀ {vs ys : List Value} {objs : List (Addr × Obj)}, RelAll VtRel vs ys objs → ∀ p ∈ objs, NF p.2
 | _, _, _, .nil, _, hp => nomatch hp
 | _, _, _, .cons h1 h2, p, hp => by
  rcases List.mem_append.mp hp with hp | hp
  ·obtain ⟨l, tx, vv, dx, tx', sl, rfl, rfl, rfl⟩ := h1
   rcases List.mem_cons.mp hp with rfl | hp
   ·exact nf_vt _ _ _ _
   ·rcases List.mem_singleton.mp hp with rfl
    exact nf_dict _ _
  ·exact nf_rel h2 p hp
theorem on_entry : entryFor table "object.__ne__" = some Builtin.«object.__ne__» := entryFor_of_tree (by kernel_rfl)
theorem on_kind : builtinKind "object.__ne__" = some .slot := by decide +kernel
theorem on_split : splitId "object.__ne__" = some ("object", "__ne__") := by decide +kernel
theorem on_args (a b : Value) : argsOk "object.__ne__" ⟨[a, b], []⟩ := by unfold argsOk; kernel_rfl
section
variable {prog : Program} {w : World} {A : Around} {E : Value → Shared → Prop} {s : Shared} {K : Frag} {x y C L f : Addr} {h₀ : Heap} {m : Str → Option Value} {ox : Obj} {od : Option Obj}
theorem ne_K {Q : Value → Shared → Prop} (hu : A.units + 1 < cLine) (X : K.In s.heap) (I : InstAt s.heap x ox C od) (J : Looks (model prog w) s.heap (typeOf (.ref y)) (.ref C)) (hn : findIn K (.ref C) "__ne__" = some (some (.builtin "object.__ne__"))) (hm : mroIn K C (.type "object") = some true)
  (hs : findIn K (.ref C) "__eq__" = some (some (.ref f))) (hf : isFn K (.ref f) = true)
  (h : wpAny (model prog w) A.in1 (call (.ref f) [.ref x, .ref y]) (fun v s' => ∃ b, v = .bool b ∧ Q (.bool (!b)) s') E s) : wpAny (model prog w) A (richCompare .NotEq (.ref x) (.ref y)) Q E s := by
 obtain ⟨hh, g, d, t, os⟩ := s
 have L0 : Looks (model prog w) hh (isInstance (.ref x) (.type "object")) true := I.type.andThen (looks_mroIn X hm)
 have one : wpAny (model prog w) A (tryCompare (.ref x) "__ne__" (.ref y)) (fun r s' => ∃ v, r = some v ∧ Q v s') E ⟨hh, g, d, t, os⟩ := by
  delta tryCompare callSpecialIfBound? bindSpecialIfBound?
  refine wpAny_bind (wpAny_holding (wpAny_bind (wpAny_bind ?_)))
  refine wpAny_bind (I.type.here ?_)
  refine (looks_findIn X hn).here ?_
  dsimp only
  refine wpAny_bind (wpAny_askSetting ?_)
  have hb : bindSpecial (.builtin "object.__ne__") (.ref x) = pure (.builtin "object.__ne__", [.ref x]) := by
   have hop : withoutEnding? "object.__ne__" "#opaque" = none := by decide +kernel
   have hdat : withoutEnding? "object.__ne__" "#data" = none := by decide +kernel
   simp only [bindSpecial, typeOf, builtinType, hop, hdat, on_kind]; rfl
  rw [hb]
  have fin : wpAny (model prog w) A (call (.builtin "object.__ne__") ([.ref x] ++ [.ref y])) (fun r s' => ∃ b, r = .bool b ∧ Q (.bool b) s') E ⟨hh, g, d, t, os⟩ := by
   refine wpAny_call (codeAny_call_builtin (by decide +kernel) on_entry (@check_slot _ _ _ ⟨hh, g, d, t, os⟩ "object.__ne__" "object" "__ne__" (.ref x) [.ref y] [] _ on_kind on_split L0 (on_args _ _) ?_))
   delta Builtin.«object.__ne__»
   refine wpAny_bind (wpAny_of_eq (show PySem.slotArgs "__ne__" 1 ⟨[.ref x, .ref y], []⟩ = pure (.ref x, [.ref y]) from rfl) ?_)
   dsimp only
   refine wpAny_bind (wpAny_cRoomFor (by show A.units + 1 < cLine; exact hu) ?_)
   refine wpAny_bind (ifBound_K X I hs hf (_root_.PySem.wpAny_mono h (fun v s' hv => ?_) fun u' u' e => e))
   refine ob1_2 hv fun b eq1 hq => ?_
   clear hv
   subst eq1
   dsimp only
   refine wpAny_bind (wpAny_truthy_bool ?_)
   exact wpAny_pure ⟨_, rfl, hq⟩
  have fin2 : ∀ Q' : Option Value → Shared → Prop, (∀ b s', Q (.bool b) s' → Q' (some (.bool b)) s') → wpAny (model prog w) A (do return some (← call (.builtin "object.__ne__") ([.ref x] ++ [.ref y]))) Q' E ⟨hh, g, d, t, os⟩ := fun Q' q' =>
   wpAny_bind (_root_.PySem.wpAny_mono fin (fun r s' hr => by obtain ⟨b, rfl, hr⟩ := hr; exact wpAny_pure (q' b s' hr)) fun u' u' z => z)
  split
  ·exact wpAny_bind (wpAny_pure (wpAny_pure (fin2 _ (fun b s' hr => wpAny_pure ⟨_, rfl, hr⟩))))
  ·exact wpAny_tryCatch (wpAny_bind (wpAny_pure (wpAny_pure (fin2 _ (fun b s' hr => wpAny_pure ⟨_, rfl, hr⟩)))))
 delta richCompare
 refine wpAny_holding (wpAny_bind (wpAny_cRoomFor (by lia) ?_))
 have e1 : oneThing? CmpOp.NotEq (.ref x) (.ref y) = none := rfl
 rw [e1]
 dsimp only [cmpInfo]
 refine wpAny_bind (I.type.here ?_)
 refine wpAny_bind (J.here ?_)
 refine w_else (by simp) ?_
 refine wpAny_bind (wpAny_pure ?_)
 rw [if_neg Bool.false_ne_true]
 refine wpAny_bind (_root_.PySem.wpAny_mono one (fun r s' hr => ?_) fun u' u' z => z)
 obtain ⟨v, rfl, hr⟩ := hr
 exact wpAny_pure hr
end
end
section
local macro_rules | `(tactic| walk_at "call ref") => `(tactic| (refine hold ?_))
section
local macro_rules | `(tactic| walk_at "getMethod ref") => `(tactic| (k_here; k_dflt (refine' kmu_sm ?k1 ?k2 ?k4 ?k5 ?k6 ?k7 ?k8 ?k9 ?k10 ?k11 ?k12 ?k13 ?k14 ?_; (case k1 => k_asm); (case k2 => k_asm); (case k4 => k_inst); (case k5 => k_is); (case k6 => k_is); (case k7 => k_is); (case k8 => k_is); (case k9 => k_is); (case k10 => k_is); (case k11 => decide +kernel); (case k12 => k_get); (case k13 => k_is); (case k14 => k_handed); k_whole)))
local macro_rules | `(tactic| walk_at "setAttr ref") => `(tactic| (refine hold ?_))
section
local macro_rules | `(tactic| walk_at "call builtin:isinstance") => `(tactic| ((with_reducible show wpAny _ _ (call (.builtin "isinstance") [.ref _, .ref 750]) _ _ _); refine hold ?_))
theorem n_initS {w : World} {mean : ExcName → Option Value} {mg mb : Str → Option Value} {news : List (Addr × Obj)} (o dx : Addr) (l : List Nat) (tx : Tok)
  (dp un : Nat) (gd : Option (List Code)) (cn : Str) (cs : Scope) (a : Addr) (ccd : Value) (cl : List (Str × Addr)) (outer : List Env) (A₀ : Around) (base h₀ : Heap) (L : Addr) (m : Str → Option Value) (s : Shared) (R : Result → Shared → Prop)
  (B : Below A₀ base outer h₀) (F : Fr h₀ L s.heap m) (X : (K w.params).In h₀) (N : News h₀ L s.heap ((dx, dictOf [] 0) :: (o, instObj 801 dx) :: news)) (hne : ∀ p ∈ (o, instObj 801 dx) :: news, p.1 ≠ dx)
  (T : Top q0 (looseW q0 loose0) mean mg mb h₀) (hk : cs.kind = .function)
  (hx : l.length ≤ 65536) (hn : (fieldsOf 59 l).length = 5)
  (hd : dp + 30 < 500) (hu : un + 130 < 200)
  (hret : ∀ (xs : List (List Nat × Tok)) (D dn px : Addr) (t1 t2 : Nat) (h' : Heap) (tk' : Nat), Fr h₀ L h' m → News h₀ L h' ((dx, fldDict w t1 t2 D px) :: (o, instObj 801 dx) :: (D, tupSub 750 dn (txs xs)) :: news) → xs.map (·.1) = fieldsOf 59 l → R (.ok (.ret .none)) { s with heap := h', toks := tk' }) :
  codeAny (model pw w) (ktrTop dp un gd cn cs L a ccd cl outer) (.call (.ref 768) ⟨[.ref o, .str (strOf l) tx], []⟩) R s := by
 have hd' : dp + 3 < recursionLimit := by first | exact rc1 (by assumption) rfl | (rw [show recursionLimit = 1000 from rfl]; lia)
 k_dflt (refine' code_def ?k1 ?k2 ?k3 ?k4 ?k5 ?kA ?kF ?kK ?k6 ?k7 ?k8 ?k9 ?kB ?_ ?c2 ?c3 ?c4 ?c5; (case kA => exact rfl); (case kF => exact rfl); (case kK => first | exact rfl | assumption); (case k1 => k_asm); (case k2 => k_asm); (case k3 => k_asm); (case k4 => k_asm); (case k5 => k_asm); (case k6 => k_is); (case k7 => k_is); (case k8 => ktr_room); (case k9 => first | exact BindsTo.of_eq rfl | exact binds_K (by k_in) rfl (by k_is) rfl rfl rfl); (case c5 => decide); (case kB => exact locs rfl); (case c2 => exact rfl); (case c3 => exact rfl); (case c4 => exact rfl); k_whole; intro g' L' h' FG' F' N' B' X' T'; (try dsimp only); (try k_lift B'); (try k_fold))
 with_reducible rename Below _ _ _ _ => B1
 with_reducible rename Top _ _ _ _ _ _ => T1
 with_reducible rename Frag.In _ _ => X1
 with_reducible rename Fr _ _ _ _ => F0
 replace F0 := frBinds F0 (fun y => if y = "params" then some .none else if y = "fields" then some (.str (strOf l) tx) else if y = "self" then some (.ref o) else none) (by kernel_rfl)
 k_steps
 refine unhold ?_
 with_reducible rename News _ _ _ _ => N0
 refine n_from l tx _ _ _ _ _ _ _ _ _ _ _ _ _ _ _ _ _ B1 F0 X1 N0 T1 rfl hx hn ?_ ?_ (fun D dn xs h2 tk2 F1 N1' hxs hD0 => ?_)
 ·show dp + 1 + 12 < 500; first | exact rm2 (by assumption) rfl | lia
 ·show un + 3 + 40 < 200; first | exact rm2 (by assumption) rfl | lia
 clear F0 N0
 k_steps
 refine unhold ?_
 with_reducible rename Fr _ _ _ _ => F2
 with_reducible rename News _ _ _ _ => N2
 refine up (lf_isiN (X1.keeps F2.keep) D dn (txs xs).toArray (N2 _ (.head _)).1 (fun h3 tk3 nw3 D3 => ?_)) ?_ ?_
 rotate_left
 ·show dp + 1 ≤ 500; first | exact rl1 (by assumption) rfl | lia
 ·show un + 3 ≤ 200; first | exact rl1 (by assumption) rfl | lia
 have F3 := memFr F2 D3
 have N3 : News _ _ h3 ((dx, dictOf [] 0) :: (o, instObj 801 dx) :: (D, tupSub 750 dn (txs xs)) :: news) := fun p hp => memNews F2 N2 D3 p (List.mem_append_right _ (by
  exact sub hp))
 have hneT : ∀ p ∈ (o, instObj 801 dx) :: (D, tupSub 750 dn (txs xs)) :: news, p.1 ≠ dx := fun p hp e => by
  simp only [List.mem_cons] at hp
  rcases hp with h | h | h
  ·exact hne (o, instObj 801 dx) (.head _) (by rw [h] at e; exact e)
  ·exact (hD0 (dx, dictOf [] 0) (.head _)).1 (by rw [h] at e; exact e.symm)
  ·exact hne p (.tail _ h) e
 clear F2 N2
 k_steps
 refine unhold ?_
 with_reducible rename Fr _ _ _ _ => F8
 with_reducible rename News _ _ _ _ => N8
 refine setNew F8 N8 (X1.keeps F8.keep) (.head _) (by k_is) (by k_is) (by k_is) rfl rfl hneT (by kernel_rfl) (Nat.zero_le _) (fun h8 F9 N9 => ?_)
 clear F8 N8
 k_steps
 refine unhold ?_
 refine params_spec _ _ _ _ _ _ _ _ _ _ _ _ _ _ _ _ _ B1 F9 X1 N9 T1 rfl ?_ ?_ (fun px pdx h9 tk9 F10 N10 ne10 => ?_)
 ·show dp + 1 + 15 < 500; first | exact rm2 (by assumption) rfl | lia
 ·show un + 3 + 100 < 200; first | exact rm2 (by assumption) rfl | lia
 clear F9 N9
 k_steps
 refine unhold ?_
 have N11 : News _ _ h9 ((dx, dictOf ([] ++ [ent w "fields" _ (.ref D)]) (0 + 1)) :: (o, instObj 801 dx) :: (D, tupSub 750 dn (txs xs)) :: news) := fun p hp => N10 p (.tail _ (.tail _ hp))
 refine setNew F10 N11 (X1.keeps F10.keep) (.head _) (by k_is) (by k_is) (by k_is) rfl rfl hneT (by kernel_rfl) (Nat.le_of_ble_eq_true rfl) (fun h11 F12 N12 => ?_)
 clear F10 N10 N11
 k_steps
 with_reducible rename Fr h₀ L _ m => F13
 with_reducible rename News h₀ L _ _ => N13
 exact hret xs D dn px _ _ _ _ F13 N13 hxs
theorem n_specS {w : World} {mean : ExcName → Option Value} {mg mb : Str → Option Value} {news : List (Addr × Obj)} (l : List Nat) (tx : Tok)
  (dp un : Nat) (gd : Option (List Code)) (cn : Str) (cs : Scope) (a : Addr) (ccd : Value) (cl : List (Str × Addr)) (outer : List Env) (A₀ : Around) (base h₀ : Heap) (L : Addr) (m : Str → Option Value) (s : Shared) (Q E : Value → Shared → Prop)
  (B : Below A₀ base outer h₀) (F : Fr h₀ L s.heap m) (X : (K w.params).In h₀) (N : News h₀ L s.heap news) (T : Top q0 (looseW q0 loose0) mean mg mb h₀) (hk : cs.kind = .function)
  (hx : l.length ≤ 65536) (hn : (fieldsOf 59 l).length = 5)
  (hd : dp + 31 < 500) (hu : un + 131 < 200)
  (hret : ∀ (xs : List (List Nat × Tok)) (o dx D dn px : Addr) (t1 t2 : Nat) (h' : Heap) (tk' : Nat), Fr h₀ L h' m → News h₀ L h' ((dx, fldDict w t1 t2 D px) :: (o, instObj 801 dx) :: (D, tupSub 750 dn (txs xs)) :: news) → xs.map (·.1) = fieldsOf 59 l → Q (.ref o) { s with heap := h', toks := tk' }) :
  wpAny (model pw w) (ktrTop dp un gd cn cs L a ccd cl outer) (call (.ref 801) [.str (strOf l) tx]) Q E s := by
 refine wpAny_call (make_K (fI := 768) F N (X.keeps F.keep) (by kernel_rfl) (by k_is) (by k_is) (fun o dx h1 F1 N1 ne1 lt1 => ?_))
 have e1 : (Code.builtin "type.__call__" { pos := [Value.ref 801, Value.str (strOf l) tx] }).weight = 1 := rfl
 have e2 : (Code.builtin "type.__call__" { pos := [Value.ref 801, Value.str (strOf l) tx] }).cUnits = 1 := rfl
 have N2 : News h₀ L h1 ((dx, dictOf [] 0) :: (o, instObj 801 dx) :: news) := fun p hp => by
  revert p; refine mcons ?_ (mcons ?_ (fun p hp => ?_))
  ·exact N1 _ (.tail _ (.head _))
  ·exact N1 _ (.head _)
  ·exact N1 _ (.tail _ (.tail _ hp))
 refine n_initS o dx l tx _ _ _ _ _ _ _ _ _ _ _ _ _ _ _ _ B F1 X N2 (fun p hp => ?_) T hk hx hn ?_ ?_ (fun xs D dn px t1 t2 h' tk' F2 N3 hxs => ⟨rfl, hret xs o dx D dn px t1 t2 h' tk' F2 N3 hxs⟩)
 ·revert p; refine mcons ?_ (fun p hp => ?_)
  ·exact Nat.ne_of_gt lt1
  ·exact Nat.ne_of_lt (ne1 _ hp)
 ·rw [e1]; show dp + 1 + 30 < 500; first | exact rm2 (by assumption) rfl | lia
 ·rw [e2]; show un + 1 + 130 < 200; first | exact rm2 (by assumption) rfl | lia
end
section
local macro_rules | `(tactic| walk_at "call builtin:isinstance") => `(tactic| ((with_reducible show wpAny _ _ (call (.builtin "isinstance") [.ref _, .ref 518]) _ _ _); refine hold ?_))
local macro_rules | `(tactic| walk_at "none") => `(tactic| fail)
theorem adr_initS {w : World} {mean : ExcName → Option Value} {mg mb : Str → Option Value} {news : List (Addr × Obj)} (o dx : Addr) (l : List Nat) (tx : Tok)
  (dp un : Nat) (gd : Option (List Code)) (cn : Str) (cs : Scope) (a : Addr) (ccd : Value) (cl : List (Str × Addr)) (outer : List Env) (A₀ : Around) (base h₀ : Heap) (L : Addr) (m : Str → Option Value) (s : Shared) (R : Result → Shared → Prop)
  (B : Below A₀ base outer h₀) (F : Fr h₀ L s.heap m) (X : (K w.params).In h₀) (N : News h₀ L s.heap ((dx, dictOf [] 0) :: (o, instObj 569 dx) :: news)) (hne : ∀ p ∈ (o, instObj 569 dx) :: news, p.1 ≠ dx)
  (T : Top q0 (looseW q0 loose0) mean mg mb h₀) (hk : cs.kind = .function)
  (hx : l.length ≤ 65536) (hn : (fieldsOf 59 l).length = 7)
  (hd : dp + 30 < 500) (hu : un + 130 < 200)
  (hret : ∀ (xs : List (List Nat × Tok)) (D dn px : Addr) (t1 t2 : Nat) (h' : Heap) (tk' : Nat), Fr h₀ L h' m → News h₀ L h' ((dx, fldDict w t1 t2 D px) :: (o, instObj 569 dx) :: (D, tupSub 518 dn (txs xs)) :: news) → xs.map (·.1) = fieldsOf 59 l → R (.ok (.ret .none)) { s with heap := h', toks := tk' }) :
  codeAny (model pw w) (ktrTop dp un gd cn cs L a ccd cl outer) (.call (.ref 536) ⟨[.ref o, .str (strOf l) tx], []⟩) R s := by
 have hd' : dp + 3 < recursionLimit := by first | exact rc1 (by assumption) rfl | (rw [show recursionLimit = 1000 from rfl]; lia)
 k_dflt (refine' code_def ?k1 ?k2 ?k3 ?k4 ?k5 ?kA ?kF ?kK ?k6 ?k7 ?k8 ?k9 ?kB ?_ ?c2 ?c3 ?c4 ?c5; (case kA => exact rfl); (case kF => exact rfl); (case kK => first | exact rfl | assumption); (case k1 => k_asm); (case k2 => k_asm); (case k3 => k_asm); (case k4 => k_asm); (case k5 => k_asm); (case k6 => k_is); (case k7 => k_is); (case k8 => ktr_room); (case k9 => first | exact BindsTo.of_eq rfl | exact binds_K (by k_in) rfl (by k_is) rfl rfl rfl); (case c5 => decide); (case kB => exact locs rfl); (case c2 => exact rfl); (case c3 => exact rfl); (case c4 => exact rfl); k_whole; intro g' L' h' FG' F' N' B' X' T'; (try dsimp only); (try k_lift B'); (try k_fold))
 with_reducible rename Below _ _ _ _ => B1
 with_reducible rename Top _ _ _ _ _ _ => T1
 with_reducible rename Frag.In _ _ => X1
 with_reducible rename Fr _ _ _ _ => F0
 replace F0 := frBinds F0 (fun y => if y = "params" then some .none else if y = "fields" then some (.str (strOf l) tx) else if y = "self" then some (.ref o) else none) (by kernel_rfl)
 k_steps
 refine unhold ?_
 with_reducible rename News _ _ _ _ => N0
 refine adr_from l tx _ _ _ _ _ _ _ _ _ _ _ _ _ _ _ _ _ B1 F0 X1 N0 T1 rfl hx hn ?_ ?_ (fun D dn xs h2 tk2 F1 N1' hxs hD0 => ?_)
 ·show dp + 1 + 12 < 500; first | exact rm2 (by assumption) rfl | lia
 ·show un + 3 + 40 < 200; first | exact rm2 (by assumption) rfl | lia
 clear F0 N0
 k_steps
 refine unhold ?_
 with_reducible rename Fr _ _ _ _ => F2
 with_reducible rename News _ _ _ _ => N2
 refine up (lf_isiA (X1.keeps F2.keep) D dn (txs xs).toArray (N2 _ (.head _)).1 (fun h3 tk3 nw3 D3 => ?_)) ?_ ?_
 rotate_left
 ·show dp + 1 ≤ 500; first | exact rl1 (by assumption) rfl | lia
 ·show un + 3 ≤ 200; first | exact rl1 (by assumption) rfl | lia
 have F3 := memFr F2 D3
 have N3 : News _ _ h3 ((dx, dictOf [] 0) :: (o, instObj 569 dx) :: (D, tupSub 518 dn (txs xs)) :: news) := fun p hp => memNews F2 N2 D3 p (List.mem_append_right _ (by
  exact sub hp))
 have hneT : ∀ p ∈ (o, instObj 569 dx) :: (D, tupSub 518 dn (txs xs)) :: news, p.1 ≠ dx := fun p hp e => by
  simp only [List.mem_cons] at hp
  rcases hp with h | h | h
  ·exact hne (o, instObj 569 dx) (.head _) (by rw [h] at e; exact e)
  ·exact (hD0 (dx, dictOf [] 0) (.head _)).1 (by rw [h] at e; exact e.symm)
  ·exact hne p (.tail _ h) e
 clear F2 N2
 k_steps
 refine unhold ?_
 with_reducible rename Fr _ _ _ _ => F8
 with_reducible rename News _ _ _ _ => N8
 refine setNew F8 N8 (X1.keeps F8.keep) (.head _) (by k_is) (by k_is) (by k_is) rfl rfl hneT (by kernel_rfl) (Nat.zero_le _) (fun h8 F9 N9 => ?_)
 clear F8 N8
 k_steps
 refine unhold ?_
 refine params_spec _ _ _ _ _ _ _ _ _ _ _ _ _ _ _ _ _ B1 F9 X1 N9 T1 rfl ?_ ?_ (fun px pdx h9 tk9 F10 N10 ne10 => ?_)
 ·show dp + 1 + 15 < 500; first | exact rm2 (by assumption) rfl | lia
 ·show un + 3 + 100 < 200; first | exact rm2 (by assumption) rfl | lia
 clear F9 N9
 k_steps
 refine unhold ?_
 have N11 : News _ _ h9 ((dx, dictOf ([] ++ [ent w "fields" _ (.ref D)]) (0 + 1)) :: (o, instObj 569 dx) :: (D, tupSub 518 dn (txs xs)) :: news) := fun p hp => N10 p (.tail _ (.tail _ hp))
 refine setNew F10 N11 (X1.keeps F10.keep) (.head _) (by k_is) (by k_is) (by k_is) rfl rfl hneT (by kernel_rfl) (Nat.le_of_ble_eq_true rfl) (fun h11 F12 N12 => ?_)
 clear F10 N10 N11
 k_steps
 with_reducible rename Fr h₀ L _ m => F13
 with_reducible rename News h₀ L _ _ => N13
 exact hret xs D dn px _ _ _ _ F13 N13 hxs
theorem adr_specS {w : World} {mean : ExcName → Option Value} {mg mb : Str → Option Value} {news : List (Addr × Obj)} (l : List Nat) (tx : Tok)
  (dp un : Nat) (gd : Option (List Code)) (cn : Str) (cs : Scope) (a : Addr) (ccd : Value) (cl : List (Str × Addr)) (outer : List Env) (A₀ : Around) (base h₀ : Heap) (L : Addr) (m : Str → Option Value) (s : Shared) (Q E : Value → Shared → Prop)
  (B : Below A₀ base outer h₀) (F : Fr h₀ L s.heap m) (X : (K w.params).In h₀) (N : News h₀ L s.heap news) (T : Top q0 (looseW q0 loose0) mean mg mb h₀) (hk : cs.kind = .function)
  (hx : l.length ≤ 65536) (hn : (fieldsOf 59 l).length = 7)
  (hd : dp + 31 < 500) (hu : un + 131 < 200)
  (hret : ∀ (xs : List (List Nat × Tok)) (o dx D dn px : Addr) (t1 t2 : Nat) (h' : Heap) (tk' : Nat), Fr h₀ L h' m → News h₀ L h' ((dx, fldDict w t1 t2 D px) :: (o, instObj 569 dx) :: (D, tupSub 518 dn (txs xs)) :: news) → xs.map (·.1) = fieldsOf 59 l → Q (.ref o) { s with heap := h', toks := tk' }) :
  wpAny (model pw w) (ktrTop dp un gd cn cs L a ccd cl outer) (call (.ref 569) [.str (strOf l) tx]) Q E s := by
 refine wpAny_call (make_K (fI := 536) F N (X.keeps F.keep) (by kernel_rfl) (by k_is) (by k_is) (fun o dx h1 F1 N1 ne1 lt1 => ?_))
 have e1 : (Code.builtin "type.__call__" { pos := [Value.ref 569, Value.str (strOf l) tx] }).weight = 1 := rfl
 have e2 : (Code.builtin "type.__call__" { pos := [Value.ref 569, Value.str (strOf l) tx] }).cUnits = 1 := rfl
 have N2 : News h₀ L h1 ((dx, dictOf [] 0) :: (o, instObj 569 dx) :: news) := fun p hp => by
  revert p; refine mcons ?_ (mcons ?_ (fun p hp => ?_))
  ·exact N1 _ (.tail _ (.head _))
  ·exact N1 _ (.head _)
  ·exact N1 _ (.tail _ (.tail _ hp))
 refine adr_initS o dx l tx _ _ _ _ _ _ _ _ _ _ _ _ _ _ _ _ B F1 X N2 (fun p hp => ?_) T hk hx hn ?_ ?_ (fun xs D dn px t1 t2 h' tk' F2 N3 hxs => ⟨rfl, hret xs o dx D dn px t1 t2 h' tk' F2 N3 hxs⟩)
 ·revert p; refine mcons ?_ (fun p hp => ?_)
  ·exact Nat.ne_of_gt lt1
  ·exact Nat.ne_of_lt (ne1 _ hp)
 ·rw [e1]; show dp + 1 + 30 < 500; first | exact rm2 (by assumption) rfl | lia
 ·rw [e2]; show un + 1 + 130 < 200; first | exact rm2 (by assumption) rfl | lia
end
section
local macro_rules | `(tactic| walk_at "call type:tuple") => `(tactic| (refine hold ?_))
local macro_rules | `(tactic| walk_at "getAttr ref") => `(tactic| (refine hold ?_))
local macro_rules | `(tactic| walk_at "call builtin:len") => `(tactic| (refine hold ?_))
local macro_rules | `(tactic| walk_at "eval GeneratorExp") => `(tactic| (refine hold ?_))
theorem permD {h₀ h : Heap} {L : Addr} {a b c d e : Addr × Obj} {news : List (Addr × Obj)} (N : News h₀ L h (a :: b :: c :: d :: e :: news)) : News h₀ L h (d :: a :: b :: c :: news) := fun p hp => N p (by
 exact sub hp)
theorem org_initS {w : World} {mean : ExcName → Option Value} {mg mb : Str → Option Value} {news : List (Addr × Obj)} (o dx : Addr) (l : List Nat) (tx : Tok) (op : Obj)
  (dp un : Nat) (gd : Option (List Code)) (cn : Str) (cs : Scope) (a : Addr) (ccd : Value) (cl : List (Str × Addr)) (outer : List Env) (A₀ : Around) (base h₀ : Heap) (L : Addr) (m : Str → Option Value) (s : Shared) (R : Result → Shared → Prop)
  (B : Below A₀ base outer h₀) (F : Fr h₀ L s.heap m) (X : (K w.params).In h₀) (N : News h₀ L s.heap ((815, op) :: (dx, dictOf [] 0) :: (o, instObj 869 dx) :: news)) (hne : ∀ p ∈ (815, op) :: (o, instObj 869 dx) :: news, p.1 ≠ dx)
  (hnP : ∀ p ∈ (dx, dictOf [] 0) :: (o, instObj 869 dx) :: news, p.1 ≠ 815) (hop : TabOk op) (T : Top q0 (looseW q0 loose0) mean mg mb h₀) (hk : cs.kind = .function)
  (hx : l.length ≤ 65536) (hn : (fieldsOf 59 l).length ≤ 30) (hn0 : 0 < (fieldsOf 59 l).length)
  (hd : dp + 30 < 500) (hu : un + 130 < 200)
  (hret : ∀ (s' : Shared) (xs : List (List Nat × Tok)) (D px : Addr) (t1 t2 kD : Nat) (op' : Obj), Fr h₀ L s'.heap m → News h₀ L s'.heap ((815, op') :: (dx, fldDict w t1 t2 D px) :: (o, instObj 869 dx) :: (D, ⟨.type "tuple", none, .seq (txs xs).toArray kD, #[]⟩) :: news) → xs.map (·.1) = fieldsOf 59 l → TabOk op' → (AllBare s.gens → AllBare s'.gens) → s'.os = s.os → s'.drawn = s.drawn → R (.ok (.ret .none)) s') :
  codeAny (model pw w) (ktrTop dp un gd cn cs L a ccd cl outer) (.call (.ref 820) ⟨[.ref o, .str (strOf l) tx], []⟩) R s := by
 have hd' : dp + 3 < recursionLimit := by first | exact rc1 (by assumption) rfl | (rw [show recursionLimit = 1000 from rfl]; lia)
 k_dflt (refine' code_def ?k1 ?k2 ?k3 ?k4 ?k5 ?kA ?kF ?kK ?k6 ?k7 ?k8 ?k9 ?kB ?_ ?c2 ?c3 ?c4 ?c5; (case kA => exact rfl); (case kF => exact rfl); (case kK => first | exact rfl | assumption); (case k1 => k_asm); (case k2 => k_asm); (case k3 => k_asm); (case k4 => k_asm); (case k5 => k_asm); (case k6 => k_is); (case k7 => k_is); (case k8 => ktr_room); (case k9 => first | exact BindsTo.of_eq rfl | exact binds_K (by k_in) rfl (by k_is) rfl rfl rfl); (case c5 => decide); (case kB => exact locs rfl); (case c2 => exact rfl); (case c3 => exact rfl); (case c4 => exact rfl); k_whole; intro g' L' h' FG' F' N' B' X' T'; (try dsimp only); (try k_lift B'); (try k_fold))
 with_reducible rename Below _ _ _ _ => B1
 with_reducible rename Top _ _ _ _ _ _ => T1
 with_reducible rename Frag.In _ _ => X1
 with_reducible rename Fr _ _ _ _ => F0
 replace F0 := frBinds F0 (fun y => if y = "params" then some .none else if y = "fields" then some (.str (strOf l) tx) else if y = "self" then some (.ref o) else none) (by kernel_rfl)
 k_steps
 refine unhold ?_
 with_reducible rename News _ _ _ _ => N0
 refine org_from l tx _ _ _ _ _ _ _ _ _ _ _ _ _ _ _ _ _ B1 F0 X1 N0 T1 rfl hx (by lia) ?_ ?_ (fun lst xs h2 tk2 F1 N1' hxs hD0 => ?_)
 ·show dp + 1 + 10 < 500; first | exact rm2 (by assumption) rfl | lia
 ·show un + 3 + 40 < 200; first | exact rm2 (by assumption) rfl | lia
 have hxl : xs.length = (fieldsOf 59 l).length := by rw [← hxs, List.length_map]
 have hn : xs.length ≤ 30 := by lia
 have hn0 : 0 < xs.length := by lia
 have N1 : News _ _ h2 ((815, op) :: (lst, ⟨.type "tuple", none, .seq (txs xs).toArray 0, #[]⟩) :: (dx, dictOf [] 0) :: (o, instObj 869 dx) :: news) := fun p hp => N1' p (by
  exact sub hp)
 have hnP' : ∀ p ∈ (lst, (⟨.type "tuple", none, .seq (txs xs).toArray 0, #[]⟩ : Obj)) :: (dx, dictOf [] 0) :: (o, instObj 869 dx) :: news, p.1 ≠ 815 := fun p hp => by
  rcases List.mem_cons.mp hp with rfl | hp
  ·exact fun e => hD0 (815, op) (.head _) e.symm
  ·exact hnP p hp
 clear F0 N0 N1'
 k_steps
 refine unhold ?_
 with_reducible rename Fr _ _ _ _ => F1
 with_reducible rename News _ _ _ _ => N1
 have hlen : (txs xs).toArray.size = xs.length := by simp [txs_len]
 refine len_tuple (items := (txs xs).toArray) ⟨_, (N1 _ (.tail _ (.head _))).1, rfl, _, rfl⟩ (by rw [hlen]; lia) ?_
 rw [hlen]
 k_steps
 refine unhold ?_
 refine genStr (P := 815) (c := 819) (op := op) (lst := lst) (ys := txs xs) F1 N1 hnP' X1 T1 hop rfl rfl rfl rfl ⟨_, _, rfl⟩ ⟨_, _, rfl⟩ ⟨_, rfl⟩ ⟨_, _, rfl⟩ (by decide) rfl rfl rfl rfl rfl (by kernel_rfl) (.inr ⟨_, (N1 _ (.tail _ (.head _))).1, rfl, _, rfl⟩) (fun e => hD0 (815, op) (.head _) e.symm) (fun v hv => ?_) rfl ?_ rfl rfl (by decide) rfl rfl rfl (fun u' u' u' => rfl) (fun u' u' u' => rfl) (by k_is) (fun u' => by with_unfolding_all rfl) (fun ga s5 op5 F5 N5 hop5 hb5 ho5 hd5 hG => ?_)
 ·obtain ⟨l, t, _, rfl⟩ := txs_mem hv; exact ⟨_, _, rfl⟩
 ·show dp + 1 < recursionLimit; first | exact rm1 (by assumption) rfl | lia
 k_steps
 refine unhold ?_
 refine tupGen F1 N1 F5 N5 (fun p hp => ?_) hG (by rw [txs_len, List.length_map]; lia) (fun D s6 F6 N6 hDn hb6 ho6 hd6 => ?_)
 ·rcases List.mem_cons.mp hp with rfl | hp
  ·exact ⟨_, .head _, rfl⟩
  ·exact ⟨p, .tail _ hp, rfl⟩
 clear F1 N1 F5
 k_steps
 refine unhold ?_
 have N7 : News _ _ _ ((dx, dictOf [] 0) :: (o, instObj 869 dx) :: (D, ⟨.type "tuple", none, .seq (txs xs).toArray 0, #[]⟩) :: (815, op5) :: (lst, ⟨.type "tuple", none, .seq (txs xs).toArray 0, #[]⟩) :: news) := fun p hp => N6 p (by
  exact sub hp)
 have hneT : ∀ p ∈ (o, instObj 869 dx) :: (D, (⟨.type "tuple", none, .seq (txs xs).toArray 0, #[]⟩ : Obj)) :: (815, op5) :: (lst, ⟨.type "tuple", none, .seq (txs xs).toArray 0, #[]⟩) :: news, p.1 ≠ dx := fun p hp e => by
  simp only [List.mem_cons] at hp
  rcases hp with h | h | h | h | h
  ·exact hne (o, instObj 869 dx) (.tail _ (.head _)) (by rw [h] at e; exact e)
  ·exact hDn (dx, dictOf [] 0) (.tail _ (.tail _ (.head _))) (by rw [h] at e; exact e.symm)
  ·exact hnP (dx, dictOf [] 0) (.head _) (by rw [h] at e; exact e.symm)
  ·exact hD0 (dx, dictOf [] 0) (.tail _ (.head _)) (by rw [h] at e; exact e.symm)
  ·exact hne p (.tail _ (.tail _ h)) e
 refine setNew F6 N7 (X1.keeps F6.keep) (.head _) (by k_is) (by k_is) (by k_is) rfl rfl hneT (by kernel_rfl) (Nat.zero_le _) (fun h8 F8 N8 => ?_)
 clear F6 N6 N7
 k_steps
 refine unhold ?_
 refine params_spec _ _ _ _ _ _ _ _ _ _ _ _ _ _ _ _ _ B1 F8 X1 N8 T1 rfl ?_ ?_ (fun px pdx h9 tk9 F9 N9 ne9 => ?_)
 ·show dp + 1 + 15 < 500; first | exact rm2 (by assumption) rfl | lia
 ·show un + 3 + 100 < 200; first | exact rm2 (by assumption) rfl | lia
 clear F8 N8
 k_steps
 refine unhold ?_
 have N10 : News _ _ h9 ((dx, dictOf ([] ++ [ent w "fields" _ (.ref D)]) (0 + 1)) :: (o, instObj 869 dx) :: (D, ⟨.type "tuple", none, .seq (txs xs).toArray 0, #[]⟩) :: (815, op5) :: (lst, ⟨.type "tuple", none, .seq (txs xs).toArray 0, #[]⟩) :: news) := fun p hp => N9 p (.tail _ (.tail _ hp))
 refine setNew F9 N10 (X1.keeps F9.keep) (.head _) (by k_is) (by k_is) (by k_is) rfl rfl hneT (by kernel_rfl) (Nat.le_of_ble_eq_true rfl) (fun h11 F11 N11 => ?_)
 clear F9 N9 N10
 k_steps
 with_reducible rename Fr h₀ L _ m => F12
 with_reducible rename News h₀ L _ _ => N12
 exact hret _ xs D px _ _ 0 op5 F12 (permD N12) hxs hop5 (fun b => hb6 (hb5 b)) (ho6.trans ho5) (hd6.trans hd5)
theorem org_specS {w : World} {mean : ExcName → Option Value} {mg mb : Str → Option Value} {news : List (Addr × Obj)} (l : List Nat) (tx : Tok) (op : Obj)
  (dp un : Nat) (gd : Option (List Code)) (cn : Str) (cs : Scope) (a : Addr) (ccd : Value) (cl : List (Str × Addr)) (outer : List Env) (A₀ : Around) (base h₀ : Heap) (L : Addr) (m : Str → Option Value) (s : Shared) (Q E : Value → Shared → Prop)
  (B : Below A₀ base outer h₀) (F : Fr h₀ L s.heap m) (X : (K w.params).In h₀) (N : News h₀ L s.heap ((815, op) :: news)) (hnP : ∀ p ∈ news, p.1 ≠ 815) (hop : TabOk op) (T : Top q0 (looseW q0 loose0) mean mg mb h₀) (hk : cs.kind = .function)
  (hx : l.length ≤ 65536) (hn : (fieldsOf 59 l).length ≤ 30) (hn0 : 0 < (fieldsOf 59 l).length)
  (hd : dp + 31 < 500) (hu : un + 131 < 200)
  (hret : ∀ (s' : Shared) (xs : List (List Nat × Tok)) (o dx D px : Addr) (t1 t2 kD : Nat) (op' : Obj), Fr h₀ L s'.heap m → News h₀ L s'.heap ((815, op') :: (dx, fldDict w t1 t2 D px) :: (o, instObj 869 dx) :: (D, ⟨.type "tuple", none, .seq (txs xs).toArray kD, #[]⟩) :: news) → xs.map (·.1) = fieldsOf 59 l → TabOk op' → (AllBare s.gens → AllBare s'.gens) → s'.os = s.os → s'.drawn = s.drawn → Q (.ref o) s') :
  wpAny (model pw w) (ktrTop dp un gd cn cs L a ccd cl outer) (call (.ref 869) [.str (strOf l) tx]) Q E s := by
 refine wpAny_call (make_K (fI := 820) F N (X.keeps F.keep) (by kernel_rfl) (by k_is) (by k_is) (fun o dx h1 F1 N1 ne1 lt1 => ?_))
 have e1 : (Code.builtin "type.__call__" { pos := [Value.ref 869, Value.str (strOf l) tx] }).weight = 1 := rfl
 have e2 : (Code.builtin "type.__call__" { pos := [Value.ref 869, Value.str (strOf l) tx] }).cUnits = 1 := rfl
 have N2 : News h₀ L h1 ((815, op) :: (dx, dictOf [] 0) :: (o, instObj 869 dx) :: news) := fun p hp => by
  revert p; refine mcons ?_ (mcons ?_ (mcons ?_ (fun p hp => ?_)))
  ·exact N1 _ (.tail _ (.tail _ (.head _)))
  ·exact N1 _ (.tail _ (.head _))
  ·exact N1 _ (.head _)
  ·exact N1 _ (.tail _ (.tail _ (.tail _ hp)))
 have l815 := ne1 _ (.head _)
 refine org_initS o dx l tx op _ _ _ _ _ _ _ _ _ _ _ _ _ _ _ _ B F1 X N2 (fun p hp => ?_) (fun p hp => ?_) hop T hk hx hn hn0 ?_ ?_ (fun s' xs D px t1 t2 kD op' F2 N3 hxs ho' hb hos hdr => ⟨rfl, hret s' xs o dx D px t1 t2 kD op' F2 N3 hxs ho' hb hos hdr⟩)
 ·revert p; refine mcons ?_ (mcons ?_ (fun p hp => ?_))
  ·exact Nat.ne_of_lt l815
  ·exact Nat.ne_of_gt lt1
  ·exact Nat.ne_of_lt (ne1 _ (.tail _ hp))
 ·revert p; refine mcons ?_ (mcons ?_ (fun p hp => ?_))
  ·exact Nat.ne_of_gt l815
  ·exact Nat.ne_of_gt (Nat.lt_trans l815 lt1)
  ·exact hnP _ hp
 ·rw [e1]; show dp + 1 + 30 < 500; first | exact rm2 (by assumption) rfl | lia
 ·rw [e2]; show un + 1 + 130 < 200; first | exact rm2 (by assumption) rfl | lia
end
end
section
local macro_rules | `(tactic| walk_at "eval ListComp") => `(tactic| (refine hold ?_))
local macro_rules | `(tactic| walk_at "call builtin:str.join") => `(tactic| (refine hold ?_))
local macro_rules | `(tactic| walk_at "call type:tuple") => `(tactic| (refine hold ?_))
theorem refusedN_F {w : World} {mean : ExcName → Option Value} {mg mb : Str → Option Value} {news : List (Addr × Obj)} (lst : Addr) (fs : List Fld) (k : Nat) (op : Obj)
  (dp un : Nat) (gd : Option (List Code)) (cn : Str) (cs : Scope) (a : Addr) (ccd : Value) (cl : List (Str × Addr)) (outer : List Env) (A₀ : Around) (base h₀ : Heap) (L : Addr) (m : Str → Option Value) (s : Shared) (Q E : Value → Shared → Prop)
  (B : Below A₀ base outer h₀) (F : Fr h₀ L s.heap m) (X : (K w.params).In h₀) (N : News h₀ L s.heap ((763, op) :: news)) (hnP : ∀ p ∈ news, p.1 ≠ 763) (hop : TabOk op) (T : Top q0 (looseW q0 loose0) mean mg mb h₀) (hk : cs.kind = .function)
  (hl : (lst, W.listOf (fdVals fs).toArray k) ∈ news) (hfs : FdsIn news fs) (ok : FdOk fs) (h5 : fs.length = 5)
  (hd : dp + 40 < 500) (hu : un + 140 < 200)
  (hret : ∀ (s' : Shared) (op' : Obj), Fr h₀ L s'.heap m → News h₀ L s'.heap ((763, op') :: news) → TabOk op' → (AllBare s.gens → AllBare s'.gens) → s'.os = s.os → s'.drawn = s.drawn → Q (.bool false) s') :
  wpAny (model pw w) (ktrTop dp un gd cn cs L a ccd cl outer) (call (.ref 887) [.ref 801, .ref lst]) Q E s := by
 have hd' : dp + 3 < recursionLimit := by first | exact rc1 (by assumption) rfl | (rw [show recursionLimit = 1000 from rfl]; lia)
 refine wpAny_call ?_
 k_dflt cell_enter
 with_reducible rename Fr _ _ _ (fun y => _) => F1
 with_reducible rename Below _ _ _ _ => B1
 with_reducible rename Top _ _ _ _ _ _ => T1
 with_reducible rename Frag.In _ _ => X1
 replace F1 := frBinds F1 (fun y => if y = "fields" then some (.ref lst) else if y = "made" then some (.ref 801) else none) (by kernel_rfl)
 k_steps
 refine unhold ?_
 with_reducible rename Fr _ _ _ (fun y => _) => F2
 with_reducible rename News _ _ _ _ => N2
 with_reducible rename Heap => H2
 k_dflt (refine' listCompH (JoinRel H2 escTab) ?hh ?hclos ?hcell ?hkind ?hnames ?hx ?hs F2 ?_; (case hh => with_unfolding_all rfl); (case hclos => with_unfolding_all rfl); (case hcell => decide); (case hkind => with_unfolding_all rfl); (case hnames => decide); (case hx => with_unfolding_all rfl); (case hs => intro _; with_unfolding_all rfl))
 k_steps
 have hfL : ∀ p ∈ fs, H2.get? p.1 = some (W.listOf (intVals p.2.1).toArray p.2.2) ∧ p.1 ≠ _ := fun p hp => ⟨(N2 _ (.tail _ (hfs p hp))).1, (N2 _ (.tail _ (hfs p hp))).2.1⟩
 refine unhold ⟨lst, fdVals fs, rfl, N2.isList (.tail _ hl), by have := ok.few; simp [fdVals, sizeLine_eq]; lia, F2, (N2 _ (.tail _ hl)).2.1, fun C v h₃ tk₃ m₃ hv hC hn' hm' F4 hk4 => ?_, fun D h5 tk5 ys hD hDL hpl F5 hP hk5 => ?_⟩
 ·obtain ⟨q, hq, rfl⟩ : ∃ q ∈ fs, v = .ref q.1 := by
   simp only [fdVals, List.mem_map] at hv
   refine ob1_2 hv fun q hq eq2 => ?_
   clear hv
   subst eq2
   exact ⟨q, hq, rfl⟩
  with_reducible refine' elt_join (escsTab w) H2 q.1 q.2.1 q.2.2 (ok.dig q hq).1 (by have := (ok.dig q hq).2; lia) _ _ _ _ _ _ _ _ _ h₃ tk₃ m₃ _ _ _ _ _ _ _ F4 X1 T1 (hfL q hq).1 (hfL q hq).2 hk4 _ hm' _ _ _ _ _ _ _ fun u' => _
  exact hn'
  any_goals with_unfolding_all rfl
 with_reducible refine ob1_2 (join_out fs _ (fun p hp => (hfL p hp).1) hP) fun us hzs hus => ?_
 obtain ⟨kD2, hDo⟩ := hpl
 have hys : ys = (txs us).toArray := by rw [← hzs, Array.toArray_toList]
 subst hys
 have N5 : News _ _ h5 ((763, op) :: news) := fun p hp => ⟨hk5 _ _ (N2 p hp).2.1 (N2 p hp).1, (N2 p hp).2⟩
 clear F2 N2
 k_steps
 refine unhold ?_
 rw [semi_is2]
 refine joinS hDo (by rw [hus]; have := total_fds (escsTab w).short ok; lia) (fun t6 k6 => ?_)
 rw [hus]
 k_steps
 refine unhold ?_
 with_reducible rename Fr _ _ _ (fun y => _) => F7
 with_reducible rename News _ _ _ _ => N7
 with_reducible rename Heap => H7
 k_dflt (refine' listCompH (JoinRel H7 signTab) ?hh ?hclos ?hcell ?hkind ?hnames ?hx ?hs F7 ?_; (case hh => with_unfolding_all rfl); (case hclos => with_unfolding_all rfl); (case hcell => decide); (case hkind => with_unfolding_all rfl); (case hnames => decide); (case hx => with_unfolding_all rfl); (case hs => intro _; with_unfolding_all rfl))
 k_steps
 have hfL7 : ∀ p ∈ fs, H7.get? p.1 = some (W.listOf (intVals p.2.1).toArray p.2.2) ∧ p.1 ≠ _ := fun p hp => ⟨(N7 _ (.tail _ (hfs p hp))).1, (N7 _ (.tail _ (hfs p hp))).2.1⟩
 refine unhold ⟨lst, fdVals fs, rfl, N7.isList (.tail _ hl), by have := ok.few; simp [fdVals, sizeLine_eq]; lia, F7, (N7 _ (.tail _ hl)).2.1, fun C v h₃ tk₃ m₃ hv hC hn' hm' F4 hk4 => ?_, fun D8 h8 tk8 ys8 hD8 hDL8 hpl8 F8 hP8 hk8 => ?_⟩
 ·obtain ⟨q, hq, rfl⟩ : ∃ q ∈ fs, v = .ref q.1 := by
   simp only [fdVals, List.mem_map] at hv
   refine ob1_2 hv fun q hq eq2 => ?_
   clear hv
   subst eq2
   exact ⟨q, hq, rfl⟩
  with_reducible refine' elt_join (signsTab w) H7 q.1 q.2.1 q.2.2 (ok.dig q hq).1 (by have := (ok.dig q hq).2; lia) _ _ _ _ _ _ _ _ _ h₃ tk₃ m₃ _ _ _ _ _ _ _ F4 X1 T1 (hfL7 q hq).1 (hfL7 q hq).2 hk4 _ hm' _ _ _ _ _ _ _ fun u' => _
  exact hn'
  any_goals with_unfolding_all rfl
 with_reducible refine ob1_2 (join_out fs _ (fun p hp => (hfL7 p hp).1) hP8) fun us8 hzs8 hus8 => ?_
 obtain ⟨kD8, hDo8⟩ := hpl8
 have hys8 : ys8 = (txs us8).toArray := by rw [← hzs8, Array.toArray_toList]
 subst hys8
 have N8 : News _ _ h8 ((D8, W.listOf (txs us8).toArray kD8) :: (763, op) :: news) := newsCons F7 N7 hD8 hDL8 hDo8 hk8
 k_steps
 refine unhold ?_
 with_reducible rename Fr _ _ _ (fun y => _) => F9
 with_reducible rename News _ _ _ _ => N9
 have hul : us8.length = fs.length := by have := congrArg List.length hus8; simpa [fds] using this
 refine tupList F9 N9 (.head _) (by rw [List.size_toArray, txs_len, List.length_map, hul]; have := ok.few; lia) (fun D10 h10 F10 N10 ne10 => ?_)
 clear F9 N9
 k_steps
 refine unhold ?_
 have hxt : Texts (us8.map (·.1)) := by
  rw [hus8]
  intro l hl
  refine ob1_2 (List.mem_map.mp hl) fun f hf eq2 => ?_
  subst eq2
  exact text_ok f (fds_ok ok f hf).1 (fds_ok ok f hf).2
 have N11 : News _ _ h10 ((763, op) :: (D10, ⟨.type "tuple", none, .seq (txs us8).toArray 0, #[]⟩) :: (D8, W.listOf (txs us8).toArray kD8) :: news) := fun p hp => N10 p (by
  exact sub hp)
 have nD8 : D8 ≠ 763 := fun e => by
  have := (N7 (763, op) (.head _)).1
  rw [← e] at this
  exact absurd (hD8.symm.trans this) (by simp)
 refine n_specT D10 us8 0 op _ _ _ _ _ _ _ _ _ _ _ _ _ _ _ _ _ B1 F10 X1 N11 (.head _) (fun p hp => ?_) hop T1 rfl hxt (by lia) ?_ ?_ (fun s' o dx D dn px t1 t2 op' F12 N12 ho' hb hos hdr => ?_)
 ·revert p; refine mcons ?_ (mcons ?_ (fun p hp => ?_))
  ·exact fun e => ne10 (763, op) (.tail _ (.head _)) e.symm
  ·exact nD8
  ·exact hnP p hp
 ·show dp + 1 + 31 < 500; first | exact rm2 (by assumption) rfl | lia
 ·show un + 3 + 131 < 200; first | exact rm2 (by assumption) rfl | lia
 clear F10 N10 N11
 k_steps
 with_reducible rename Fr h₀ L _ _ => F13
 with_reducible rename News h₀ L _ _ => N13
 exact hret s' op' F13 (fun p hp => N13 p (by
  exact sub hp)) ho' hb hos hdr
theorem refusedA_F {w : World} {mean : ExcName → Option Value} {mg mb : Str → Option Value} {news : List (Addr × Obj)} (lst : Addr) (fs : List Fld) (k : Nat) (op : Obj)
  (dp un : Nat) (gd : Option (List Code)) (cn : Str) (cs : Scope) (a : Addr) (ccd : Value) (cl : List (Str × Addr)) (outer : List Env) (A₀ : Around) (base h₀ : Heap) (L : Addr) (m : Str → Option Value) (s : Shared) (Q E : Value → Shared → Prop)
  (B : Below A₀ base outer h₀) (F : Fr h₀ L s.heap m) (X : (K w.params).In h₀) (N : News h₀ L s.heap ((531, op) :: news)) (hnP : ∀ p ∈ news, p.1 ≠ 531) (hop : TabOk op) (T : Top q0 (looseW q0 loose0) mean mg mb h₀) (hk : cs.kind = .function)
  (hl : (lst, W.listOf (fdVals fs).toArray k) ∈ news) (hfs : FdsIn news fs) (ok : FdOk fs) (h5 : fs.length = 7)
  (hd : dp + 40 < 500) (hu : un + 140 < 200)
  (hret : ∀ (s' : Shared) (op' : Obj), Fr h₀ L s'.heap m → News h₀ L s'.heap ((531, op') :: news) → TabOk op' → (AllBare s.gens → AllBare s'.gens) → s'.os = s.os → s'.drawn = s.drawn → Q (.bool false) s') :
  wpAny (model pw w) (ktrTop dp un gd cn cs L a ccd cl outer) (call (.ref 887) [.ref 569, .ref lst]) Q E s := by
 have hd' : dp + 3 < recursionLimit := by first | exact rc1 (by assumption) rfl | (rw [show recursionLimit = 1000 from rfl]; lia)
 refine wpAny_call ?_
 k_dflt cell_enter
 with_reducible rename Fr _ _ _ (fun y => _) => F1
 with_reducible rename Below _ _ _ _ => B1
 with_reducible rename Top _ _ _ _ _ _ => T1
 with_reducible rename Frag.In _ _ => X1
 replace F1 := frBinds F1 (fun y => if y = "fields" then some (.ref lst) else if y = "made" then some (.ref 569) else none) (by kernel_rfl)
 k_steps
 refine unhold ?_
 with_reducible rename Fr _ _ _ (fun y => _) => F2
 with_reducible rename News _ _ _ _ => N2
 with_reducible rename Heap => H2
 k_dflt (refine' listCompH (JoinRel H2 escTab) ?hh ?hclos ?hcell ?hkind ?hnames ?hx ?hs F2 ?_; (case hh => with_unfolding_all rfl); (case hclos => with_unfolding_all rfl); (case hcell => decide); (case hkind => with_unfolding_all rfl); (case hnames => decide); (case hx => with_unfolding_all rfl); (case hs => intro _; with_unfolding_all rfl))
 k_steps
 have hfL : ∀ p ∈ fs, H2.get? p.1 = some (W.listOf (intVals p.2.1).toArray p.2.2) ∧ p.1 ≠ _ := fun p hp => ⟨(N2 _ (.tail _ (hfs p hp))).1, (N2 _ (.tail _ (hfs p hp))).2.1⟩
 refine unhold ⟨lst, fdVals fs, rfl, N2.isList (.tail _ hl), by have := ok.few; simp [fdVals, sizeLine_eq]; lia, F2, (N2 _ (.tail _ hl)).2.1, fun C v h₃ tk₃ m₃ hv hC hn' hm' F4 hk4 => ?_, fun D h5 tk5 ys hD hDL hpl F5 hP hk5 => ?_⟩
 ·obtain ⟨q, hq, rfl⟩ : ∃ q ∈ fs, v = .ref q.1 := by
   simp only [fdVals, List.mem_map] at hv
   refine ob1_2 hv fun q hq eq2 => ?_
   clear hv
   subst eq2
   exact ⟨q, hq, rfl⟩
  with_reducible refine' elt_join (escsTab w) H2 q.1 q.2.1 q.2.2 (ok.dig q hq).1 (by have := (ok.dig q hq).2; lia) _ _ _ _ _ _ _ _ _ h₃ tk₃ m₃ _ _ _ _ _ _ _ F4 X1 T1 (hfL q hq).1 (hfL q hq).2 hk4 _ hm' _ _ _ _ _ _ _ fun u' => _
  exact hn'
  any_goals with_unfolding_all rfl
 with_reducible refine ob1_2 (join_out fs _ (fun p hp => (hfL p hp).1) hP) fun us hzs hus => ?_
 obtain ⟨kD2, hDo⟩ := hpl
 have hys : ys = (txs us).toArray := by rw [← hzs, Array.toArray_toList]
 subst hys
 have N5 : News _ _ h5 ((531, op) :: news) := fun p hp => ⟨hk5 _ _ (N2 p hp).2.1 (N2 p hp).1, (N2 p hp).2⟩
 clear F2 N2
 k_steps
 refine unhold ?_
 rw [semi_is2]
 refine joinS hDo (by rw [hus]; have := total_fds (escsTab w).short ok; lia) (fun t6 k6 => ?_)
 rw [hus]
 k_steps
 refine unhold ?_
 with_reducible rename Fr _ _ _ (fun y => _) => F7
 with_reducible rename News _ _ _ _ => N7
 with_reducible rename Heap => H7
 k_dflt (refine' listCompH (JoinRel H7 signTab) ?hh ?hclos ?hcell ?hkind ?hnames ?hx ?hs F7 ?_; (case hh => with_unfolding_all rfl); (case hclos => with_unfolding_all rfl); (case hcell => decide); (case hkind => with_unfolding_all rfl); (case hnames => decide); (case hx => with_unfolding_all rfl); (case hs => intro _; with_unfolding_all rfl))
 k_steps
 have hfL7 : ∀ p ∈ fs, H7.get? p.1 = some (W.listOf (intVals p.2.1).toArray p.2.2) ∧ p.1 ≠ _ := fun p hp => ⟨(N7 _ (.tail _ (hfs p hp))).1, (N7 _ (.tail _ (hfs p hp))).2.1⟩
 refine unhold ⟨lst, fdVals fs, rfl, N7.isList (.tail _ hl), by have := ok.few; simp [fdVals, sizeLine_eq]; lia, F7, (N7 _ (.tail _ hl)).2.1, fun C v h₃ tk₃ m₃ hv hC hn' hm' F4 hk4 => ?_, fun D8 h8 tk8 ys8 hD8 hDL8 hpl8 F8 hP8 hk8 => ?_⟩
 ·obtain ⟨q, hq, rfl⟩ : ∃ q ∈ fs, v = .ref q.1 := by
   simp only [fdVals, List.mem_map] at hv
   refine ob1_2 hv fun q hq eq2 => ?_
   clear hv
   subst eq2
   exact ⟨q, hq, rfl⟩
  with_reducible refine' elt_join (signsTab w) H7 q.1 q.2.1 q.2.2 (ok.dig q hq).1 (by have := (ok.dig q hq).2; lia) _ _ _ _ _ _ _ _ _ h₃ tk₃ m₃ _ _ _ _ _ _ _ F4 X1 T1 (hfL7 q hq).1 (hfL7 q hq).2 hk4 _ hm' _ _ _ _ _ _ _ fun u' => _
  exact hn'
  any_goals with_unfolding_all rfl
 with_reducible refine ob1_2 (join_out fs _ (fun p hp => (hfL7 p hp).1) hP8) fun us8 hzs8 hus8 => ?_
 obtain ⟨kD8, hDo8⟩ := hpl8
 have hys8 : ys8 = (txs us8).toArray := by rw [← hzs8, Array.toArray_toList]
 subst hys8
 have N8 : News _ _ h8 ((D8, W.listOf (txs us8).toArray kD8) :: (531, op) :: news) := newsCons F7 N7 hD8 hDL8 hDo8 hk8
 k_steps
 refine unhold ?_
 with_reducible rename Fr _ _ _ (fun y => _) => F9
 with_reducible rename News _ _ _ _ => N9
 have hul : us8.length = fs.length := by have := congrArg List.length hus8; simpa [fds] using this
 refine tupList F9 N9 (.head _) (by rw [List.size_toArray, txs_len, List.length_map, hul]; have := ok.few; lia) (fun D10 h10 F10 N10 ne10 => ?_)
 clear F9 N9
 k_steps
 refine unhold ?_
 have hxt : Texts (us8.map (·.1)) := by
  rw [hus8]
  intro l hl
  refine ob1_2 (List.mem_map.mp hl) fun f hf eq2 => ?_
  subst eq2
  exact text_ok f (fds_ok ok f hf).1 (fds_ok ok f hf).2
 have N11 : News _ _ h10 ((531, op) :: (D10, ⟨.type "tuple", none, .seq (txs us8).toArray 0, #[]⟩) :: (D8, W.listOf (txs us8).toArray kD8) :: news) := fun p hp => N10 p (by
  exact sub hp)
 have nD8 : D8 ≠ 531 := fun e => by
  have := (N7 (531, op) (.head _)).1
  rw [← e] at this
  exact absurd (hD8.symm.trans this) (by simp)
 refine adr_specT D10 us8 0 op _ _ _ _ _ _ _ _ _ _ _ _ _ _ _ _ _ B1 F10 X1 N11 (.head _) (fun p hp => ?_) hop T1 rfl hxt (by lia) ?_ ?_ (fun s' o dx D dn px t1 t2 op' F12 N12 ho' hb hos hdr => ?_)
 ·revert p; refine mcons ?_ (mcons ?_ (fun p hp => ?_))
  ·exact fun e => ne10 (531, op) (.tail _ (.head _)) e.symm
  ·exact nD8
  ·exact hnP p hp
 ·show dp + 1 + 31 < 500; first | exact rm2 (by assumption) rfl | lia
 ·show un + 3 + 131 < 200; first | exact rm2 (by assumption) rfl | lia
 clear F10 N10 N11
 k_steps
 with_reducible rename Fr h₀ L _ _ => F13
 with_reducible rename News h₀ L _ _ => N13
 exact hret s' op' F13 (fun p hp => N13 p (by
  exact sub hp)) ho' hb hos hdr
theorem refusedN_T {w : World} {mean : ExcName → Option Value} {mg mb : Str → Option Value} {news : List (Addr × Obj)} (lst : Addr) (fs : List Fld) (k : Nat)
  (dp un : Nat) (gd : Option (List Code)) (cn : Str) (cs : Scope) (a : Addr) (ccd : Value) (cl : List (Str × Addr)) (A₀ : Around) (h₀ : Heap) (L : Addr) (m : Str → Option Value) (s : Shared) (Q E : Value → Shared → Prop)
  (B : Below A₀ h₀ [] h₀) (F : Fr h₀ L s.heap m) (X : (K w.params).In h₀) (N : News h₀ L s.heap news) (T : Top q0 (looseW q0 loose0) mean mg mb h₀) (hk : cs.kind = .function)
  (hl : (lst, W.listOf (fdVals fs).toArray k) ∈ news) (hfs : FdsIn news fs) (ok : FdOk fs) (h5 : fs.length ≠ 5)
  (hd : dp + 40 < 500) (hu : un + 140 < 200)
  (hret : ∀ (h' : Heap) (tk' : Nat), Fr h₀ L h' m → News h₀ L h' news → Q (.bool true) { s with heap := h', toks := tk' }) :
  wpAny (model pw w) (ktrTop dp un gd cn cs L a ccd cl []) (call (.ref 887) [.ref 801, .ref lst]) Q E s := by
 have hd' : dp + 3 < recursionLimit := by first | exact rc1 (by assumption) rfl | (rw [show recursionLimit = 1000 from rfl]; lia)
 refine wpAny_call ?_
 k_dflt (refine' code_defT ?k1 ?k2 ?k3 ?k4 ?k5 ?kA ?kF ?kK ?k6 ?k7 ?k8 ?k9 ?kB ?_ ?c2 ?c3 ?c4 ?c5; (case kA => exact rfl); (case kF => exact rfl); (case kK => first | exact rfl | assumption); (case k1 => k_asm); (case k2 => k_asm); (case k3 => k_asm); (case k4 => k_asm); (case k5 => k_asm); (case k6 => k_is); (case k7 => k_is); (case k8 => ktr_room); (case k9 => first | exact BindsTo.of_eq rfl | exact binds_K (by k_in) rfl (by k_is) rfl rfl rfl); (case c5 => decide); (case kB => exact locs rfl); (case c2 => exact rfl); (case c3 => exact rfl); (case c4 => exact rfl); k_whole; intro g' L' h' FG' F' N' B' X' T'; (try dsimp only); (try k_fold))
 with_reducible rename Fr _ _ _ (fun y => _) => F1
 with_reducible rename Below _ _ _ _ => B1
 with_reducible rename Top _ _ _ _ _ _ => T1
 with_reducible rename Frag.In _ _ => X1
 replace F1 := frBinds F1 (fun y => if y = "fields" then some (.ref lst) else if y = "made" then some (.ref 801) else none) (by kernel_rfl)
 k_steps
 refine unhold ?_
 with_reducible rename Fr _ _ _ (fun y => _) => F2
 with_reducible rename News _ _ _ _ => N2
 with_reducible rename Heap => H2
 k_dflt (refine' listCompH (JoinRel H2 escTab) ?hh ?hclos ?hcell ?hkind ?hnames ?hx ?hs F2 ?_; (case hh => with_unfolding_all rfl); (case hclos => with_unfolding_all rfl); (case hcell => decide); (case hkind => with_unfolding_all rfl); (case hnames => decide); (case hx => with_unfolding_all rfl); (case hs => intro _; with_unfolding_all rfl))
 k_steps
 have hfL : ∀ p ∈ fs, H2.get? p.1 = some (W.listOf (intVals p.2.1).toArray p.2.2) ∧ p.1 ≠ _ := fun p hp => ⟨(N2 _ (hfs p hp)).1, (N2 _ (hfs p hp)).2.1⟩
 refine unhold ⟨lst, fdVals fs, rfl, N2.isList hl, by have := ok.few; simp [fdVals, sizeLine_eq]; lia, F2, (N2 _ hl).2.1, fun C v h₃ tk₃ m₃ hv hC hn' hm' F4 hk4 => ?_, fun D h5 tk5 ys hD hDL hpl F5 hP hk5 => ?_⟩
 ·obtain ⟨q, hq, rfl⟩ : ∃ q ∈ fs, v = .ref q.1 := by
   simp only [fdVals, List.mem_map] at hv
   refine ob1_2 hv fun q hq eq2 => ?_
   clear hv
   subst eq2
   exact ⟨q, hq, rfl⟩
  with_reducible refine' elt_join (escsTab w) H2 q.1 q.2.1 q.2.2 (ok.dig q hq).1 (by have := (ok.dig q hq).2; lia) _ _ _ _ _ _ _ _ _ h₃ tk₃ m₃ _ _ _ _ _ _ _ F4 X1 T1 (hfL q hq).1 (hfL q hq).2 hk4 _ hm' _ _ _ _ _ _ _ fun u' => _
  exact hn'
  any_goals with_unfolding_all rfl
 with_reducible refine ob1_2 (join_out fs _ (fun p hp => (hfL p hp).1) hP) fun us hzs hus => ?_
 obtain ⟨kD2, hDo⟩ := hpl
 have hys : ys = (txs us).toArray := by rw [← hzs, Array.toArray_toList]
 subst hys
 have N5 : News _ _ h5 news := fun p hp => ⟨hk5 _ _ (N2 p hp).2.1 (N2 p hp).1, (N2 p hp).2⟩
 clear F2 N2
 k_steps
 refine unhold ?_
 rw [semi_is2]
 refine joinS hDo (by rw [hus]; have := total_fds (escsTab w).short ok; lia) (fun t6 k6 => ?_)
 rw [hus]
 k_steps
 refine unhold ?_
 with_reducible rename Fr _ _ _ (fun y => _) => F7
 with_reducible rename News _ _ _ _ => N7
 with_reducible rename Heap => H7
 k_dflt (refine' listCompH (JoinRel H7 signTab) ?hh ?hclos ?hcell ?hkind ?hnames ?hx ?hs F7 ?_; (case hh => with_unfolding_all rfl); (case hclos => with_unfolding_all rfl); (case hcell => decide); (case hkind => with_unfolding_all rfl); (case hnames => decide); (case hx => with_unfolding_all rfl); (case hs => intro _; with_unfolding_all rfl))
 k_steps
 have hfL7 : ∀ p ∈ fs, H7.get? p.1 = some (W.listOf (intVals p.2.1).toArray p.2.2) ∧ p.1 ≠ _ := fun p hp => ⟨(N7 _ (hfs p hp)).1, (N7 _ (hfs p hp)).2.1⟩
 refine unhold ⟨lst, fdVals fs, rfl, N7.isList hl, by have := ok.few; simp [fdVals, sizeLine_eq]; lia, F7, (N7 _ hl).2.1, fun C v h₃ tk₃ m₃ hv hC hn' hm' F4 hk4 => ?_, fun D8 h8 tk8 ys8 hD8 hDL8 hpl8 F8 hP8 hk8 => ?_⟩
 ·obtain ⟨q, hq, rfl⟩ : ∃ q ∈ fs, v = .ref q.1 := by
   simp only [fdVals, List.mem_map] at hv
   refine ob1_2 hv fun q hq eq2 => ?_
   clear hv
   subst eq2
   exact ⟨q, hq, rfl⟩
  with_reducible refine' elt_join (signsTab w) H7 q.1 q.2.1 q.2.2 (ok.dig q hq).1 (by have := (ok.dig q hq).2; lia) _ _ _ _ _ _ _ _ _ h₃ tk₃ m₃ _ _ _ _ _ _ _ F4 X1 T1 (hfL7 q hq).1 (hfL7 q hq).2 hk4 _ hm' _ _ _ _ _ _ _ fun u' => _
  exact hn'
  any_goals with_unfolding_all rfl
 with_reducible refine ob1_2 (join_out fs _ (fun p hp => (hfL7 p hp).1) hP8) fun us8 hzs8 hus8 => ?_
 obtain ⟨kD8, hDo8⟩ := hpl8
 have hys8 : ys8 = (txs us8).toArray := by rw [← hzs8, Array.toArray_toList]
 subst hys8
 have N8 : News _ _ h8 ((D8, W.listOf (txs us8).toArray kD8) :: news) := newsCons F7 N7 hD8 hDL8 hDo8 hk8
 clear F7 N7
 k_steps
 refine unhold ?_
 with_reducible rename Fr _ _ _ (fun y => _) => F9
 with_reducible rename News _ _ _ _ => N9
 have hul : us8.length = fs.length := by have := congrArg List.length hus8; simpa [fds] using this
 refine tupList F9 N9 (.head _) (by rw [List.size_toArray, txs_len, List.length_map, hul]; have := ok.few; lia) (fun D10 h10 F10 N10 ne10 => ?_)
 clear F9 N9
 k_steps
 refine unhold ?_
 refine n_specE D10 us8 0 _ _ _ _ _ _ _ _ _ _ _ _ _ _ _ _ _ B1 F10 X1 N10 (.head _) T1 rfl (by lia) (by have := ok.few; lia) ?_ ?_ (fun e1 gE h11 tk11 FGE RC UE => ?_)
 ·show dp + 1 + 31 < 500; first | exact rm2 (by assumption) rfl | lia
 ·show un + 3 + 131 < 200; first | exact rm2 (by assumption) rfl | lia
 clear F10 N10
 refine caughtC (KF := K w.params) rfl RC FGE B1 UE X T (by k_is) (fun h12 g12 oe1 ve1 T12 F12 N12 hd12 hv12 K12 => ?_)
 have X12 : (K w.params).In g12 := X.keeps K12.stays
 have P12 : Top q0 (looseW q0 loose0) mean mg mb g12 := T.keeps K12.stays
 clear FGE RC UE
 k_steps
 refine unhold ?_
 have hl12 : (glue [59] ((fds fs).map (textOf escTab))).length ≤ 200 := Nat.le_trans (glue_len 59 _) (total_fds (escsTab w).short ok)
 have hn12 : (fieldsOf 59 (glue [59] ((fds fs).map (textOf escTab)))).length = fs.length := by rw [read_told ok (.inr rfl)]; simp [fds]
 refine n_fromE e1 oe1 ve1 hd12 hv12 _ t6 _ _ _ _ _ _ _ _ _ _ _ _ _ _ _ _ _ K12 F12 X12 N12 (.head _) P12 rfl (by lia) (by lia) (by have := ok.few; lia) ?_ ?_ (fun e2 gE2 h13 tk13 FGE2 RC2 UE2 => ?_)
 ·show dp + 1 + 12 < 500; first | exact rm2 (by assumption) rfl | lia
 ·show un + 3 + 40 < 200; first | exact rm2 (by assumption) rfl | lia
 clear F12 N12
 refine caughtC (KF := K w.params) rfl RC2 FGE2 K12 UE2 X T (by k_is) (fun h14 g14 oe2 ve2 T14 F14 N14 hd14 hv14 K14 => ?_)
 clear FGE2 RC2 UE2
 k_steps
 show LeaveS0 _ _ _ _ _ _ _ _
 exact leaveS0_ F14 (news' := news) (fun p hp => N14 p (.tail _ (.tail _ (.tail _ (.tail _ hp))))) (T12.trans T14) (fun F0 N0 => hret _ _ F0 N0)
theorem refusedA_T {w : World} {mean : ExcName → Option Value} {mg mb : Str → Option Value} {news : List (Addr × Obj)} (lst : Addr) (fs : List Fld) (k : Nat)
  (dp un : Nat) (gd : Option (List Code)) (cn : Str) (cs : Scope) (a : Addr) (ccd : Value) (cl : List (Str × Addr)) (A₀ : Around) (h₀ : Heap) (L : Addr) (m : Str → Option Value) (s : Shared) (Q E : Value → Shared → Prop)
  (B : Below A₀ h₀ [] h₀) (F : Fr h₀ L s.heap m) (X : (K w.params).In h₀) (N : News h₀ L s.heap news) (T : Top q0 (looseW q0 loose0) mean mg mb h₀) (hk : cs.kind = .function)
  (hl : (lst, W.listOf (fdVals fs).toArray k) ∈ news) (hfs : FdsIn news fs) (ok : FdOk fs) (h5 : fs.length ≠ 7)
  (hd : dp + 40 < 500) (hu : un + 140 < 200)
  (hret : ∀ (h' : Heap) (tk' : Nat), Fr h₀ L h' m → News h₀ L h' news → Q (.bool true) { s with heap := h', toks := tk' }) :
  wpAny (model pw w) (ktrTop dp un gd cn cs L a ccd cl []) (call (.ref 887) [.ref 569, .ref lst]) Q E s := by
 have hd' : dp + 3 < recursionLimit := by first | exact rc1 (by assumption) rfl | (rw [show recursionLimit = 1000 from rfl]; lia)
 refine wpAny_call ?_
 k_dflt (refine' code_defT ?k1 ?k2 ?k3 ?k4 ?k5 ?kA ?kF ?kK ?k6 ?k7 ?k8 ?k9 ?kB ?_ ?c2 ?c3 ?c4 ?c5; (case kA => exact rfl); (case kF => exact rfl); (case kK => first | exact rfl | assumption); (case k1 => k_asm); (case k2 => k_asm); (case k3 => k_asm); (case k4 => k_asm); (case k5 => k_asm); (case k6 => k_is); (case k7 => k_is); (case k8 => ktr_room); (case k9 => first | exact BindsTo.of_eq rfl | exact binds_K (by k_in) rfl (by k_is) rfl rfl rfl); (case c5 => decide); (case kB => exact locs rfl); (case c2 => exact rfl); (case c3 => exact rfl); (case c4 => exact rfl); k_whole; intro g' L' h' FG' F' N' B' X' T'; (try dsimp only); (try k_fold))
 with_reducible rename Fr _ _ _ (fun y => _) => F1
 with_reducible rename Below _ _ _ _ => B1
 with_reducible rename Top _ _ _ _ _ _ => T1
 with_reducible rename Frag.In _ _ => X1
 replace F1 := frBinds F1 (fun y => if y = "fields" then some (.ref lst) else if y = "made" then some (.ref 569) else none) (by kernel_rfl)
 k_steps
 refine unhold ?_
 with_reducible rename Fr _ _ _ (fun y => _) => F2
 with_reducible rename News _ _ _ _ => N2
 with_reducible rename Heap => H2
 k_dflt (refine' listCompH (JoinRel H2 escTab) ?hh ?hclos ?hcell ?hkind ?hnames ?hx ?hs F2 ?_; (case hh => with_unfolding_all rfl); (case hclos => with_unfolding_all rfl); (case hcell => decide); (case hkind => with_unfolding_all rfl); (case hnames => decide); (case hx => with_unfolding_all rfl); (case hs => intro _; with_unfolding_all rfl))
 k_steps
 have hfL : ∀ p ∈ fs, H2.get? p.1 = some (W.listOf (intVals p.2.1).toArray p.2.2) ∧ p.1 ≠ _ := fun p hp => ⟨(N2 _ (hfs p hp)).1, (N2 _ (hfs p hp)).2.1⟩
 refine unhold ⟨lst, fdVals fs, rfl, N2.isList hl, by have := ok.few; simp [fdVals, sizeLine_eq]; lia, F2, (N2 _ hl).2.1, fun C v h₃ tk₃ m₃ hv hC hn' hm' F4 hk4 => ?_, fun D h5 tk5 ys hD hDL hpl F5 hP hk5 => ?_⟩
 ·obtain ⟨q, hq, rfl⟩ : ∃ q ∈ fs, v = .ref q.1 := by
   simp only [fdVals, List.mem_map] at hv
   refine ob1_2 hv fun q hq eq2 => ?_
   clear hv
   subst eq2
   exact ⟨q, hq, rfl⟩
  with_reducible refine' elt_join (escsTab w) H2 q.1 q.2.1 q.2.2 (ok.dig q hq).1 (by have := (ok.dig q hq).2; lia) _ _ _ _ _ _ _ _ _ h₃ tk₃ m₃ _ _ _ _ _ _ _ F4 X1 T1 (hfL q hq).1 (hfL q hq).2 hk4 _ hm' _ _ _ _ _ _ _ fun u' => _
  exact hn'
  any_goals with_unfolding_all rfl
 with_reducible refine ob1_2 (join_out fs _ (fun p hp => (hfL p hp).1) hP) fun us hzs hus => ?_
 obtain ⟨kD2, hDo⟩ := hpl
 have hys : ys = (txs us).toArray := by rw [← hzs, Array.toArray_toList]
 subst hys
 have N5 : News _ _ h5 news := fun p hp => ⟨hk5 _ _ (N2 p hp).2.1 (N2 p hp).1, (N2 p hp).2⟩
 clear F2 N2
 k_steps
 refine unhold ?_
 rw [semi_is2]
 refine joinS hDo (by rw [hus]; have := total_fds (escsTab w).short ok; lia) (fun t6 k6 => ?_)
 rw [hus]
 k_steps
 refine unhold ?_
 with_reducible rename Fr _ _ _ (fun y => _) => F7
 with_reducible rename News _ _ _ _ => N7
 with_reducible rename Heap => H7
 k_dflt (refine' listCompH (JoinRel H7 signTab) ?hh ?hclos ?hcell ?hkind ?hnames ?hx ?hs F7 ?_; (case hh => with_unfolding_all rfl); (case hclos => with_unfolding_all rfl); (case hcell => decide); (case hkind => with_unfolding_all rfl); (case hnames => decide); (case hx => with_unfolding_all rfl); (case hs => intro _; with_unfolding_all rfl))
 k_steps
 have hfL7 : ∀ p ∈ fs, H7.get? p.1 = some (W.listOf (intVals p.2.1).toArray p.2.2) ∧ p.1 ≠ _ := fun p hp => ⟨(N7 _ (hfs p hp)).1, (N7 _ (hfs p hp)).2.1⟩
 refine unhold ⟨lst, fdVals fs, rfl, N7.isList hl, by have := ok.few; simp [fdVals, sizeLine_eq]; lia, F7, (N7 _ hl).2.1, fun C v h₃ tk₃ m₃ hv hC hn' hm' F4 hk4 => ?_, fun D8 h8 tk8 ys8 hD8 hDL8 hpl8 F8 hP8 hk8 => ?_⟩
 ·obtain ⟨q, hq, rfl⟩ : ∃ q ∈ fs, v = .ref q.1 := by
   simp only [fdVals, List.mem_map] at hv
   refine ob1_2 hv fun q hq eq2 => ?_
   clear hv
   subst eq2
   exact ⟨q, hq, rfl⟩
  with_reducible refine' elt_join (signsTab w) H7 q.1 q.2.1 q.2.2 (ok.dig q hq).1 (by have := (ok.dig q hq).2; lia) _ _ _ _ _ _ _ _ _ h₃ tk₃ m₃ _ _ _ _ _ _ _ F4 X1 T1 (hfL7 q hq).1 (hfL7 q hq).2 hk4 _ hm' _ _ _ _ _ _ _ fun u' => _
  exact hn'
  any_goals with_unfolding_all rfl
 with_reducible refine ob1_2 (join_out fs _ (fun p hp => (hfL7 p hp).1) hP8) fun us8 hzs8 hus8 => ?_
 obtain ⟨kD8, hDo8⟩ := hpl8
 have hys8 : ys8 = (txs us8).toArray := by rw [← hzs8, Array.toArray_toList]
 subst hys8
 have N8 : News _ _ h8 ((D8, W.listOf (txs us8).toArray kD8) :: news) := newsCons F7 N7 hD8 hDL8 hDo8 hk8
 clear F7 N7
 k_steps
 refine unhold ?_
 with_reducible rename Fr _ _ _ (fun y => _) => F9
 with_reducible rename News _ _ _ _ => N9
 have hul : us8.length = fs.length := by have := congrArg List.length hus8; simpa [fds] using this
 refine tupList F9 N9 (.head _) (by rw [List.size_toArray, txs_len, List.length_map, hul]; have := ok.few; lia) (fun D10 h10 F10 N10 ne10 => ?_)
 clear F9 N9
 k_steps
 refine unhold ?_
 refine adr_specE D10 us8 0 _ _ _ _ _ _ _ _ _ _ _ _ _ _ _ _ _ B1 F10 X1 N10 (.head _) T1 rfl (by lia) (by have := ok.few; lia) ?_ ?_ (fun e1 gE h11 tk11 FGE RC UE => ?_)
 ·show dp + 1 + 31 < 500; first | exact rm2 (by assumption) rfl | lia
 ·show un + 3 + 131 < 200; first | exact rm2 (by assumption) rfl | lia
 clear F10 N10
 refine caughtC (KF := K w.params) rfl RC FGE B1 UE X T (by k_is) (fun h12 g12 oe1 ve1 T12 F12 N12 hd12 hv12 K12 => ?_)
 have X12 : (K w.params).In g12 := X.keeps K12.stays
 have P12 : Top q0 (looseW q0 loose0) mean mg mb g12 := T.keeps K12.stays
 clear FGE RC UE
 k_steps
 refine unhold ?_
 have hl12 : (glue [59] ((fds fs).map (textOf escTab))).length ≤ 200 := Nat.le_trans (glue_len 59 _) (total_fds (escsTab w).short ok)
 have hn12 : (fieldsOf 59 (glue [59] ((fds fs).map (textOf escTab)))).length = fs.length := by rw [read_told ok (.inr rfl)]; simp [fds]
 refine adr_fromE e1 oe1 ve1 hd12 hv12 _ t6 _ _ _ _ _ _ _ _ _ _ _ _ _ _ _ _ _ K12 F12 X12 N12 (.head _) P12 rfl (by lia) (by lia) (by have := ok.few; lia) ?_ ?_ (fun e2 gE2 h13 tk13 FGE2 RC2 UE2 => ?_)
 ·show dp + 1 + 12 < 500; first | exact rm2 (by assumption) rfl | lia
 ·show un + 3 + 40 < 200; first | exact rm2 (by assumption) rfl | lia
 clear F12 N12
 refine caughtC (KF := K w.params) rfl RC2 FGE2 K12 UE2 X T (by k_is) (fun h14 g14 oe2 ve2 T14 F14 N14 hd14 hv14 K14 => ?_)
 clear FGE2 RC2 UE2
 k_steps
 show LeaveS0 _ _ _ _ _ _ _ _
 exact leaveS0_ F14 (news' := news) (fun p hp => N14 p (.tail _ (.tail _ (.tail _ (.tail _ hp))))) (T12.trans T14) (fun F0 N0 => hret _ _ F0 N0)
end
end
inductive OrgAt (w : World) (news : List (Addr × Obj)) (o : Addr) (ls : List (List Nat)) : Prop
 | mk (dx D px : Addr) (t1 t2 k : Nat) (ts : List (List Nat × Tok)) (c0 : ts.map (·.1) = ls) (c1 : (o, instObj 869 dx) ∈ news) (c2 : (dx, fldDict w t1 t2 D px) ∈ news) (c3 : (D, (⟨.type "tuple", none, .seq (txs ts).toArray k, #[]⟩ : Obj)) ∈ news)
theorem OrgAt.mono {w : World} {n n' : List (Addr × Obj)} {o : Addr} {ls : List (List Nat)} (h : OrgAt w n o ls) (g : n ⊆ n') : OrgAt w n' o ls := by
 obtain ⟨dx, D, px, t1, t2, k, ts, e, h1, h2, h3⟩ := h
 exact ⟨dx, D, px, t1, t2, k, ts, e, g h1, g h2, g h3⟩
theorem Cat.sub {w : World} {n n' : List (Addr × Obj)} {o : Addr} {ls : List (List Nat)} (h : Cat w n o ls) (g : n ⊆ n') : Cat w n' o ls := by
 refine ob9_6 h.out fun dx D px ys k t1 t2 objs ts a1 a2 a3 a4 a5 a6 => ?_
 exact ⟨dx, D, px, ys, k, t1, t2, objs, ts, g a1, g a2, g a3, a4, a5, fun p hp => g (a6 p hp)⟩
theorem lt_clJ {n : Nat} (h : n < 200) : n < cLine := Nat.lt_of_lt_of_le h (by decide)
theorem LSt.at815 {h₀ : Heap} {L : Addr} {m : Str → Option Value} {os : OsState} {news : List (Addr × Obj)} {s : Shared} (S : LSt h₀ L m os news s) : ∃ oA oN oO, News h₀ L s.heap ((815, oO) :: (531, oA) :: (763, oN) :: news) ∧ TabOk oA ∧ TabOk oN ∧ TabOk oO ∧ ∀ p ∈ (531, oA) :: (763, oN) :: news, p.1 ≠ 815 := by
 refine LSt.elim S fun F oA oN oO N hA hN hO hpl hb hos => ?_
 refine ⟨oA, oN, oO, fun p hp => N p ?_, hA, hN, hO, fun p hp => ?_⟩
 ·exact sub hp
 ·rcases List.mem_cons.mp hp with rfl | hp
  ·show (531 : Nat) ≠ 815; decide
  ·rcases List.mem_cons.mp hp with rfl | hp
   ·show (763 : Nat) ≠ 815; decide
   ·exact apart_of N (.tail _ (.tail _ (.head _))) hO (.tail _ (.tail _ (.tail _ hp))) (hpl p hp)
theorem LSt.at763 {h₀ : Heap} {L : Addr} {m : Str → Option Value} {os : OsState} {news : List (Addr × Obj)} {s : Shared} (S : LSt h₀ L m os news s) : ∃ oA oN oO, News h₀ L s.heap ((763, oN) :: (531, oA) :: (815, oO) :: news) ∧ TabOk oA ∧ TabOk oN ∧ TabOk oO ∧ ∀ p ∈ (531, oA) :: (815, oO) :: news, p.1 ≠ 763 := by
 refine LSt.elim S fun F oA oN oO N hA hN hO hpl hb hos => ?_
 refine ⟨oA, oN, oO, fun p hp => N p ?_, hA, hN, hO, fun p hp => ?_⟩
 ·exact sub hp
 ·rcases List.mem_cons.mp hp with rfl | hp
  ·show (531 : Nat) ≠ 763; decide
  ·rcases List.mem_cons.mp hp with rfl | hp
   ·show (815 : Nat) ≠ 763; decide
   ·exact apart_of N (.tail _ (.head _)) hN (.tail _ (.tail _ (.tail _ hp))) (hpl p hp)
theorem LSt.at531 {h₀ : Heap} {L : Addr} {m : Str → Option Value} {os : OsState} {news : List (Addr × Obj)} {s : Shared} (S : LSt h₀ L m os news s) : ∃ oA oN oO, News h₀ L s.heap ((531, oA) :: (763, oN) :: (815, oO) :: news) ∧ TabOk oA ∧ TabOk oN ∧ TabOk oO ∧ ∀ p ∈ (763, oN) :: (815, oO) :: news, p.1 ≠ 531 := by
 refine LSt.elim S fun F oA oN oO N hA hN hO hpl hb hos => ?_
 refine ⟨oA, oN, oO, N, hA, hN, hO, fun p hp => ?_⟩
 rcases List.mem_cons.mp hp with rfl | hp
 ·show (763 : Nat) ≠ 531; decide
 ·rcases List.mem_cons.mp hp with rfl | hp
  ·show (815 : Nat) ≠ 531; decide
  ·exact apart_of N (.head _) hA (.tail _ (.tail _ (.tail _ hp))) (hpl p hp)
theorem el2 {α} {a b d : α} {l : List α} (h : d ∈ l) : d ∈ a :: b :: l := .tail _ (.tail _ h)
section
theorem orgT_L {w : World} {mean : ExcName → Option Value} {mg mb : Str → Option Value} {news : List (Addr × Obj)} {os : OsState} (lst : Addr) (xs : List (List Nat × Tok)) (k : Nat)
  (dp un : Nat) (gd : Option (List Code)) (cn : Str) (cs : Scope) (a : Addr) (ccd : Value) (cl : List (Str × Addr)) (A₀ : Around) (h₀ : Heap) (L : Addr) (m : Str → Option Value) (s : Shared) (Q E : Value → Shared → Prop)
  (B : Below A₀ h₀ [] h₀) (S : LSt h₀ L m os news s) (X : (K w.params).In h₀) (T : Top q0 (looseW q0 loose0) mean mg mb h₀) (hk : cs.kind = .function)
  (hl : (lst, ⟨.type "tuple", none, .seq (txs xs).toArray k, #[]⟩) ∈ news) (hxs : Texts (xs.map (·.1))) (hn : xs.length ≤ 30) (hn0 : 0 < xs.length)
  (hd : dp + 31 < 500) (hu : un + 131 < 200)
  (hret : ∀ o s' n', news ⊆ n' → LSt h₀ L m os n' s' → OrgAt w n' o (xs.map (·.1)) → Q (.ref o) s') :
  wpAny (model pw w) (ktrTop dp un gd cn cs L a ccd cl []) (call (.ref 869) [.ref lst]) Q E s := by
 refine ob3_5 S.at815 fun oA oN oO N hA hN hO hne => ?_
 refine org_specT lst xs k oO _ _ _ _ _ _ _ _ _ _ _ _ _ _ _ _ _ B S.fr X N (el2 hl) hne hO T hk hxs hn hn0 hd hu (fun s' o dx D px t1 t2 kD op' F2 N2 hop hg hos u' => ?_)
 refine hret o s' ((dx, fldDict w t1 t2 D px) :: (o, instObj 869 dx) :: (D, ⟨.type "tuple", none, .seq (txs xs).toArray kD, #[]⟩) :: news) (fun p hp => .tail _ (.tail _ (.tail _ hp))) (LSt.mk2 oA oN op' F2 (fun p hp => N2 p ?_) hA hN hop (fun p hp => ?_) (hg S.bare) (hos.trans S.same)) ⟨dx, D, px, t1, t2, kD, xs, rfl, .tail _ (.head _), .head _, .tail _ (.tail _ (.head _))⟩
 ·exact sub hp
 ·revert p; refine mcons ?_ (mcons ?_ (mcons ?_ (fun p h => ?_)))
  ·exact nf_dict _ _
  ·exact nf_inst _ _
  ·exact nf_tup _ _
  ·exact S.plain p h
theorem orgL_L {w : World} {mean : ExcName → Option Value} {mg mb : Str → Option Value} {news : List (Addr × Obj)} {os : OsState} (lst : Addr) (xs : List (List Nat × Tok)) (k : Nat)
  (dp un : Nat) (gd : Option (List Code)) (cn : Str) (cs : Scope) (a : Addr) (ccd : Value) (cl : List (Str × Addr)) (A₀ : Around) (h₀ : Heap) (L : Addr) (m : Str → Option Value) (s : Shared) (Q E : Value → Shared → Prop)
  (B : Below A₀ h₀ [] h₀) (S : LSt h₀ L m os news s) (X : (K w.params).In h₀) (T : Top q0 (looseW q0 loose0) mean mg mb h₀) (hk : cs.kind = .function)
  (hl : (lst, W.listOf (txs xs).toArray k) ∈ news) (hxs : Texts (xs.map (·.1))) (hn : xs.length ≤ 30) (hn0 : 0 < xs.length)
  (hd : dp + 31 < 500) (hu : un + 131 < 200)
  (hret : ∀ o s' n', news ⊆ n' → LSt h₀ L m os n' s' → OrgAt w n' o (xs.map (·.1)) → Q (.ref o) s') :
  wpAny (model pw w) (ktrTop dp un gd cn cs L a ccd cl []) (call (.ref 869) [.ref lst]) Q E s := by
 refine ob3_5 S.at815 fun oA oN oO N hA hN hO hne => ?_
 refine org_specL lst xs k oO _ _ _ _ _ _ _ _ _ _ _ _ _ _ _ _ _ B S.fr X N (el2 hl) hne hO T hk hxs hn hn0 hd hu (fun s' o dx D px t1 t2 kD op' F2 N2 hop hg hos u' => ?_)
 refine hret o s' ((dx, fldDict w t1 t2 D px) :: (o, instObj 869 dx) :: (D, ⟨.type "tuple", none, .seq (txs xs).toArray kD, #[]⟩) :: news) (fun p hp => .tail _ (.tail _ (.tail _ hp))) (LSt.mk2 oA oN op' F2 (fun p hp => N2 p ?_) hA hN hop (fun p hp => ?_) (hg S.bare) (hos.trans S.same)) ⟨dx, D, px, t1, t2, kD, xs, rfl, .tail _ (.head _), .head _, .tail _ (.tail _ (.head _))⟩
 ·exact sub hp
 ·revert p; refine mcons ?_ (mcons ?_ (mcons ?_ (fun p h => ?_)))
  ·exact nf_dict _ _
  ·exact nf_inst _ _
  ·exact nf_tup _ _
  ·exact S.plain p h
theorem orgS_L {w : World} {mean : ExcName → Option Value} {mg mb : Str → Option Value} {news : List (Addr × Obj)} {os : OsState} (l : List Nat) (tx : Tok)
  (dp un : Nat) (gd : Option (List Code)) (cn : Str) (cs : Scope) (a : Addr) (ccd : Value) (cl : List (Str × Addr)) (A₀ : Around) (h₀ : Heap) (L : Addr) (m : Str → Option Value) (s : Shared) (Q E : Value → Shared → Prop)
  (B : Below A₀ h₀ [] h₀) (S : LSt h₀ L m os news s) (X : (K w.params).In h₀) (T : Top q0 (looseW q0 loose0) mean mg mb h₀) (hk : cs.kind = .function)
  (hx : l.length ≤ 65536) (hn : (fieldsOf 59 l).length ≤ 30) (hn0 : 0 < (fieldsOf 59 l).length)
  (hd : dp + 31 < 500) (hu : un + 131 < 200)
  (hret : ∀ o s' n', news ⊆ n' → LSt h₀ L m os n' s' → OrgAt w n' o (fieldsOf 59 l) → Q (.ref o) s') :
  wpAny (model pw w) (ktrTop dp un gd cn cs L a ccd cl []) (call (.ref 869) [.str (strOf l) tx]) Q E s := by
 refine ob3_5 S.at815 fun oA oN oO N hA hN hO hne => ?_
 refine org_specS l tx oO _ _ _ _ _ _ _ _ _ _ _ _ _ _ _ _ _ B S.fr X N hne hO T hk hx hn hn0 hd hu (fun s' xs o dx D px t1 t2 kD op' F2 N2 hxs hop hg hos u' => ?_)
 refine hret o s' ((dx, fldDict w t1 t2 D px) :: (o, instObj 869 dx) :: (D, ⟨.type "tuple", none, .seq (txs xs).toArray kD, #[]⟩) :: news) (fun p hp => .tail _ (.tail _ (.tail _ hp))) (LSt.mk2 oA oN op' F2 (fun p hp => N2 p ?_) hA hN hop (fun p hp => ?_) (hg S.bare) (hos.trans S.same)) ⟨dx, D, px, t1, t2, kD, xs, hxs, .tail _ (.head _), .head _, .tail _ (.tail _ (.head _))⟩
 ·exact sub hp
 ·revert p; refine mcons ?_ (mcons ?_ (mcons ?_ (fun p h => ?_)))
  ·exact nf_dict _ _
  ·exact nf_inst _ _
  ·exact nf_tup _ _
  ·exact S.plain p h
theorem tup_L {w : World} {os : OsState} {prog : Program} {A : Around} {E Q : Value → Shared → Prop} {s : Shared} {h₀ : Heap} {L l : Addr} {m : Str → Option Value} {news : List (Addr × Obj)} {items : Array Value} {k : Nat} (S : LSt h₀ L m os news s) (hl : (l, W.listOf items k) ∈ news) (hsz : items.size ≤ 65536)
  (hq : ∀ t s', LSt h₀ L m os ((t, ⟨.type "tuple", none, .seq items 0, #[]⟩) :: news) s' → Q (.ref t) s') :
  wpAny (model prog w) A (call (.type "tuple") [.ref l]) Q E s := by
 refine LSt.elim S fun F oA oN oO N hA hN hO hpl hb hos => ?_
 refine tupList F N (.tail _ (.tail _ (.tail _ hl))) hsz (fun t h' F2 N2 u' => hq t _ (LSt.mk2 oA oN oO F2 (fun p hp => N2 p ?_) hA hN hO (fun p hp => ?_) hb hos))
 ·exact sub hp
 ·rcases List.mem_cons.mp hp with rfl | h
  ·exact nf_tup _ _
  ·exact hpl p h
theorem cat_L {w : World} {mean : ExcName → Option Value} {mg mb : Str → Option Value} {news : List (Addr × Obj)} {os : OsState} (lst : Addr) (xs : List (List Nat × Tok)) (k : Nat)
  (dp un : Nat) (gd : Option (List Code)) (cn : Str) (cs : Scope) (a : Addr) (ccd : Value) (cl : List (Str × Addr)) (A₀ : Around) (h₀ : Heap) (L : Addr) (m : Str → Option Value) (s : Shared) (Q E : Value → Shared → Prop)
  (B : Below A₀ h₀ [] h₀) (S : LSt h₀ L m os news s) (X : (K w.params).In h₀) (T : Top q0 (looseW q0 loose0) mean mg mb h₀) (hk : cs.kind = .function)
  (hl : (lst, W.listOf (txs xs).toArray k) ∈ news) (hxs : Texts (xs.map (·.1))) (hn : xs.length ≤ 1000)
  (hd : dp + 31 < 500) (hu : un + 131 < 200)
  (hret : ∀ o s' n', news ⊆ n' → LSt h₀ L m os n' s' → Cat w n' o (xs.map (·.1)) → Q (.ref o) s') :
  wpAny (model pw w) (ktrTop dp un gd cn cs L a ccd cl []) (call (.ref 626) [.ref lst]) Q E s := by
 refine LSt.elim S fun F oA oN oO N hA hN hO hpl hb hos => ?_
 refine cat_spec lst xs k _ _ _ _ _ _ _ _ _ _ _ _ _ _ _ _ _ B F X N (.tail _ (.tail _ (.tail _ hl))) T hk hxs hn hd hu (fun o dx D px ys k' t1 t2 objs h' tk' hr F2 N2 => ?_)
 refine hret o _ ((dx, catDict w t1 t2 D px) :: (o, instObj 626 dx) :: (D, W.listOf ys k') :: (objs ++ news)) (fun p hp => .tail _ (.tail _ (.tail _ (List.mem_append_right _ hp)))) (LSt.mk2 oA oN oO F2 (fun p hp => N2 p ?_) hA hN hO (fun p hp => ?_) hb hos) ⟨dx, D, px, ys, k', t1, t2, objs, xs, .tail _ (.head _), .head _, .tail _ (.tail _ (.head _)), hr, rfl, fun p hp => .tail _ (.tail _ (.tail _ (List.mem_append_left _ hp)))⟩
 ·exact sub hp
 ·simp only [List.mem_cons, List.mem_append] at hp
  rcases hp with rfl | rfl | rfl | h | h
  ·exact nf_dict _ _
  ·exact nf_inst _ _
  ·exact nf_list _ _
  ·exact nf_rel hr p h
  ·exact hpl p h
theorem orgEq_L {w : World} {mean : ExcName → Option Value} {mg mb : Str → Option Value} {news : List (Addr × Obj)} {os : OsState} (o o' : Addr) (ls ls' : List (List Nat)) {bq : Bool}
  (dp un : Nat) (gd : Option (List Code)) (cn : Str) (cs : Scope) (a : Addr) (ccd : Value) (cl : List (Str × Addr)) (A₀ : Around) (h₀ : Heap) (L : Addr) (m : Str → Option Value) (s : Shared) (Q E : Value → Shared → Prop)
  (B : Below A₀ h₀ [] h₀) (S : LSt h₀ L m os news s) (X : (K w.params).In h₀) (T : Top q0 (looseW q0 loose0) mean mg mb h₀) (hk : cs.kind = .function)
  (h1 : OrgAt w news o ls) (h2 : OrgAt w news o' ls')
  (hd : dp + 31 < 500) (hu : un + 132 < 200) (hdc : decide (ls = ls') = bq)
  (hret : ∀ s', LSt h₀ L m os news s' → Q (.bool bq) s') :
  wpAny (model pw w) (ktrTop dp un gd cn cs L a ccd cl []) (compareOp .Eq (.ref o) (.ref o')) Q E s := by
 subst hdc
 refine LSt.elim S fun F oA oN oO N hA hN hO hpl hb hos => ?_
 obtain ⟨dx, D, px, t1, t2, k, ts, rfl, a1, a2, a3⟩ := h1
 obtain ⟨dx', D', px', t1', t2', k', ts', rfl, b1, b2, b3⟩ := h2
 refine cmp_ofEq (cmp_K (K := K w.params) (w := w) (prog := pw) (x := o) (C := 869) (f := 842) (tb := .ref 869) (od := some (fldDict w t1 t2 D px)) ?_ F X ⟨(N _ (.tail _ (.tail _ (.tail _ a1)))).1, rfl, rfl, (N _ (.tail _ (.tail _ (.tail _ a2)))).1⟩ (InstAt.type (od := some (fldDict w t1' t2' D' px')) ⟨(N _ (.tail _ (.tail _ (.tail _ b1)))).1, rfl, rfl, (N _ (.tail _ (.tail _ (.tail _ b2)))).1⟩) (by k_is) (by k_is) (by k_is) ?_)
 ·exact lt_clJ (show un < 200 by lia)
 refine org_eq o o' dx D px dx' D' px' t1 t2 t1' t2' k k' ts ts' _ _ _ _ _ _ _ _ _ _ _ _ _ _ _ _ _ B F X N T hk (.tail _ (.tail _ (.tail _ a1))) (.tail _ (.tail _ (.tail _ a2))) (.tail _ (.tail _ (.tail _ a3))) (.tail _ (.tail _ (.tail _ b1))) (.tail _ (.tail _ (.tail _ b2))) (.tail _ (.tail _ (.tail _ b3))) hd (by lia) (fun h' tk' F2 N2 => ?_)
 exact hret _ (LSt.mk2 oA oN oO F2 N2 hA hN hO hpl hb hos)
theorem catEq_L {w : World} {mean : ExcName → Option Value} {mg mb : Str → Option Value} {news : List (Addr × Obj)} {os : OsState} (o o' : Addr) (ls ls' : List (List Nat)) {bq : Bool}
  (dp un : Nat) (gd : Option (List Code)) (cn : Str) (cs : Scope) (a : Addr) (ccd : Value) (cl : List (Str × Addr)) (A₀ : Around) (h₀ : Heap) (L : Addr) (m : Str → Option Value) (s : Shared) (Q E : Value → Shared → Prop)
  (B : Below A₀ h₀ [] h₀) (S : LSt h₀ L m os news s) (X : (K w.params).In h₀) (T : Top q0 (looseW q0 loose0) mean mg mb h₀) (hk : cs.kind = .function)
  (h1 : Cat w news o ls) (h2 : Cat w news o' ls')
  (hd : dp + 31 < 500) (hu : un + 132 < 200) (hdc : decide (ls = ls') = bq)
  (hret : ∀ s', LSt h₀ L m os news s' → Q (.bool bq) s') :
  wpAny (model pw w) (ktrTop dp un gd cn cs L a ccd cl []) (compareOp .Eq (.ref o) (.ref o')) Q E s := by
 subst hdc
 refine LSt.elim S fun F oA oN oO N hA hN hO hpl hb hos => ?_
 have c1 : Cat w ((531, oA) :: (763, oN) :: (815, oO) :: news) o ls := h1.sub fun p hp => .tail _ (.tail _ (.tail _ hp))
 have c2 : Cat w ((531, oA) :: (763, oN) :: (815, oO) :: news) o' ls' := h2.sub fun p hp => .tail _ (.tail _ (.tail _ hp))
 refine ob9_3 (id c1.out) fun dx D px ys k t1 t2 objs ts a1 a2 u' => ?_
 refine ob9_3 (id c2.out) fun dx' D' px' ys' k' t1' t2' objs' ts' b1 b2 u' => ?_
 refine cmp_ofEq (cmp_K (K := K w.params) (w := w) (prog := pw) (x := o) (C := 626) (f := 615) (tb := .ref 626) (od := some (catDict w t1 t2 D px)) ?_ F X ⟨(N _ a1).1, rfl, rfl, (N _ a2).1⟩ (InstAt.type (od := some (catDict w t1' t2' D' px')) ⟨(N _ b1).1, rfl, rfl, (N _ b2).1⟩) (by k_is) (by k_is) (by k_is) ?_)
 ·exact lt_clJ (show un < 200 by lia)
 refine cat_eq o o' ls ls' c1 c2 _ _ _ _ _ _ _ _ _ _ _ _ _ _ _ _ _ B F X N T hk hd (by lia) (fun h' tk' F2 N2 => ?_)
 exact hret _ (LSt.mk2 oA oN oO F2 N2 hA hN hO hpl hb hos)
end
theorem LSt.turn {h₀ : Heap} {L I : Addr} {m : Str → Option Value} {os : OsState} {n : List (Addr × Obj)} {s : Shared} {oI : Obj} {h' : Heap} (S : LSt h₀ L m os n s) (hI : (I, oI) ∈ n) (hk : ∀ b o, b ≠ I → s.heap.get? b = some o → h'.get? b = some o) :
  LSt h₀ L m os (n.filter fun p => p.1 != I) { s with heap := h' } := by
 refine LSt.elim S fun F oA oN oO N hA hN hO hpl hb hos => ?_
 have hI3 := N _ (.tail _ (.tail _ (.tail _ hI)))
 have a1 := apart_of N (.head _) hA (.tail _ (.tail _ (.tail _ hI))) (hpl _ hI)
 have a2 := apart_of N (.tail _ (.head _)) hN (.tail _ (.tail _ (.tail _ hI))) (hpl _ hI)
 have a3 := apart_of N (.tail _ (.tail _ (.head _))) hO (.tail _ (.tail _ (.tail _ hI))) (hpl _ hI)
 refine (LSt.mk2 oA oN oO (frMove (S := [I]) F (by simpa using fun e => hI3.2.1 e.symm) (by simpa using hI3.2.2) (fun b o hb e => hk b o (by simpa using hb) e)) (fun p hp => ?_) hA hN hO (fun p hp => hpl p (List.mem_filter.mp hp).1) hb hos)
 have key : ∀ q : Addr × Obj, q ∈ (531, oA) :: (763, oN) :: (815, oO) :: n → q.1 ≠ I → h'.get? q.1 = some q.2 ∧ q.1 ≠ L ∧ h₀.get? q.1 = none := fun q hq ne => ⟨hk _ _ ne (N q hq).1, (N q hq).2⟩
 rcases List.mem_cons.mp hp with rfl | hp
 ·exact key _ (.head _) (Ne.symm a1)
 ·rcases List.mem_cons.mp hp with rfl | hp
  ·exact key _ (.tail _ (.head _)) (Ne.symm a2)
  ·rcases List.mem_cons.mp hp with rfl | hp
   ·exact key _ (.tail _ (.tail _ (.head _))) (Ne.symm a3)
   ·obtain ⟨h1, h2⟩ := List.mem_filter.mp hp
    exact key _ (.tail _ (.tail _ (.tail _ h1))) (by simpa using h2)
theorem LSt.add {h₀ : Heap} {L I : Addr} {m : Str → Option Value} {os : OsState} {n : List (Addr × Obj)} {s : Shared} {oI : Obj} (S : LSt h₀ L m os n s) (hI : s.heap.get? I = some oI) (hL : I ≠ L) (h0 : h₀.get? I = none) (hf : NF oI) : LSt h₀ L m os ((I, oI) :: n) s := by
 refine LSt.elim S fun F oA oN oO N hA hN hO hpl hb hos => ?_
 refine (LSt.mk2 oA oN oO F (fun q hq => ?_) hA hN hO (fun q hq => ?_) hb hos)
 ·have : q = (I, oI) ∨ q ∈ (531, oA) :: (763, oN) :: (815, oO) :: n := by
   exact List.mem_cons.mp (sub hq)
  rcases this with rfl | h
  ·exact ⟨hI, hL, h0⟩
  ·exact N q h
 ·rcases List.mem_cons.mp hq with rfl | h
  ·exact hf
  ·exact hpl q h
theorem nf_iter {h : Heap} {I x : Addr} {i : Nat} {o : Obj} (hit : h.IsTupleIter I x i) (e : h.get? I = some o) : NF o := fun ps e2 => by
 obtain ⟨o', e1, hc, hd⟩ := hit
 rw [e] at e1
 obtain rfl := Option.some.inj e1
 rw [e2] at hc
 revert hc
 exact fun hc => by cases hc
noncomputable def Round (prog : Program) (w : World) (A : Around) (env : Env) (target : Expr) (body : List Stmt) (h₀ : Heap) (L : Addr) (os : OsState) (n₀ : List (Addr × Obj)) (m₁ : Str → Option Value) (v : Value) (P : (Str → Option Value) → Prop) : Prop :=
 ∀ n₁ s₁ (E' : Value → Shared → Prop), n₀ ⊆ n₁ → LSt h₀ L m₁ os n₁ s₁ → wpAny (model prog w) A (assign target env v) (fun u' s₂ => wpAny (model prog w) A (execs body env) (fun f s₃ => f = .next ∧ ∃ m₂ n₂, n₁ ⊆ n₂ ∧ LSt h₀ L m₂ os n₂ s₃ ∧ P m₂) E' s₂) E' s₁
inductive InvF (h₀ : Heap) (L : Addr) (m : Str → Option Value) (P : (Str → Option Value) → Prop) (os : OsState) (n₀ : List (Addr × Obj)) (I Tp : Addr) (j : Nat) (t : Shared) : Prop
 | mk (i : Nat) (m₁ : Str → Option Value) (n₁ : List (Addr × Obj)) (hj : j = 3 - i) (hi : i ≤ 2) (g : n₀ ⊆ n₁) (nN : ∀ p ∈ n₁, p.1 ≠ I) (S : LSt h₀ L m₁ os n₁ t) (hit : t.heap.IsTupleIter I Tp i) (hP : if i = 0 then m₁ = m else P m₁)
theorem forPair {prog : Program} {w : World} {A : Around} {env : Env} {E : Value → Shared → Prop} {Q : Flow → Shared → Prop} {s : Shared} {h₀ : Heap} {L : Addr} {m : Str → Option Value} {os : OsState} {target iter : Expr} {body : List Stmt} {pos : Pos} {P : (Str → Option Value) → Prop} (hh : A.handled = none)
  (h : wpAny (model prog w) A (eval iter env) (fun xv s₁ => Hold (∃ Tp k n₀ va vb, xv = .ref Tp ∧ (Tp, (⟨.type "tuple", none, .seq #[va, vb] k, #[]⟩ : Obj)) ∈ n₀ ∧ LSt h₀ L m os n₀ s₁ ∧ Round prog w A env target body h₀ L os n₀ m va P ∧ (∀ m₁, P m₁ → Round prog w A env target body h₀ L os n₀ m₁ vb P) ∧
   ∀ m₂ n₂ s₂, n₀ ⊆ n₂ → LSt h₀ L m₂ os n₂ s₂ → P m₂ → Q .next s₂)) E s)
  (hs : ∀ x, foldedSetIterable iter env x = pure x := by intro _; rfl) :
  wpAny (model prog w) A (exec (.For target iter body [] pos) env) Q E s := by
 refine wpAny_For (_root_.PySem.wpAny_mono h (fun xv s₁ h₁ => ?_) fun u' u' e => e) hs
 refine ob5_6 (hold h₁) fun Tp k n₀ va vb eq5 hT S r1 r2 hQ => ?_
 subst eq5
 have hTup : s₁.heap.IsTuple Tp #[va, vb] := by
  refine ob3_2 S.tabs fun oA oN oO N u' => ?_
  exact ⟨_, (N _ (.tail _ (.tail _ (.tail _ hT)))).1, rfl, _, rfl⟩
 refine wpAny_pyIter_tuple hTup ?_
 have nI : s₁.heap.get? s₁.heap.objs.size = none := by
  cases e : s₁.heap.get? s₁.heap.objs.size with
  | none => rfl
  | some ob => exact absurd (Heap.lt_size e) (Nat.lt_irrefl _)
 have hI : (s₁.heap.push (tupIter Tp)).get? s₁.heap.objs.size = some (tupIter Tp) := Heap.get?_push_size _ rfl
 have old : ∀ b ob, s₁.heap.get? b = some ob → (s₁.heap.push (tupIter Tp)).get? b = some ob := fun b ob e => Heap.get?_push_of_some _ e
 have nN : ∀ p ∈ n₀, p.1 ≠ s₁.heap.objs.size := fun p hp e => by
  refine ob3_2 S.tabs fun oA oN oO N u' => ?_
  have := (N p (.tail _ (.tail _ (.tail _ hp)))).1
  rw [e, nI] at this; cases this
 have nL : s₁.heap.objs.size ≠ L := fun e => by obtain ⟨oL, es, ep, hL, r⟩ := S.fr.ns; rw [← e, nI] at hL; cases hL
 have n0 : h₀.get? s₁.heap.objs.size = none := by
  cases e : h₀.get? s₁.heap.objs.size with
  | none => rfl
  | some ob => rw [S.fr.keep _ _ e] at nI; cases nI
 have S1 : LSt h₀ L m os n₀ { s₁ with heap := s₁.heap.push (tupIter Tp) } := by
  refine LSt.elim S fun F oA oN oO N hA hN hO hpl hb hos => ?_
  exact (LSt.mk2 oA oN oO (F.push _) (fun p hp => ⟨old _ _ (N p hp).1, (N p hp).2⟩) hA hN hO hpl hb hos)
 show codeAny (model prog w) A (.forLoop target (.ref s₁.heap.objs.size) body [] env) _ { s₁ with heap := s₁.heap.push (tupIter Tp) }
 generalize s₁.heap.push (tupIter Tp) = h1 at *
 generalize s₁.heap.objs.size = I at *
 have hit0 : h1.IsTupleIter I Tp 0 := ⟨_, hI, rfl, rfl⟩
 refine codeAny_forLoop_any (InvF h₀ L m P os n₀ I Tp) ?_ 3 ⟨0, m, n₀, rfl, by lia, fun p hp => hp, nN, S1, hit0, by simp⟩
 rintro j t ⟨i, m₁, n₁, rfl, hi, g1, nN1, St, hit, hP⟩
 have hTup' : t.heap.IsTuple Tp #[va, vb] := by
  refine ob3_2 St.tabs fun oA oN oO N u' => ?_
  exact ⟨_, (N _ (.tail _ (.tail _ (.tail _ (g1 hT))))).1, rfl, _, rfl⟩
 have lstT : ∀ h' : Heap, (∀ b o, b ≠ I → t.heap.get? b = some o → h'.get? b = some o) → LSt h₀ L m₁ os n₁ { t with heap := h' } := fun h' hk => by
  obtain ⟨oi, e1, e2, e3⟩ := id hit
  have S2 := (St.add e1 nL n0 (nf_iter hit e1)).turn (.head _) hk
  have : ((I, oi) :: n₁).filter (fun p => p.1 != I) = n₁ := by
   rw [List.filter_cons_of_neg (by simp)]
   exact List.filter_eq_self.mpr fun p hp => by simpa using nN1 p hp
  rwa [this] at S2
 have turn : ∀ (i' : Nat) (v : Value) (h' : Heap), i' = i + 1 → i < 2 → h'.IsTupleIter I Tp i' → Heap.SameBut I t.heap h' → Round prog w A env target body h₀ L os n₀ m₁ v P →
   wpAny (model prog w) A (letOwnedTupleGo target (.ref I) v) (fun u' s₁' =>
     wpAny (model prog w) A (assign target env v) (fun u' s₂ => wpAny (model prog w) A (execs body env) (fun f s₃ => match f with
      | .next | .cont => ∃ m', m' < 3 - i ∧ InvF h₀ L m P os n₀ I Tp m' s₃
      | .brk => (match (Except.ok Flow.next : Result) with | .ok f => Q f s₃ | .error e => cameBackBy (model prog w) A env E e s₃)
      | .ret v => (match (Except.ok (Flow.ret v) : Result) with | .ok f => Q f s₃ | .error e => cameBackBy (model prog w) A env E e s₃)) (notedBy (model prog w) A env fun e s' => cameBackBy (model prog w) A env E e s') s₂) (notedBy (model prog w) A env fun e s' => cameBackBy (model prog w) A env E e s') s₁') (notedBy (model prog w) A env fun e s' => cameBackBy (model prog w) A env E e s') { t with heap := h' } := by
  intro i' v h' hi' hi2 hit' hsb r
  refine letGo_tupleiter hit' ?_
  obtain ⟨oi, e1, e2, e3⟩ := id hit'
  have S2 := (lstT h' fun b o hb e => hsb.extBut b o hb e).add e1 nL n0 (nf_iter hit' e1)
  refine _root_.PySem.wpAny_mono (r ((I, oi) :: n₁) _ _ (fun p hp => .tail _ (g1 hp)) S2) (fun u' s₂ h₂ => _root_.PySem.wpAny_mono h₂ (fun f s₃ h₃ => ?_) fun u' u' e => e) fun u' u' e => e
  obtain ⟨rfl, m₂, n₂, g2, S3, hP3⟩ := h₃
  refine ⟨3 - i', by lia, i', m₂, n₂.filter (fun p => p.1 != I), rfl, by lia, fun p hp => List.mem_filter.mpr ⟨g2 (.tail _ (g1 hp)), by simpa using nN p hp⟩, fun p hp => by simpa using (List.mem_filter.mp hp).2, ?_, ?_, ?_⟩
  ·exact S3.turn (h' := s₃.heap) (g2 (.head _)) fun b o u' e => e
  ·refine ob3_2 S3.tabs fun oA oN oO N u' => ?_
   exact ⟨oi, (N _ (.tail _ (.tail _ (.tail _ (g2 (.head _)))))).1, e2, e3⟩
  ·rw [if_neg (by lia)]; exact hP3
 obtain rfl | rfl | rfl : i = 0 ∨ i = 1 ∨ i = 2 := by lia
 ·rw [if_pos rfl] at hP
  subst hP
  refine wpAny_pyNext_tuple_item hit hTup' (x := va) rfl (fun h' hit' hsb => ?_)
  exact turn 1 va h' rfl (by lia) hit' hsb r1
 ·rw [if_neg (by lia)] at hP
  refine wpAny_pyNext_tuple_item hit hTup' (x := vb) rfl (fun h' hit' hsb => ?_)
  exact turn 2 vb h' rfl (by lia) hit' hsb (r2 m₁ hP)
 ·rw [if_neg (by lia)] at hP
  refine wpAny_pyNext_tuple_end hh hit hTup' rfl (fun h' he => ?_)
  refine wpAny_execs_nil ?_
  exact hQ m₁ n₁ _ g1 (lstT h' fun b o hb e => he b o hb e) hP
inductive NAt (w : World) (news : List (Addr × Obj)) (o : Addr) (ls : List (List Nat)) : Prop
 | mk (dx D dn px : Addr) (t1 t2 : Nat) (ts : List (List Nat × Tok)) (c0 : ts.map (·.1) = ls) (c1 : (o, instObj 801 dx) ∈ news) (c2 : (dx, fldDict w t1 t2 D px) ∈ news) (c3 : (D, tupSub 750 dn (txs ts)) ∈ news)
theorem NAt.mono {w : World} {n n' : List (Addr × Obj)} {o : Addr} {ls : List (List Nat)} (h : NAt w n o ls) (g : n ⊆ n') : NAt w n' o ls := by
 obtain ⟨dx, D, dn, px, t1, t2, ts, e, h1, h2, h3⟩ := h
 exact ⟨dx, D, dn, px, t1, t2, ts, e, g h1, g h2, g h3⟩
theorem refN_L {w : World} {mean : ExcName → Option Value} {mg mb : Str → Option Value} {news : List (Addr × Obj)} {os : OsState} (lst : Addr) (fs : List Fld) (k : Nat)
  (dp un : Nat) (gd : Option (List Code)) (cn : Str) (cs : Scope) (a : Addr) (ccd : Value) (cl : List (Str × Addr)) (A₀ : Around) (h₀ : Heap) (L : Addr) (m : Str → Option Value) (s : Shared) (Q E : Value → Shared → Prop)
  (B : Below A₀ h₀ [] h₀) (S : LSt h₀ L m os news s) (X : (K w.params).In h₀) (T : Top q0 (looseW q0 loose0) mean mg mb h₀) (hk : cs.kind = .function)
  (hl : (lst, W.listOf (fdVals fs).toArray k) ∈ news) (hfs : FdsIn news fs) (ok : FdOk fs)
  (hd : dp + 40 < 500) (hu : un + 140 < 200)
  (hret : ∀ s', LSt h₀ L m os news s' → Q (.bool (decide (fs.length ≠ 5))) s') :
  wpAny (model pw w) (ktrTop dp un gd cn cs L a ccd cl []) (call (.ref 887) [.ref 801, .ref lst]) Q E s := by
 by_cases h5 : fs.length = 5
 ·rw [show decide (fs.length ≠ 5) = false from by simp [h5]] at hret
  refine ob3_5 S.at763 fun oA oN oO N hA hN hO hne => ?_
  refine refusedN_F lst fs k _ _ _ _ _ _ _ _ _ _ _ _ _ _ _ _ _ _ B S.fr X N hne hN T hk (el2 hl) (fun p hp => el2 (hfs p hp)) ok h5 hd hu (fun s' op' F2 N2 hop hg hos u' => ?_)
  refine hret s' (LSt.mk2 oA op' oO F2 (fun p hp => N2 p ?_) hA hop hO S.plain (hg S.bare) (hos.trans S.same))
  exact sub hp
 ·rw [show decide (fs.length ≠ 5) = true from by simp [h5]] at hret
  refine LSt.elim S fun F oA oN oO N hA hN hO hpl hb hos => ?_
  refine refusedN_T lst fs k _ _ _ _ _ _ _ _ _ _ _ _ _ _ _ B F X N T hk (.tail _ (.tail _ (.tail _ hl))) (fun p hp => .tail _ (.tail _ (.tail _ (hfs p hp)))) ok h5 hd hu (fun h' tk' F2 N2 => ?_)
  exact hret _ (LSt.mk2 oA oN oO F2 N2 hA hN hO hpl hb hos)
theorem newN_T {w : World} {mean : ExcName → Option Value} {mg mb : Str → Option Value} {news : List (Addr × Obj)} {os : OsState} (lst : Addr) (xs : List (List Nat × Tok)) (k : Nat)
  (dp un : Nat) (gd : Option (List Code)) (cn : Str) (cs : Scope) (a : Addr) (ccd : Value) (cl : List (Str × Addr)) (A₀ : Around) (h₀ : Heap) (L : Addr) (m : Str → Option Value) (s : Shared) (Q E : Value → Shared → Prop)
  (B : Below A₀ h₀ [] h₀) (S : LSt h₀ L m os news s) (X : (K w.params).In h₀) (T : Top q0 (looseW q0 loose0) mean mg mb h₀) (hk : cs.kind = .function)
  (hl : (lst, ⟨.type "tuple", none, .seq (txs xs).toArray k, #[]⟩) ∈ news) (hxs : Texts (xs.map (·.1))) (hn5 : xs.length = 5)
  (hd : dp + 31 < 500) (hu : un + 131 < 200)
  (hret : ∀ o s' n', news ⊆ n' → LSt h₀ L m os n' s' → NAt w n' o (xs.map (·.1)) → Q (.ref o) s') :
  wpAny (model pw w) (ktrTop dp un gd cn cs L a ccd cl []) (call (.ref 801) [.ref lst]) Q E s := by
 refine ob3_5 S.at763 fun oA oN oO N hA hN hO hne => ?_
 refine n_specT lst xs k _ _ _ _ _ _ _ _ _ _ _ _ _ _ _ _ _ _ B S.fr X N (el2 hl) hne hN T hk hxs hn5 hd hu (fun s' o dx D dn px t1 t2 op' F2 N2 hop hg hos u' => ?_)
 refine hret o s' ((dx, fldDict w t1 t2 D px) :: (o, instObj 801 dx) :: (D, tupSub 750 dn (txs xs)) :: news) (fun p hp => .tail _ (.tail _ (.tail _ hp))) (LSt.mk2 oA op' oO F2 (fun p hp => N2 p ?_) hA hop hO (fun p hp => ?_) (hg S.bare) (hos.trans S.same)) ⟨dx, D, dn, px, t1, t2, xs, rfl, .tail _ (.head _), .head _, .tail _ (.tail _ (.head _))⟩
 ·exact sub hp
 ·revert p; refine mcons ?_ (mcons ?_ (mcons ?_ (fun p h => ?_)))
  ·exact nf_dict _ _
  ·exact nf_inst _ _
  ·exact nf_sub _ _ _
  ·exact S.plain p h
theorem newN_S {w : World} {mean : ExcName → Option Value} {mg mb : Str → Option Value} {news : List (Addr × Obj)} {os : OsState} (l : List Nat) (tx : Tok)
  (dp un : Nat) (gd : Option (List Code)) (cn : Str) (cs : Scope) (a : Addr) (ccd : Value) (cl : List (Str × Addr)) (A₀ : Around) (h₀ : Heap) (L : Addr) (m : Str → Option Value) (s : Shared) (Q E : Value → Shared → Prop)
  (B : Below A₀ h₀ [] h₀) (S : LSt h₀ L m os news s) (X : (K w.params).In h₀) (T : Top q0 (looseW q0 loose0) mean mg mb h₀) (hk : cs.kind = .function)
  (hx : l.length ≤ 65536) (hn : (fieldsOf 59 l).length = 5)
  (hd : dp + 31 < 500) (hu : un + 131 < 200)
  (hret : ∀ o s' n', news ⊆ n' → LSt h₀ L m os n' s' → NAt w n' o (fieldsOf 59 l) → Q (.ref o) s') :
  wpAny (model pw w) (ktrTop dp un gd cn cs L a ccd cl []) (call (.ref 801) [.str (strOf l) tx]) Q E s := by
 refine LSt.elim S fun F oA oN oO N hA hN hO hpl hb hos => ?_
 refine n_specS l tx _ _ _ _ _ _ _ _ _ _ _ _ _ _ _ _ _ B F X N T hk hx hn hd hu (fun xs o dx D dn px t1 t2 h' tk' F2 N2 hxs => ?_)
 refine hret o _ ((dx, fldDict w t1 t2 D px) :: (o, instObj 801 dx) :: (D, tupSub 750 dn (txs xs)) :: news) (fun p hp => .tail _ (.tail _ (.tail _ hp))) (LSt.mk2 oA oN oO F2 (fun p hp => N2 p ?_) hA hN hO (fun p hp => ?_) hb hos) ⟨dx, D, dn, px, t1, t2, xs, hxs, .tail _ (.head _), .head _, .tail _ (.tail _ (.head _))⟩
 ·exact sub hp
 ·revert p; refine mcons ?_ (mcons ?_ (mcons ?_ (fun p h => ?_)))
  ·exact nf_dict _ _
  ·exact nf_inst _ _
  ·exact nf_sub _ _ _
  ·exact hpl p h
theorem eqN_L {w : World} {mean : ExcName → Option Value} {mg mb : Str → Option Value} {news : List (Addr × Obj)} {os : OsState} (o o' : Addr) (ls ls' : List (List Nat)) {bq : Bool}
  (dp un : Nat) (gd : Option (List Code)) (cn : Str) (cs : Scope) (a : Addr) (ccd : Value) (cl : List (Str × Addr)) (A₀ : Around) (h₀ : Heap) (L : Addr) (m : Str → Option Value) (s : Shared) (Q E : Value → Shared → Prop)
  (B : Below A₀ h₀ [] h₀) (S : LSt h₀ L m os news s) (X : (K w.params).In h₀) (T : Top q0 (looseW q0 loose0) mean mg mb h₀) (hk : cs.kind = .function)
  (h1 : NAt w news o ls) (h2 : NAt w news o' ls')
  (hd : dp + 31 < 500) (hu : un + 132 < 200) (hdc : decide (ls = ls') = bq)
  (hret : ∀ s', LSt h₀ L m os news s' → Q (.bool bq) s') :
  wpAny (model pw w) (ktrTop dp un gd cn cs L a ccd cl []) (compareOp .Eq (.ref o) (.ref o')) Q E s := by
 subst hdc
 refine LSt.elim S fun F oA oN oO N hA hN hO hpl hb hos => ?_
 obtain ⟨dx, D, dn, px, t1, t2, ts, rfl, a1, a2, a3⟩ := h1
 obtain ⟨dx', D', dn', px', t1', t2', ts', rfl, b1, b2, b3⟩ := h2
 refine cmp_ofEq (cmp_K (K := K w.params) (w := w) (prog := pw) (x := o) (C := 801) (f := 790) (tb := .ref 801) (od := some (fldDict w t1 t2 D px)) ?_ F X ⟨(N _ (.tail _ (.tail _ (.tail _ a1)))).1, rfl, rfl, (N _ (.tail _ (.tail _ (.tail _ a2)))).1⟩ (InstAt.type (od := some (fldDict w t1' t2' D' px')) ⟨(N _ (.tail _ (.tail _ (.tail _ b1)))).1, rfl, rfl, (N _ (.tail _ (.tail _ (.tail _ b2)))).1⟩) (by k_is) (by k_is) (by k_is) ?_)
 ·exact lt_clJ (show un < 200 by lia)
 refine n_eq o o' dx D dn px dx' D' dn' px' t1 t2 t1' t2' ts ts' _ _ _ _ _ _ _ _ _ _ _ _ _ _ _ _ _ B F X N T hk (.tail _ (.tail _ (.tail _ a1))) (.tail _ (.tail _ (.tail _ a2))) (.tail _ (.tail _ (.tail _ a3))) (.tail _ (.tail _ (.tail _ b1))) (.tail _ (.tail _ (.tail _ b2))) (.tail _ (.tail _ (.tail _ b3))) hd (by lia) (fun h' tk' F2 N2 => ?_)
 exact hret _ (LSt.mk2 oA oN oO F2 N2 hA hN hO hpl hb hos)
inductive AAt (w : World) (news : List (Addr × Obj)) (o : Addr) (ls : List (List Nat)) : Prop
 | mk (dx D dn px : Addr) (t1 t2 : Nat) (ts : List (List Nat × Tok)) (c0 : ts.map (·.1) = ls) (c1 : (o, instObj 569 dx) ∈ news) (c2 : (dx, fldDict w t1 t2 D px) ∈ news) (c3 : (D, tupSub 518 dn (txs ts)) ∈ news)
theorem AAt.mono {w : World} {n n' : List (Addr × Obj)} {o : Addr} {ls : List (List Nat)} (h : AAt w n o ls) (g : n ⊆ n') : AAt w n' o ls := by
 obtain ⟨dx, D, dn, px, t1, t2, ts, e, h1, h2, h3⟩ := h
 exact ⟨dx, D, dn, px, t1, t2, ts, e, g h1, g h2, g h3⟩
theorem refA_L {w : World} {mean : ExcName → Option Value} {mg mb : Str → Option Value} {news : List (Addr × Obj)} {os : OsState} (lst : Addr) (fs : List Fld) (k : Nat)
  (dp un : Nat) (gd : Option (List Code)) (cn : Str) (cs : Scope) (a : Addr) (ccd : Value) (cl : List (Str × Addr)) (A₀ : Around) (h₀ : Heap) (L : Addr) (m : Str → Option Value) (s : Shared) (Q E : Value → Shared → Prop)
  (B : Below A₀ h₀ [] h₀) (S : LSt h₀ L m os news s) (X : (K w.params).In h₀) (T : Top q0 (looseW q0 loose0) mean mg mb h₀) (hk : cs.kind = .function)
  (hl : (lst, W.listOf (fdVals fs).toArray k) ∈ news) (hfs : FdsIn news fs) (ok : FdOk fs)
  (hd : dp + 40 < 500) (hu : un + 140 < 200)
  (hret : ∀ s', LSt h₀ L m os news s' → Q (.bool (decide (fs.length ≠ 7))) s') :
  wpAny (model pw w) (ktrTop dp un gd cn cs L a ccd cl []) (call (.ref 887) [.ref 569, .ref lst]) Q E s := by
 by_cases h5 : fs.length = 7
 ·rw [show decide (fs.length ≠ 7) = false from by simp [h5]] at hret
  obtain ⟨oA, oN, oO, N, hA, hN, hO, hne⟩ := S.at531
  refine refusedA_F lst fs k _ _ _ _ _ _ _ _ _ _ _ _ _ _ _ _ _ _ B S.fr X N hne hA T hk (el2 hl) (fun p hp => el2 (hfs p hp)) ok h5 hd hu (fun s' op' F2 N2 hop hg hos u' => ?_)
  refine hret s' (LSt.mk2 op' oN oO F2 (fun p hp => N2 p ?_) hop hN hO S.plain (hg S.bare) (hos.trans S.same))
  exact sub hp
 ·rw [show decide (fs.length ≠ 7) = true from by simp [h5]] at hret
  refine LSt.elim S fun F oA oN oO N hA hN hO hpl hb hos => ?_
  refine refusedA_T lst fs k _ _ _ _ _ _ _ _ _ _ _ _ _ _ _ B F X N T hk (.tail _ (.tail _ (.tail _ hl))) (fun p hp => .tail _ (.tail _ (.tail _ (hfs p hp)))) ok h5 hd hu (fun h' tk' F2 N2 => ?_)
  exact hret _ (LSt.mk2 oA oN oO F2 N2 hA hN hO hpl hb hos)
theorem newA_T {w : World} {mean : ExcName → Option Value} {mg mb : Str → Option Value} {news : List (Addr × Obj)} {os : OsState} (lst : Addr) (xs : List (List Nat × Tok)) (k : Nat)
  (dp un : Nat) (gd : Option (List Code)) (cn : Str) (cs : Scope) (a : Addr) (ccd : Value) (cl : List (Str × Addr)) (A₀ : Around) (h₀ : Heap) (L : Addr) (m : Str → Option Value) (s : Shared) (Q E : Value → Shared → Prop)
  (B : Below A₀ h₀ [] h₀) (S : LSt h₀ L m os news s) (X : (K w.params).In h₀) (T : Top q0 (looseW q0 loose0) mean mg mb h₀) (hk : cs.kind = .function)
  (hl : (lst, ⟨.type "tuple", none, .seq (txs xs).toArray k, #[]⟩) ∈ news) (hxs : Texts (xs.map (·.1))) (hn5 : xs.length = 7)
  (hd : dp + 31 < 500) (hu : un + 131 < 200)
  (hret : ∀ o s' n', news ⊆ n' → LSt h₀ L m os n' s' → AAt w n' o (xs.map (·.1)) → Q (.ref o) s') :
  wpAny (model pw w) (ktrTop dp un gd cn cs L a ccd cl []) (call (.ref 569) [.ref lst]) Q E s := by
 obtain ⟨oA, oN, oO, N, hA, hN, hO, hne⟩ := S.at531
 refine adr_specT lst xs k _ _ _ _ _ _ _ _ _ _ _ _ _ _ _ _ _ _ B S.fr X N (el2 hl) hne hA T hk hxs hn5 hd hu (fun s' o dx D dn px t1 t2 op' F2 N2 hop hg hos u' => ?_)
 refine hret o s' ((dx, fldDict w t1 t2 D px) :: (o, instObj 569 dx) :: (D, tupSub 518 dn (txs xs)) :: news) (fun p hp => .tail _ (.tail _ (.tail _ hp))) (LSt.mk2 op' oN oO F2 (fun p hp => N2 p ?_) hop hN hO (fun p hp => ?_) (hg S.bare) (hos.trans S.same)) ⟨dx, D, dn, px, t1, t2, xs, rfl, .tail _ (.head _), .head _, .tail _ (.tail _ (.head _))⟩
 ·exact sub hp
 ·revert p; refine mcons ?_ (mcons ?_ (mcons ?_ (fun p h => ?_)))
  ·exact nf_dict _ _
  ·exact nf_inst _ _
  ·exact nf_sub _ _ _
  ·exact S.plain p h
theorem newA_S {w : World} {mean : ExcName → Option Value} {mg mb : Str → Option Value} {news : List (Addr × Obj)} {os : OsState} (l : List Nat) (tx : Tok)
  (dp un : Nat) (gd : Option (List Code)) (cn : Str) (cs : Scope) (a : Addr) (ccd : Value) (cl : List (Str × Addr)) (A₀ : Around) (h₀ : Heap) (L : Addr) (m : Str → Option Value) (s : Shared) (Q E : Value → Shared → Prop)
  (B : Below A₀ h₀ [] h₀) (S : LSt h₀ L m os news s) (X : (K w.params).In h₀) (T : Top q0 (looseW q0 loose0) mean mg mb h₀) (hk : cs.kind = .function)
  (hx : l.length ≤ 65536) (hn : (fieldsOf 59 l).length = 7)
  (hd : dp + 31 < 500) (hu : un + 131 < 200)
  (hret : ∀ o s' n', news ⊆ n' → LSt h₀ L m os n' s' → AAt w n' o (fieldsOf 59 l) → Q (.ref o) s') :
  wpAny (model pw w) (ktrTop dp un gd cn cs L a ccd cl []) (call (.ref 569) [.str (strOf l) tx]) Q E s := by
 refine LSt.elim S fun F oA oN oO N hA hN hO hpl hb hos => ?_
 refine adr_specS l tx _ _ _ _ _ _ _ _ _ _ _ _ _ _ _ _ _ B F X N T hk hx hn hd hu (fun xs o dx D dn px t1 t2 h' tk' F2 N2 hxs => ?_)
 refine hret o _ ((dx, fldDict w t1 t2 D px) :: (o, instObj 569 dx) :: (D, tupSub 518 dn (txs xs)) :: news) (fun p hp => .tail _ (.tail _ (.tail _ hp))) (LSt.mk2 oA oN oO F2 (fun p hp => N2 p ?_) hA hN hO (fun p hp => ?_) hb hos) ⟨dx, D, dn, px, t1, t2, xs, hxs, .tail _ (.head _), .head _, .tail _ (.tail _ (.head _))⟩
 ·exact sub hp
 ·revert p; refine mcons ?_ (mcons ?_ (mcons ?_ (fun p h => ?_)))
  ·exact nf_dict _ _
  ·exact nf_inst _ _
  ·exact nf_sub _ _ _
  ·exact hpl p h
theorem eqA_L {w : World} {mean : ExcName → Option Value} {mg mb : Str → Option Value} {news : List (Addr × Obj)} {os : OsState} (o o' : Addr) (ls ls' : List (List Nat)) {bq : Bool}
  (dp un : Nat) (gd : Option (List Code)) (cn : Str) (cs : Scope) (a : Addr) (ccd : Value) (cl : List (Str × Addr)) (A₀ : Around) (h₀ : Heap) (L : Addr) (m : Str → Option Value) (s : Shared) (Q E : Value → Shared → Prop)
  (B : Below A₀ h₀ [] h₀) (S : LSt h₀ L m os news s) (X : (K w.params).In h₀) (T : Top q0 (looseW q0 loose0) mean mg mb h₀) (hk : cs.kind = .function)
  (h1 : AAt w news o ls) (h2 : AAt w news o' ls')
  (hd : dp + 31 < 500) (hu : un + 132 < 200) (hdc : decide (ls = ls') = bq)
  (hret : ∀ s', LSt h₀ L m os news s' → Q (.bool bq) s') :
  wpAny (model pw w) (ktrTop dp un gd cn cs L a ccd cl []) (compareOp .Eq (.ref o) (.ref o')) Q E s := by
 subst hdc
 refine LSt.elim S fun F oA oN oO N hA hN hO hpl hb hos => ?_
 obtain ⟨dx, D, dn, px, t1, t2, ts, rfl, a1, a2, a3⟩ := h1
 obtain ⟨dx', D', dn', px', t1', t2', ts', rfl, b1, b2, b3⟩ := h2
 refine cmp_ofEq (cmp_K (K := K w.params) (w := w) (prog := pw) (x := o) (C := 569) (f := 558) (tb := .ref 569) (od := some (fldDict w t1 t2 D px)) ?_ F X ⟨(N _ (.tail _ (.tail _ (.tail _ a1)))).1, rfl, rfl, (N _ (.tail _ (.tail _ (.tail _ a2)))).1⟩ (InstAt.type (od := some (fldDict w t1' t2' D' px')) ⟨(N _ (.tail _ (.tail _ (.tail _ b1)))).1, rfl, rfl, (N _ (.tail _ (.tail _ (.tail _ b2)))).1⟩) (by k_is) (by k_is) (by k_is) ?_)
 ·exact lt_clJ (show un < 200 by lia)
 refine adr_eq o o' dx D dn px dx' D' dn' px' t1 t2 t1' t2' ts ts' _ _ _ _ _ _ _ _ _ _ _ _ _ _ _ _ _ B F X N T hk (.tail _ (.tail _ (.tail _ a1))) (.tail _ (.tail _ (.tail _ a2))) (.tail _ (.tail _ (.tail _ a3))) (.tail _ (.tail _ (.tail _ b1))) (.tail _ (.tail _ (.tail _ b2))) (.tail _ (.tail _ (.tail _ b3))) hd (by lia) (fun h' tk' F2 N2 => ?_)
 exact hret _ (LSt.mk2 oA oN oO F2 N2 hA hN hO hpl hb hos)
section
local macro_rules | `(tactic| walk_at "eval Name") => `(tactic| (k_here; k_dflt (refine' nameX_L ?k1 ?k2 ?_ ?k3 ?k4 ?k5; (case k1 => k_asm); (case k2 => assumption); (case k3 => rfl); (case k4 => rfl); (case k5 => decide); k_whole)))
section
local macro_rules | `(tactic| walk_at "call ref") => `(tactic| (refine hold ?_))
theorem Cat.mono {w : World} {news news' : List (Addr × Obj)} {o : Addr} {xs : List (List Nat)} (C : Cat w news o xs) (h : ∀ p ∈ news, p ∈ news') : Cat w news' o xs := by
 refine ob9_6 C.out fun dx D px ys k t1 t2 objs ts a1 a2 a3 a4 a5 a6 => ?_
 exact ⟨dx, D, px, ys, k, t1, t2, objs, ts, h _ a1, h _ a2, h _ a3, a4, a5, fun p hp => h _ (a6 p hp)⟩
theorem stage5 {w : World} {mean : ExcName → Option Value} {mg mb : Str → Option Value} {news : List (Addr × Obj)} (C tl : Addr) (us : List (List Nat × Tok)) (kt : Nat) (os : OsState)
  (dp un : Nat) (gd : Option (List Code)) (a : Addr) (cd : Value) (A₀ : Around) (h₀ : Heap) (L : Addr) (m : Str → Option Value) (s : Shared) (Q : Flow → Shared → Prop) (E : Value → Shared → Prop)
  (B : Below A₀ h₀ [] h₀) (S : LSt h₀ L m os news s) (X : (K w.params).In h₀) (T : Top q0 (looseW q0 loose0) mean mg mb h₀)
  (hmt : m "texts" = some (.ref tl)) (htl : (tl, W.listOf (txs us).toArray kt) ∈ news) (hxs : Texts (us.map (·.1))) (hn : us.length ≤ 8)
  (hd : dp + 60 < 500) (hu : un + 160 < 200)
  (hq : ∀ o s' news', LSt h₀ L (fun y => if y = "categories" then some (.ref o) else m y) os (news' ++ news) s' → Cat w (news' ++ news) o (us.map (·.1)) → Q .next s') :
  wpAny (model pw w) (ktrTop dp un gd "law" lawScope.1 L a cd [("numbers", C)] []) (exec LS.1.s5 (lawEnv L a cd C)) Q E s := by
 delta LS lawScope
 dsimp only
 refine LSt.elim S fun F oA oN oO N hA hN hO hpl hb hos => ?_
 k_steps
 refine unhold ?_
 refine cat_spec tl us kt _ _ _ _ _ _ _ _ _ _ _ _ _ _ _ _ _ B F X N (.tail _ (.tail _ (.tail _ htl))) T rfl hxs (by lia) ?_ ?_ (fun o dx D px ys k' t1 t2 objs h' tk' hr F2 N2 => ?_)
 ·lia
 ·lia
 clear F N
 k_steps
 with_reducible rename Fr _ _ _ _ => F3
 with_reducible rename News _ _ _ _ => N3
 refine hq o _ ((dx, catDict w t1 t2 D px) :: (o, instObj 626 dx) :: (D, W.listOf ys k') :: objs) (LSt.mk2 oA oN oO F3 (fun p hp => N3 p ?_) hA hN hO (fun p hp => ?_) hb hos) ⟨dx, D, px, ys, k', t1, t2, objs, us, .tail _ (.head _), .head _, .tail _ (.tail _ (.head _)), hr, rfl, fun p hp => .tail _ (.tail _ (.tail _ (List.mem_append_left _ hp)))⟩
 ·exact sub hp
 ·simp only [List.cons_append, List.mem_cons, List.mem_append] at hp
  rcases hp with rfl | rfl | rfl | h | h
  ·exact nf_dict _ _
  ·exact nf_inst _ _
  ·exact nf_list _ _
  ·exact nf_rel hr p h
  ·exact hpl p h
section
local macro_rules | `(tactic| walk_at "call type:list") => `(tactic| (refine hold ?_))
local macro_rules | `(tactic| walk_at "call builtin:str.join") => `(tactic| (refine hold ?_))
local macro_rules | `(tactic| walk_at "getMethod str") => `(tactic| (k_here; (with_reducible show wpAny _ _ (getMethod (Value.str _ _) (PySem.Str.ofString "encode") _) _ _ _); refine getEncode ?_))
local macro_rules | `(tactic| walk_at "call builtin:str.encode") => `(tactic| (refine hold ?_))
local macro_rules | `(tactic| walk_at "compareOp NotEq ref ref") => `(tactic| (refine hold ?_))
section
local macro_rules | `(tactic| walk_at "getMethod ref") => `(tactic| (refine hold ?_))
section
set_option tactic.hygienic true
theorem lt_cl {n : Nat} (h : n < 200) : n < cLine := Nat.lt_of_lt_of_le h (by decide)
theorem comma_is2 : Str.ofString "," = strOf [44] := by decide
theorem esc_texts {xs : List (List Nat)} (h : Texts xs) : ∀ l ∈ xs.map escL, l.length ≤ 2048 ∧ ∀ c ∈ l, c < 128 := fun l hl => by
 refine ob1_2 (List.mem_map.mp hl) fun l0 h0 eq2 => ?_
 subst eq2
 have := escL_len l0
 have := (h l0 h0).1
 exact ⟨by lia, escL_ascii (h l0 h0).2⟩
theorem esc_total {xs : List (List Nat)} (h : Texts xs) (hn : xs.length ≤ 30) : total (xs.map escL) ≤ 65536 :=
 Nat.le_trans (total_le (B := 2048) fun l hl => (esc_texts h l hl).1) (by rw [List.length_map]; lia)
theorem glue_ascii {c : Nat} (hc : c < 128) {xs : List (List Nat)} (h : Texts xs) : ∀ d ∈ glue [c] (xs.map escL), d < 128 := fun d hd => by
 rcases glue_mem hd with rfl | ⟨l, hl, hd⟩
 ·exact hc
 ·exact (esc_texts h l hl).2 d hd
theorem stage6 {w : World} {mean : ExcName → Option Value} {mg mb : Str → Option Value} {news : List (Addr × Obj)} (C tl ul o : Addr) (us vs : List (List Nat × Tok)) (kt kv : Nat) (os : OsState)
  (dp un : Nat) (gd : Option (List Code)) (a : Addr) (cd : Value) (A₀ : Around) (h₀ : Heap) (L : Addr) (m : Str → Option Value) (s : Shared) (Q : Flow → Shared → Prop) (E : Value → Shared → Prop)
  (B : Below A₀ h₀ [] h₀) (S : LSt h₀ L m os news s) (X : (K w.params).In h₀) (T : Top q0 (looseW q0 loose0) mean mg mb h₀)
  (hmt : m "texts" = some (.ref tl)) (htl : (tl, W.listOf (txs us).toArray kt) ∈ news) (hmu : m "told" = some (.ref ul)) (hul : (ul, W.listOf (txs vs).toArray kv) ∈ news) (hmc : m "categories" = some (.ref o)) (hC : Cat w news o (us.map (·.1)))
  (hvs : vs.map (·.1) = (us.map (·.1)).map escL) (hxs : Texts (us.map (·.1))) (hn : us.length ≤ 8)
  (hd : dp + 60 < 500) (hu : un + 160 < 200)
  (hq : ∀ s' news', LSt h₀ L m os (news' ++ news) s' → Q .next s') :
  wpAny (model pw w) (ktrTop dp un gd "law" lawScope.1 L a cd [("numbers", C)] []) (exec LS.1.s6 (lawEnv L a cd C)) Q E s := by
 delta LS lawScope
 dsimp only
 refine LSt.elim S fun F oA oN oO N hA hN hO hpl hb hos => ?_
 refine ob9_6 (id hC.out) fun dx D px ys k t1 t2 objs ts ho hdx hD hrel hts hobj => ?_
 have Ct : Cat w ((531, oA) :: (763, oN) :: (815, oO) :: news) o (us.map (·.1)) := hC.mono fun p hp => .tail _ (.tail _ (.tail _ hp))
 k_steps
 refine unhold ?_
 refine method_inst (es := [ent w "cats" t1 (.ref D), ent w "params" t2 (.ref px)]) F X ⟨(N _ (.tail _ (.tail _ (.tail _ ho)))).1, rfl, rfl, (N _ (.tail _ (.tail _ (.tail _ hdx)))).1⟩ (by kernel_rfl) (by k_is) (by k_is) (by kernel_rfl) ?_
 k_steps
 refine unhold ?_
 refine cat_ical o (us.map (·.1)) Ct _ _ _ _ _ _ _ _ _ _ _ _ _ _ _ _ _ B F X N T rfl hxs (by rw [List.length_map]; lia) ?_ ?_ (fun tb h2 tk2 F2 N2 => ?_)
 ·lia
 ·lia
 clear F N
 k_steps
 refine unhold ?_
 rw [comma_is2]
 refine joinS (N2 _ (.tail _ (.tail _ (.tail _ hul)))).1 (by rw [hvs]; exact esc_total hxs (by rw [List.length_map]; lia)) (fun t3 k3 => ?_)
 rw [hvs]
 k_steps
 refine unhold ?_
 refine enc_call (glue_ascii (by decide) hxs) (Nat.le_trans (glue_len 44 _) (esc_total hxs (by rw [List.length_map]; lia))) (fun t4 k4 => ?_)
 k_steps
 ·rename_i hne
  exact absurd hne (by simp)
 refine unhold ?_
 have hl8 : ys.size = us.length := by
  have e1 := hrel.len
  have e2 := congrArg List.length hts
  simp only [txs_len, List.length_map, Array.length_toList] at e1 e2
  lia
 refine cat_list o dx D px t1 t2 k ys _ _ _ _ _ _ _ _ _ _ _ _ _ _ _ _ _ B F2 X N2 T rfl (.tail _ (.tail _ (.tail _ ho))) (.tail _ (.tail _ (.tail _ hdx))) (.tail _ (.tail _ (.tail _ hD))) (by lia) ?_ ?_ (fun S3 h3 tk3 k3 F3 N3 => ?_)
 ·lia
 ·lia
 clear F2 N2
 k_steps
 refine unhold ?_
 have v1 := vtsAt_of _ _ _ hrel fun p hp => (N3 _ (.tail _ (.tail _ (.tail _ (.tail _ (hobj p hp)))))).1
 have v2 := strsAt_txs us
 rw [hts, Array.toArray_toList] at v1
 refine rn_lists (ls := us.map (·.1)) (ms := us.map (·.1)) (N3.isList (.head _)) (N3.isList (.tail _ (.tail _ (.tail _ (.tail _ htl))))) v1.1 v2.1 ?_ (fun j h1 h2 => el_VS (X.keeps F3.keep) ?_ v1 v2 j h1 h2) (congrArg not (decide_eq_true rfl)) _ _ _ _ ?_
 ·exact lt_cl (show un < 200 by lia)
 ·exact lt_cl (show un + 1 < 200 by lia)
 k_steps
 refine hq _ [(S3, W.listOf ys k3)] (LSt.mk2 oA oN oO F3 (fun p hp => N3 p ?_) hA hN hO (fun p hp => ?_) hb hos)
 ·exact sub hp
 ·simp only [List.cons_append, List.nil_append, List.mem_cons] at hp
  rcases hp with rfl | h
  ·exact nf_list _ _
  ·exact hpl p h
end
theorem el3 {α} {a b c d : α} {l : List α} (h : d ∈ l) : d ∈ a :: b :: c :: l := .tail _ (.tail _ (.tail _ h))
theorem stage7 {w : World} {mean : ExcName → Option Value} {mg mb : Str → Option Value} {news : List (Addr × Obj)} (C tl ul o : Addr) (us vs : List (List Nat × Tok)) (kt kv : Nat) (os : OsState)
  (dp un : Nat) (gd : Option (List Code)) (a : Addr) (cd : Value) (A₀ : Around) (h₀ : Heap) (L : Addr) (m : Str → Option Value) (s : Shared) (Q : Flow → Shared → Prop) (E : Value → Shared → Prop)
  (B : Below A₀ h₀ [] h₀) (S : LSt h₀ L m os news s) (X : (K w.params).In h₀) (T : Top q0 (looseW q0 loose0) mean mg mb h₀)
  (hmt : m "texts" = some (.ref tl)) (htl : (tl, W.listOf (txs us).toArray kt) ∈ news) (hmu : m "told" = some (.ref ul)) (hul : (ul, W.listOf (txs vs).toArray kv) ∈ news) (hmc : m "categories" = some (.ref o)) (hC : Cat w news o (us.map (·.1)))
  (hvs : vs.map (·.1) = (us.map (·.1)).map escL) (hxs : Texts (us.map (·.1))) (hn : us.length ≤ 8) (hn0 : us ≠ [])
  (hd : dp + 60 < 500) (hu : un + 160 < 200)
  (hq : ∀ s' news', LSt h₀ L m os (news' ++ news) s' → Q .next s') :
  wpAny (model pw w) (ktrTop dp un gd "law" lawScope.1 L a cd [("numbers", C)] []) (exec LS.1.s7 (lawEnv L a cd C)) Q E s := by
 delta LS lawScope
 dsimp only
 refine LSt.elim S fun F oA oN oO N hA hN hO hpl hb hos => ?_
 have Ct : Cat w ((531, oA) :: (763, oN) :: (815, oO) :: news) o (us.map (·.1)) := hC.mono fun p hp => .tail _ (.tail _ (.tail _ hp))
 have hlen : (glue [44] ((us.map (·.1)).map escL)).length ≤ 65536 := Nat.le_trans (glue_len 44 _) (esc_total hxs (by rw [List.length_map]; lia))
 have hrt : fieldsOf 44 (glue [44] ((us.map (·.1)).map escL)) = us.map (·.1) := split_glue (.inl rfl) _ (by simpa using hn0)
 k_steps
 refine unhold ?_
 rw [comma_is2]
 refine joinS (N _ (el3 hul)).1 (by rw [hvs]; exact esc_total hxs (by rw [List.length_map]; lia)) (fun t3 k3 => ?_)
 rw [hvs]
 k_steps
 refine unhold ?_
 refine splitc_spec _ _ _ _ _ _ _ _ _ _ _ _ _ _ _ _ _ _ _ B F X N T rfl (by rw [len_strOf]; exact hlen) ?_ ?_ (fun l1 ls k4 h2 tk2 F2 N2 u' hls => ?_)
 ·exact Nat.lt_of_lt_of_le (show dp + 2 < 500 by lia) (by decide)
 ·exact lt_cl (show un + 16 < 200 by lia)
 have hls2 := fields_of hls
 rw [hrt] at hls2
 clear F N
 k_steps
 refine unhold ?_
 have v1 := strsAt_txs (ls.map fun p => (p.1.cps.toList, p.2))
 rw [← txs_of, hls2] at v1
 have v2 := strsAt_txs us
 refine rn_lists (ls := us.map (·.1)) (ms := us.map (·.1)) (N2.isList (.head _)) (N2.isList (.tail _ (el3 htl))) v1.1 v2.1 ?_ (fun j h1 h2 => el_SS v1 v2 j h1 h2) (congrArg not (decide_eq_true rfl)) _ _ _ _ ?_
 ·exact lt_cl (show un < 200 by lia)
 k_steps
 refine unhold ?_
 refine cat_spec tl us kt _ _ _ _ _ _ _ _ _ _ _ _ _ _ _ _ _ B F2 X N2 (.tail _ (el3 htl)) T rfl hxs (by lia) ?_ ?_ (fun o2 dx2 D2 px2 ys2 k2 t1 t2 objs h' tk' hr F3 N3 => ?_)
 ·lia
 ·lia
 clear F2 N2
 k_steps
 refine unhold ?_
 have C2 : Cat w ((dx2, catDict w t1 t2 D2 px2) :: (o2, instObj 626 dx2) :: (D2, W.listOf ys2 k2) :: (objs ++ (l1, W.listOf (strValues ls).toArray k4) :: (531, oA) :: (763, oN) :: (815, oO) :: news)) o2 (us.map (·.1)) := ⟨dx2, D2, px2, ys2, k2, t1, t2, objs, us, .tail _ (.head _), .head _, .tail _ (.tail _ (.head _)), hr, rfl, fun p hp => .tail _ (.tail _ (.tail _ (List.mem_append_left _ hp)))⟩
 have C1 : Cat w ((dx2, catDict w t1 t2 D2 px2) :: (o2, instObj 626 dx2) :: (D2, W.listOf ys2 k2) :: (objs ++ (l1, W.listOf (strValues ls).toArray k4) :: (531, oA) :: (763, oN) :: (815, oO) :: news)) o (us.map (·.1)) := Ct.mono fun p hp => .tail _ (.tail _ (.tail _ (List.mem_append_right _ (.tail _ hp))))
 refine ob9_3 (id C1.out) fun dx D px ys k t5 t6 objs' ts ho hdx u' => ?_
 refine cmp_ofNotEq ?_
 refine ne_K (w := w) (prog := pw) (x := o2) (y := o) (C := 626) (f := 615) (od := some (catDict w t1 t2 D2 px2)) ?_ (X.keeps F3.keep) ⟨(N3 _ (.tail _ (.head _))).1, rfl, rfl, (N3 _ (.head _)).1⟩ (InstAt.type (od := some (catDict w t5 t6 D px)) ⟨(N3 _ ho).1, rfl, rfl, (N3 _ hdx).1⟩) (by k_is) (by k_is) (by k_is) (by k_is) ?_
 ·exact lt_cl (show un + 1 < 200 by lia)
 refine cat_eq o2 o _ _ C2 C1 _ _ _ _ _ _ _ _ _ _ _ _ _ _ _ _ _ B F3 X N3 T rfl ?_ ?_ (fun h' tk' F4 N4 => ⟨_, rfl, ?_⟩)
 ·show dp + 31 < 500; first | exact rm1 (by assumption) rfl | lia
 ·show un + 1 + 131 < 200; first | exact rm2 (by assumption) rfl | lia
 clear F3 N3
 rw [decide_eq_true rfl]
 k_steps
 refine hq _ ((dx2, catDict w t1 t2 D2 px2) :: (o2, instObj 626 dx2) :: (D2, W.listOf ys2 k2) :: (objs ++ [(l1, W.listOf (strValues ls).toArray k4)])) (LSt.mk2 oA oN oO F4 (fun p hp => N4 p ?_) hA hN hO (fun p hp => ?_) hb hos)
 ·exact sub hp
 ·simp only [List.cons_append, List.append_assoc, List.nil_append, List.mem_cons, List.mem_append] at hp
  rcases hp with rfl | rfl | rfl | h | rfl | h
  ·exact nf_dict _ _
  ·exact nf_inst _ _
  ·exact nf_list _ _
  ·exact nf_rel hr p h
  ·exact nf_list _ _
  ·exact hpl p h
end
section
local macro_rules | `(tactic| walk_at "call type:tuple") => `(tactic| (refine hold ?_))
section
local macro_rules | `(tactic| walk_at "getMethod ref") => `(tactic| ((fail_if_success (with_reducible show wpAny _ _ (getMethod (Value.ref 869) _ _) _ _ _)); refine hold ?_))
section
set_option tactic.hygienic true
theorem v_size (us : List (List Nat × Tok)) : (txs us).toArray.size = us.length := by
 have := (strsAt_txs us).1
 rw [this, List.length_map]
theorem stage8 {w : World} {mean : ExcName → Option Value} {mg mb : Str → Option Value} {news : List (Addr × Obj)} (C tl ul : Addr) (us vs : List (List Nat × Tok)) (kt kv : Nat) (os : OsState)
  (dp un : Nat) (gd : Option (List Code)) (a : Addr) (cd : Value) (A₀ : Around) (h₀ : Heap) (L : Addr) (m : Str → Option Value) (s : Shared) (Q : Flow → Shared → Prop) (E : Value → Shared → Prop)
  (B : Below A₀ h₀ [] h₀) (S : LSt h₀ L m os news s) (X : (K w.params).In h₀) (T : Top q0 (looseW q0 loose0) mean mg mb h₀)
  (hmt : m "texts" = some (.ref tl)) (htl : (tl, W.listOf (txs us).toArray kt) ∈ news) (hmu : m "told" = some (.ref ul)) (hul : (ul, W.listOf (txs vs).toArray kv) ∈ news)
  (hvs : vs.map (·.1) = (us.map (·.1)).map escL) (hxs : Texts (us.map (·.1))) (hn : us.length ≤ 8) (hn0 : us ≠ [])
  (hd : dp + 60 < 500) (hu : un + 160 < 200)
  (hq : ∀ o s' n', news ⊆ n' → LSt h₀ L (fun y => if y = "org" then some (.ref o) else m y) os n' s' → OrgAt w n' o (us.map (·.1)) → Q .next s') :
  wpAny (model pw w) (ktrTop dp un gd "law" lawScope.1 L a cd [("numbers", C)] []) (exec LS.1.s8 (lawEnv L a cd C)) Q E s := by
 delta LS lawScope
 dsimp only
 refine LSt.elim S fun F oA oN oO N hA hN hO hpl hb hos => ?_
 k_steps
 refine unhold ?_
 refine tup_L (LSt.mk2 oA oN oO F N hA hN hO hpl hb hos) htl (by rw [v_size us]; lia) (fun t s1 S1 => ?_)
 clear F N
 refine LSt.elim S1 fun F1 oA1 oN1 oO1 N1 hA1 hN1 hO1 hpl1 hb1 hos1 => ?_
 k_steps
 refine unhold ?_
 refine orgT_L t us 0 _ _ _ _ _ _ _ _ _ _ _ _ _ _ _ B (LSt.mk2 oA1 oN1 oO1 F1 N1 hA1 hN1 hO1 hpl1 hb1 hos1) X T rfl (.head _) hxs (by lia) (by have := List.length_pos_iff.mpr hn0; lia) (by lia) (by lia) (fun o s2 n2 g2 S2 O2 => ?_)
 clear F1 N1
 refine LSt.elim S2 fun F2 oA2 oN2 oO2 N2 hA2 hN2 hO2 hpl2 hb2 hos2 => ?_
 k_steps
 with_reducible rename Fr _ _ _ _ => F3
 with_reducible rename News _ _ _ _ => N3
 exact hq o _ n2 (fun p hp => g2 (.tail _ hp)) (LSt.mk2 oA2 oN2 oO2 F3 N3 hA2 hN2 hO2 hpl2 hb2 hos2) O2
theorem stage9 {w : World} {mean : ExcName → Option Value} {mg mb : Str → Option Value} {news : List (Addr × Obj)} (C tl ul o : Addr) (us vs : List (List Nat × Tok)) (kt kv : Nat) (os : OsState)
  (dp un : Nat) (gd : Option (List Code)) (a : Addr) (cd : Value) (A₀ : Around) (h₀ : Heap) (L : Addr) (m : Str → Option Value) (s : Shared) (Q : Flow → Shared → Prop) (E : Value → Shared → Prop)
  (B : Below A₀ h₀ [] h₀) (S : LSt h₀ L m os news s) (X : (K w.params).In h₀) (T : Top q0 (looseW q0 loose0) mean mg mb h₀)
  (hmt : m "texts" = some (.ref tl)) (htl : (tl, W.listOf (txs us).toArray kt) ∈ news) (hmu : m "told" = some (.ref ul)) (hul : (ul, W.listOf (txs vs).toArray kv) ∈ news)
  (hvs : vs.map (·.1) = (us.map (·.1)).map escL) (hxs : Texts (us.map (·.1))) (hn : us.length ≤ 8) (hn0 : us ≠ [])
  (hd : dp + 60 < 500) (hu : un + 160 < 200)
  (hmo : m "org" = some (.ref o)) (hO' : OrgAt w news o (us.map (·.1)))
  (hq : ∀ s' n', news ⊆ n' → LSt h₀ L m os n' s' → Q .next s') :
  wpAny (model pw w) (ktrTop dp un gd "law" lawScope.1 L a cd [("numbers", C)] []) (exec LS.1.s9 (lawEnv L a cd C)) Q E s := by
 delta LS lawScope
 dsimp only
 refine LSt.elim S fun F oA oN oO N hA hN hO hpl hb hos => ?_
 obtain ⟨dx, D, px, t1, t2, k, ts, hts, ho, hdx, hD⟩ := id hO'
 have hlen : (glue [59] ((us.map (·.1)).map escL)).length ≤ 65536 := Nat.le_trans (glue_len 59 _) (esc_total hxs (by rw [List.length_map]; lia))
 have hrt : fieldsOf 59 (glue [59] ((us.map (·.1)).map escL)) = us.map (·.1) := split_glue (.inr rfl) _ (by simpa using hn0)
 have hj : total (vs.map (·.1)) ≤ 65536 := by rw [hvs]; exact esc_total hxs (by rw [List.length_map]; lia)
 have hts8 : ts.length = us.length := by simpa using congrArg List.length hts
 k_steps
 refine unhold ?_
 refine method_inst (es := [ent w "fields" t1 (.ref D), ent w "params" t2 (.ref px)]) F X ⟨(N _ (el3 ho)).1, rfl, rfl, (N _ (el3 hdx)).1⟩ (by kernel_rfl) (by k_is) (by k_is) (by kernel_rfl) ?_
 k_steps
 refine unhold ?_
 refine org_ical o dx D px t1 t2 ts k _ _ _ _ _ _ _ _ _ _ _ _ _ _ _ _ _ B F X N T rfl (el3 ho) (el3 hdx) (el3 hD) (by rw [hts]; exact hxs) (by lia) ?_ ?_ (fun tb h2 tk2 F2 N2 => ?_)
 ·lia
 ·lia
 clear F N
 rw [hts]
 k_steps
 refine unhold ?_
 try rw [semi_is2]
 refine joinS (N2 _ (el3 hul)).1 hj (fun t3 k3 => ?_)
 rw [hvs]
 k_steps
 refine unhold ?_
 refine enc_call (glue_ascii (by decide) hxs) hlen (fun t4 k4 => ?_)
 k_steps
 ·rename_i hne
  exact absurd hne (by simp)
 refine unhold ?_
 try rw [semi_is2]
 refine joinS (N2 _ (el3 hul)).1 hj (fun t5 k5 => ?_)
 rw [hvs]
 k_steps
 refine unhold ?_
 refine org_from _ _ _ _ _ _ _ _ _ _ _ _ _ _ _ _ _ _ _ B F2 X N2 T rfl hlen (by rw [hrt, List.length_map]; lia) (by lia) (by lia) (fun D2 xs h3 tk3 F3 N3 hx3 u' => ?_)
 rw [hrt] at hx3
 clear F2 N2
 k_steps
 refine unhold ?_
 refine tupList F3 N3 (.tail _ (el3 htl)) (by rw [v_size us]; lia) (fun t h4 F4 N4 u' => ?_)
 clear F3 N3
 k_steps
 refine unhold ?_
 have v1 := strsAt_txs xs
 rw [hx3] at v1
 have v2 := strsAt_txs us
 refine rn_tuples (ls := us.map (·.1)) (ms := us.map (·.1)) ⟨_, (N4 _ (.tail _ (.head _))).1, rfl, _, rfl⟩ ⟨_, (N4 _ (.head _)).1, rfl, _, rfl⟩ v1.1 v2.1 ?_ (fun j h1 h2 => el_SS v1 v2 j h1 h2) (congrArg not (decide_eq_true rfl)) _ _ _ _ ?_
 ·exact lt_cl (show un < 200 by lia)
 k_steps
 refine hq _ ((t, ⟨.type "tuple", none, .seq (txs us).toArray 0, #[]⟩) :: (D2, ⟨.type "tuple", none, .seq (txs xs).toArray 0, #[]⟩) :: news) (fun p hp => el2 hp) (LSt.mk2 oA oN oO F4 (fun p hp => N4 p ?_) hA hN hO (fun p hp => ?_) hb hos)
 ·exact sub hp
 ·rcases List.mem_cons.mp hp with rfl | hp
  ·exact nf_tup _ _
  ·rcases List.mem_cons.mp hp with rfl | hp
   ·exact nf_tup _ _
   ·exact hpl p hp
end
section
local macro_rules | `(tactic| walk_at "compareOp Eq ref ref") => `(tactic| (refine hold ?_))
local macro_rules | `(tactic| walk_at "getAttr ref") => `(tactic| (refine hold ?_))
theorem stage13 {w : World} {mean : ExcName → Option Value} {mg mb : Str → Option Value} {news : List (Addr × Obj)} (C tl ul : Addr) (us vs : List (List Nat × Tok)) (kt kv : Nat) (os : OsState)
  (dp un : Nat) (gd : Option (List Code)) (a : Addr) (cd : Value) (A₀ : Around) (h₀ : Heap) (L : Addr) (m : Str → Option Value) (s : Shared) (Q : Flow → Shared → Prop) (E : Value → Shared → Prop)
  (B : Below A₀ h₀ [] h₀) (S : LSt h₀ L m os news s) (X : (K w.params).In h₀) (T : Top q0 (looseW q0 loose0) mean mg mb h₀)
  (hmt : m "texts" = some (.ref tl)) (htl : (tl, W.listOf (txs us).toArray kt) ∈ news) (hmu : m "told" = some (.ref ul)) (hul : (ul, W.listOf (txs vs).toArray kv) ∈ news)
  (hvs : vs.map (·.1) = (us.map (·.1)).map escL) (hxs : Texts (us.map (·.1))) (hn : us.length ≤ 8) (hn0 : us ≠ [])
  (hd : dp + 60 < 500) (hu : un + 160 < 200)
  (hq : ∀ s' n', news ⊆ n' → LSt h₀ L m os n' s' → Q (.ret (.bool true)) s') :
  wpAny (model pw w) (ktrTop dp un gd "law" lawScope.1 L a cd [("numbers", C)] []) (exec LS.1.s13 (lawEnv L a cd C)) Q E s := by
 delta LS lawScope
 dsimp only
 refine LSt.elim S fun F oA oN oO N hA hN hO hpl hb hos => ?_
 have hlen : (glue [59] ((us.map (·.1)).map escL)).length ≤ 65536 := Nat.le_trans (glue_len 59 _) (esc_total hxs (by rw [List.length_map]; lia))
 have hrt : fieldsOf 59 (glue [59] ((us.map (·.1)).map escL)) = us.map (·.1) := split_glue (.inr rfl) _ (by simpa using hn0)
 have hj : total (vs.map (·.1)) ≤ 65536 := by rw [hvs]; exact esc_total hxs (by rw [List.length_map]; lia)
 have hp0 : 0 < us.length := List.length_pos_iff.mpr hn0
 k_steps
 refine unhold ?_
 rw [semi_is2]
 refine joinS (N _ (el3 hul)).1 hj (fun t6 k6 => ?_)
 rw [hvs]
 k_steps
 refine unhold ?_
 refine orgS_L _ _ _ _ _ _ _ _ _ _ _ _ _ _ _ _ _ B (LSt.mk2 oA oN oO F N hA hN hO hpl hb hos) X T rfl hlen (by rw [hrt, List.length_map]; lia) (by rw [hrt, List.length_map]; lia) (by lia) (by lia) (fun o2 s6 n6 g6 S6 O6 => ?_)
 clear F N
 rw [hrt] at O6
 refine LSt.elim S6 fun F6 oA6 oN6 oO6 N6 hA6 hN6 hO6 hpl6 hb6 hos6 => ?_
 k_steps
 refine unhold ?_
 refine orgL_L tl us kt _ _ _ _ _ _ _ _ _ _ _ _ _ _ _ B (LSt.mk2 oA6 oN6 oO6 F6 N6 hA6 hN6 hO6 hpl6 hb6 hos6) X T rfl (g6 htl) hxs (by lia) hp0 (by lia) (by lia) (fun o4 s4 n4 g4 S4 O4 => ?_)
 clear F6 N6
 refine LSt.elim S4 fun F4 oA4 oN4 oO4 N4 hA4 hN4 hO4 hpl4 hb4 hos4 => ?_
 k_steps
 refine unhold ?_
 refine orgEq_L o2 o4 _ _ _ _ _ _ _ _ _ _ _ _ _ _ _ _ _ B S4 X T rfl (O6.mono g4) O4 (by lia) (by lia) (decide_eq_true rfl) (fun s5 S5 => ?_)
 clear F4 N4
 refine LSt.elim S5 fun F5 oA5 oN5 oO5 N5 hA5 hN5 hO5 hpl5 hb5 hos5 => ?_
 k_steps
 exact hq _ n4 (fun p hp => g4 (g6 hp)) (LSt.mk2 oA5 oN5 oO5 F5 N5 hA5 hN5 hO5 hpl5 hb5 hos5)
section
local macro_rules | `(tactic| walk_at "binaryOp Add ref ref") => `(tactic| (refine hold ?_))
theorem a_is : Str.ofString "a" = strOf [97] := by decide
theorem txs_snoc (us : List (List Nat × Tok)) (l : List Nat) (t : Tok) : txs us ++ [.str (strOf l) t] = txs (us ++ [(l, t)]) := by simp [txs, strValues]
theorem LSt.head1 {h₀ : Heap} {L : Addr} {m : Str → Option Value} {os : OsState} {news : List (Addr × Obj)} {s : Shared} {p : Addr × Obj} {oA oN oO : Obj} (F : Fr h₀ L s.heap m) (N : News h₀ L s.heap (p :: (531, oA) :: (763, oN) :: (815, oO) :: news)) (hA : TabOk oA) (hN : TabOk oN) (hO : TabOk oO) (hpl : ∀ p ∈ news, NF p.2) (hp : NF p.2) (hb : AllBare s.gens) (hos : s.os = os) : LSt h₀ L m os (p :: news) s := by
 refine (LSt.mk2 oA oN oO F (fun q hq => N q ?_) hA hN hO (fun q hq => ?_) hb hos)
 ·exact sub hq
 ·rcases List.mem_cons.mp hq with rfl | h
  ·exact hp
  ·exact hpl q h
theorem addA_L {w : World} {os : OsState} {prog : Program} {A : Around} {E Q : Value → Shared → Prop} {s : Shared} {h₀ : Heap} {L tl l' : Addr} {m : Str → Option Value} {news : List (Addr × Obj)} {us : List (List Nat × Tok)} {kt k : Nat} {t : Tok} (S : LSt h₀ L m os news s) (htl : (tl, W.listOf (txs us).toArray kt) ∈ news) (hl : (l', W.listOf #[.str (Str.ofString "a") t] k) ∈ news) (hn : us.length ≤ 30)
  (hq : ∀ D s', LSt h₀ L m os ((D, W.listOf (txs (us ++ [([97], t)])).toArray 0) :: news) s' → Q (.ref D) s') :
  wpAny (model prog w) A (binaryOp .Add (.ref tl) (.ref l')) Q E s := by
 refine LSt.elim S fun F oA oN oO N hA hN hO hpl hb hos => ?_
 rw [a_is] at hl
 refine add_lists (vs := txs us) (ws := [.str (strOf [97]) t]) F N (N.isList (.tail _ (.tail _ (.tail _ htl)))) (N.isList (.tail _ (.tail _ (.tail _ hl)))) (fun h' F2 N2 => ?_) (hsz := by rw [txs_len, List.length_map, sizeLine_eq]; simp; lia)
 rw [txs_snoc] at N2
 exact hq _ _ (LSt.head1 F2 N2 hA hN hO hpl (nf_list _ _) hb hos)
theorem stage11 {w : World} {mean : ExcName → Option Value} {mg mb : Str → Option Value} {news : List (Addr × Obj)} (C tl ul o c : Addr) (us vs : List (List Nat × Tok)) (kt kv : Nat) (os : OsState)
  (dp un : Nat) (gd : Option (List Code)) (a : Addr) (cd : Value) (A₀ : Around) (h₀ : Heap) (L : Addr) (m : Str → Option Value) (s : Shared) (Q : Flow → Shared → Prop) (E : Value → Shared → Prop)
  (B : Below A₀ h₀ [] h₀) (S : LSt h₀ L m os news s) (X : (K w.params).In h₀) (T : Top q0 (looseW q0 loose0) mean mg mb h₀)
  (hmt : m "texts" = some (.ref tl)) (htl : (tl, W.listOf (txs us).toArray kt) ∈ news) (hmu : m "told" = some (.ref ul)) (hul : (ul, W.listOf (txs vs).toArray kv) ∈ news)
  (hvs : vs.map (·.1) = (us.map (·.1)).map escL) (hxs : Texts (us.map (·.1))) (hn : us.length ≤ 8) (hn0 : us ≠ [])
  (hd : dp + 60 < 500) (hu : un + 160 < 200)
  (hmo : m "org" = some (.ref o)) (hO' : OrgAt w news o (us.map (·.1))) (hmc : m "categories" = some (.ref c)) (hC : Cat w news c (us.map (·.1)))
  (hq : ∀ s' n', news ⊆ n' → LSt h₀ L m os n' s' → Q .next s') :
  wpAny (model pw w) (ktrTop dp un gd "law" lawScope.1 L a cd [("numbers", C)] []) (exec LS.1.s11 (lawEnv L a cd C)) Q E s := by
 delta LS lawScope
 dsimp only
 refine LSt.elim S fun F oA oN oO N hA hN hO hpl hb hos => ?_
 have hne : ∀ tk : Tok, ¬ (List.map (fun p : List Nat × Tok => p.1) (us ++ [([97], tk)]) = us.map (·.1)) := fun tk e => by
  have := congrArg List.length e
  simp at this
 have hxa : ∀ tk : Tok, Texts (List.map (fun p : List Nat × Tok => p.1) (us ++ [([97], tk)])) := fun tk l hl => by
  rw [List.map_append, List.mem_append] at hl
  rcases hl with hl | hl
  ·exact hxs l hl
  ·rcases List.mem_singleton.mp hl with rfl
   exact ⟨show ([97] : List Nat).length ≤ 1024 by decide, show ∀ c ∈ ([97] : List Nat), c ∈ signs by decide⟩
 have hla : ∀ tk : Tok, (us ++ [([97], tk)]).length = us.length + 1 := fun tk => by simp
 k_steps
 refine unhold ?_
 with_reducible rename Fr _ _ _ _ => F1
 with_reducible rename News _ _ _ _ => N1
 refine addA_L (LSt.head1 F1 N1 hA hN hO hpl (nf_list _ _) hb hos) (.tail _ htl) (.head _) (by lia) (fun D s2 S2 => ?_)
 clear F1 N1
 refine LSt.elim S2 fun F2 oA2 oN2 oO2 N2 hA2 hN2 hO2 hpl2 hb2 hos2 => ?_
 k_steps
 refine unhold ?_
 refine tup_L (LSt.mk2 oA2 oN2 oO2 F2 N2 hA2 hN2 hO2 hpl2 hb2 hos2) (.head _) (by rw [v_size, hla]; lia) (fun t s3 S3 => ?_)
 clear F2 N2
 refine LSt.elim S3 fun F3 oA3 oN3 oO3 N3 hA3 hN3 hO3 hpl3 hb3 hos3 => ?_
 k_steps
 refine unhold ?_
 refine orgT_L t _ 0 _ _ _ _ _ _ _ _ _ _ _ _ _ _ _ B (LSt.mk2 oA3 oN3 oO3 F3 N3 hA3 hN3 hO3 hpl3 hb3 hos3) X T rfl (.head _) (hxa _) (by rw [hla]; lia) (by rw [hla]; lia) (by lia) (by lia) (fun o4 s4 n4 g4 S4 O4 => ?_)
 clear F3 N3
 refine LSt.elim S4 fun F4 oA4 oN4 oO4 N4 hA4 hN4 hO4 hpl4 hb4 hos4 => ?_
 k_steps
 refine unhold ?_
 refine orgEq_L o4 o _ _ _ _ _ _ _ _ _ _ _ _ _ _ _ _ _ B S4 X T rfl O4 (hO'.mono fun p hp => g4 (.tail _ (.tail _ (.tail _ hp)))) (by lia) (by lia) (decide_eq_false (hne _)) (fun s5 S5 => ?_)
 clear F4 N4
 refine LSt.elim S5 fun F5 oA5 oN5 oO5 N5 hA5 hN5 hO5 hpl5 hb5 hos5 => ?_
 k_steps
 refine unhold ?_
 with_reducible rename Fr _ _ _ _ => F6
 with_reducible rename News _ _ _ _ => N6
 refine addA_L (LSt.head1 F6 N6 hA5 hN5 hO5 hpl5 (nf_list _ _) hb5 hos5) (.tail _ (g4 (.tail _ (.tail _ (.tail _ htl))))) (.head _) (by lia) (fun D7 s7 S7 => ?_)
 clear F6 N6
 refine LSt.elim S7 fun F7 oA7 oN7 oO7 N7 hA7 hN7 hO7 hpl7 hb7 hos7 => ?_
 k_steps
 refine unhold ?_
 refine cat_L D7 _ _ _ _ _ _ _ _ _ _ _ _ _ _ _ _ _ B (LSt.mk2 oA7 oN7 oO7 F7 N7 hA7 hN7 hO7 hpl7 hb7 hos7) X T rfl (.head _) (hxa _) (by rw [hla]; lia) (by lia) (by lia) (fun o8 s8 n8 g8 S8 C8 => ?_)
 clear F7 N7
 refine LSt.elim S8 fun F8 oA8 oN8 oO8 N8 hA8 hN8 hO8 hpl8 hb8 hos8 => ?_
 k_steps
 refine unhold ?_
 refine catEq_L o8 c _ _ _ _ _ _ _ _ _ _ _ _ _ _ _ _ _ B S8 X T rfl C8 (hC.sub fun p hp => g8 (.tail _ (.tail _ (g4 (.tail _ (.tail _ (.tail _ hp))))))) (by lia) (by lia) (decide_eq_false (hne _)) (fun s9 S9 => ?_)
 clear F8 N8
 refine LSt.elim S9 fun F9 oA9 oN9 oO9 N9 hA9 hN9 hO9 hpl9 hb9 hos9 => ?_
 k_steps
 exact hq _ n8 (fun p hp => g8 (.tail _ (.tail _ (g4 (.tail _ (.tail _ (.tail _ hp))))))) (LSt.mk2 oA9 oN9 oO9 F9 N9 hA9 hN9 hO9 hpl9 hb9 hos9)
end
section
local macro_rules | `(tactic| walk_at "subscriptTail Name Slice ref ref") => `(tactic| (refine hold ?_))
section
local macro_rules | `(tactic| walk_at "subscriptTail Name Constant ref int") => `(tactic| (refine hold ?_))
section
set_option tactic.hygienic true
theorem stage10 {w : World} {mean : ExcName → Option Value} {mg mb : Str → Option Value} {news : List (Addr × Obj)} (C tl ul o : Addr) (us vs : List (List Nat × Tok)) (kt kv : Nat) (os : OsState)
  (dp un : Nat) (gd : Option (List Code)) (a : Addr) (cd : Value) (A₀ : Around) (h₀ : Heap) (L : Addr) (m : Str → Option Value) (s : Shared) (Q : Flow → Shared → Prop) (E : Value → Shared → Prop)
  (B : Below A₀ h₀ [] h₀) (S : LSt h₀ L m os news s) (X : (K w.params).In h₀) (T : Top q0 (looseW q0 loose0) mean mg mb h₀)
  (hmt : m "texts" = some (.ref tl)) (htl : (tl, W.listOf (txs us).toArray kt) ∈ news) (hmu : m "told" = some (.ref ul)) (hul : (ul, W.listOf (txs vs).toArray kv) ∈ news)
  (hvs : vs.map (·.1) = (us.map (·.1)).map escL) (hxs : Texts (us.map (·.1))) (hn : us.length ≤ 8) (hn0 : us ≠ [])
  (hd : dp + 60 < 500) (hu : un + 160 < 200)
  (hmo : m "org" = some (.ref o)) (hO' : OrgAt w news o (us.map (·.1)))
  (hq : ∀ s' n', news ⊆ n' → LSt h₀ L m os n' s' → Q .next s') :
  wpAny (model pw w) (ktrTop dp un gd "law" lawScope.1 L a cd [("numbers", C)] []) (exec LS.1.s10 (lawEnv L a cd C)) Q E s := by
 delta LS lawScope
 dsimp only
 refine LSt.elim S fun F oA oN oO N hA hN hO hpl hb hos => ?_
 obtain ⟨dx, D, px, t1, t2, k, ts, hts, ho, hdx, hD⟩ := id hO'
 have hlen : (glue [59] ((us.map (·.1)).map escL)).length ≤ 65536 := Nat.le_trans (glue_len 59 _) (esc_total hxs (by rw [List.length_map]; lia))
 have hrt : fieldsOf 59 (glue [59] ((us.map (·.1)).map escL)) = us.map (·.1) := split_glue (.inr rfl) _ (by simpa using hn0)
 have hj : total (vs.map (·.1)) ≤ 65536 := by rw [hvs]; exact esc_total hxs (by rw [List.length_map]; lia)
 have hts8 : ts.length = us.length := by simpa using congrArg List.length hts
 have hp0 : 0 < us.length := List.length_pos_iff.mpr hn0
 obtain ⟨u0, us', hus⟩ : ∃ u0 us', us = u0 :: us' := by
  cases us with
  | nil => exact absurd rfl hn0
  | cons u0 us' => exact ⟨u0, us', rfl⟩
 k_steps
 refine unhold ?_
 refine get_prop (od := fldDict w t1 t2 D px) (fget := 849) F X ⟨(N _ (el3 ho)).1, rfl, rfl, (N _ (el3 hdx)).1⟩ (by k_is) (by k_is) (by k_is) (by k_is) (by k_is) (by k_is) ?_
 refine org_name o dx D px t1 t2 k ts (by lia) (by lia) _ _ _ _ _ _ _ _ _ _ _ _ _ _ _ _ B F X N T rfl (el3 ho) (el3 hdx) (el3 hD) ?_ ?_ (fun l tl0 h2 tk2 hl0 F2 N2 => ?_)
 ·show dp + 31 < 500; first | exact rm1 (by assumption) rfl | lia
 ·show un + 1 + 131 < 200; first | exact rm2 (by assumption) rfl | lia
 clear F N
 refine handed_on rfl ?_
 have hl1 : l = u0.1 := by rw [hts, hus] at hl0; exact (Option.some.inj hl0).symm
 subst hl1
 k_steps
 refine unhold ?_
 refine item_list (items := (txs us).toArray) (x := .str (strOf u0.1) u0.2) (N2.isList (el3 htl)) (by decide) (by decide) (by rw [hus]; rfl) ?_
 k_steps
 ·rename_i hne
  exact absurd hne (by simp)
 refine unhold ?_
 refine get_prop (od := fldDict w t1 t2 D px) (fget := 857) F2 X ⟨(N2 _ (el3 ho)).1, rfl, rfl, (N2 _ (el3 hdx)).1⟩ (by k_is) (by k_is) (by k_is) (by k_is) (by k_is) (by k_is) ?_
 refine org_units o dx D px t1 t2 k ts (by lia) (by lia) _ _ _ _ _ _ _ _ _ _ _ _ _ _ _ _ B F2 X N2 T rfl (el3 ho) (el3 hdx) (el3 hD) ?_ ?_ (fun D3 h3 tk3 F3 N3 => ?_)
 ·show dp + 31 < 500; first | exact rm1 (by assumption) rfl | lia
 ·show un + 1 + 131 < 200; first | exact rm2 (by assumption) rfl | lia
 clear F2 N2
 refine handed_on rfl ?_
 k_steps
 refine unhold ?_
 refine slice_list F3 N3 (N3.isList (.tail _ (el3 htl))) (.int _ _) .none (fun h4 F4 N4 => ?_) (hsz := by rw [v_size, sizeLine_eq]; lia)
 clear F3 N3
 rw [show slicePick (txs us).toArray (some (1 : Int)) none none = (txs (us.drop 1)).toArray from by
  rw [show (1 : Int) = ((1 : Nat) : Int) from rfl, slicePick_from _ 1 (by rw [v_size]; lia)]; simp [txs, strValues]] at N4
 k_steps
 refine unhold ?_
 refine tupList F4 N4 (.head _) (by rw [v_size, List.length_drop]; lia) (fun t h5 F5 N5 u' => ?_)
 clear F4 N4
 k_steps
 refine unhold ?_
 have v1 := strsAt_txs (ts.drop 1)
 have v2 := strsAt_txs (us.drop 1)
 rw [List.map_drop, hts, ← List.map_drop] at v1
 refine rn_tuples (ls := (us.drop 1).map (·.1)) (ms := (us.drop 1).map (·.1)) ⟨_, (N5 _ (el2 (.head _))).1, rfl, _, rfl⟩ ⟨_, (N5 _ (.head _)).1, rfl, _, rfl⟩ v1.1 v2.1 ?_ (fun j h1 h2 => el_SS v1 v2 j h1 h2) (congrArg not (decide_eq_true rfl)) _ _ _ _ ?_
 ·exact lt_cl (show un < 200 by lia)
 k_steps
 refine unhold ?_
 rw [semi_is2]
 refine joinS (N5 _ (.tail _ (.tail _ (.tail _ (el3 hul))))).1 hj (fun t6 k6 => ?_)
 rw [hvs]
 k_steps
 refine unhold ?_
 have S5 : ∀ tk, LSt h₀ L m os ((t, ⟨.type "tuple", none, .seq (txs (us.drop 1)).toArray 0, #[]⟩) :: (h3.objs.size + 1, W.listOf (txs (us.drop 1)).toArray 0) :: (D3, ⟨.type "tuple", none, .seq (txs (ts.drop 1)).toArray 0, #[]⟩) :: news) { s with heap := h5, toks := tk } := fun tk => LSt.mk2 oA oN oO F5 (fun p hp => N5 p (sub hp)) hA hN hO (fun p hp => by
  rcases List.mem_cons.mp hp with rfl | hp
  ·exact nf_tup _ _
  ·rcases List.mem_cons.mp hp with rfl | hp
   ·exact nf_list _ _
   ·rcases List.mem_cons.mp hp with rfl | hp
    ·exact nf_tup _ _
    ·exact hpl p hp) hb hos
 refine orgS_L _ _ _ _ _ _ _ _ _ _ _ _ _ _ _ _ _ B (S5 _) X T rfl hlen (by rw [hrt, List.length_map]; lia) (by rw [hrt, List.length_map]; lia) (by lia) (by lia) (fun o2 s6 n6 g6 S6 O6 => ?_)
 clear F5 N5
 rw [hrt] at O6
 refine LSt.elim S6 fun F6 oA6 oN6 oO6 N6 hA6 hN6 hO6 hpl6 hb6 hos6 => ?_
 k_steps
 refine unhold ?_
 refine orgEq_L o2 o _ _ _ _ _ _ _ _ _ _ _ _ _ _ _ _ _ B S6 X T rfl O6 (hO'.mono fun p hp => g6 (el3 hp)) (by lia) (by lia) (decide_eq_true rfl) (fun s7 S7 => ?_)
 clear F6 N6
 refine LSt.elim S7 fun F7 oA7 oN7 oO7 N7 hA7 hN7 hO7 hpl7 hb7 hos7 => ?_
 k_steps
 exact hq _ n6 (fun p hp => g6 (el3 hp)) (LSt.mk2 oA7 oN7 oO7 F7 N7 hA7 hN7 hO7 hpl7 hb7 hos7)
end
end
section
local macro_rules | `(tactic| walk_at "binaryOp Mult ref int") => `(tactic| (refine hold ?_))
noncomputable def wx {α : Type} (l : List α) (n : Nat) : List α := ((List.replicate 7 l).flatten).take n
theorem flat7_len {α : Type} (l : List α) : ((List.replicate 7 l).flatten).length = 7 * l.length := by simp; lia
theorem wx_len {α : Type} {l : List α} (h : l ≠ []) {n : Nat} (hn : n ≤ 7) : (wx l n).length = n := by
 have := List.length_pos_iff.mpr h
 rw [wx, List.length_take, flat7_len]; lia
theorem wx_map {α β : Type} (f : α → β) (l : List α) (n : Nat) : (wx l n).map f = wx (l.map f) n := by
 simp only [wx, List.map_take, List.map_flatten, List.map_replicate]
theorem wx_mem {α : Type} {l : List α} {n : Nat} {x : α} (h : x ∈ wx l n) : x ∈ l := by
 have := List.mem_of_mem_take h
 refine ob1_2 (List.mem_flatten.mp this) fun r hr hx => ?_
 rwa [(List.mem_replicate.mp hr).2] at hx
theorem wx_txs (us : List (List Nat × Tok)) (n : Nat) : wx (txs us) n = txs (wx us n) := by
 simp only [txs, strValues, List.map_map]
 exact (wx_map _ us n).symm
theorem pick_wx (l : List Value) (h : l ≠ []) (n : Nat) (hn : n ≤ 7) : slicePick (List.replicate 7 l).flatten.toArray none (some (n : Int)) none = (wx l n).toArray := by
 have := List.length_pos_iff.mpr h
 rw [slicePick_upto _ n (by rw [List.size_toArray, flat7_len]; lia)]
 rfl
theorem LSt.head2 {h₀ : Heap} {L : Addr} {m : Str → Option Value} {os : OsState} {news : List (Addr × Obj)} {s : Shared} {p q : Addr × Obj} {oA oN oO : Obj} (F : Fr h₀ L s.heap m) (N : News h₀ L s.heap (p :: q :: (531, oA) :: (763, oN) :: (815, oO) :: news)) (hA : TabOk oA) (hN : TabOk oN) (hO : TabOk oO) (hpl : ∀ p ∈ news, NF p.2) (hp : NF p.2) (hq : NF q.2) (hb : AllBare s.gens) (hos : s.os = os) : LSt h₀ L m os (p :: q :: news) s := by
 refine (LSt.mk2 oA oN oO F (fun r hr => N r ?_) hA hN hO (fun r hr => ?_) hb hos)
 ·exact sub hr
 ·rcases List.mem_cons.mp hr with rfl | hr
  ·exact hp
  ·rcases List.mem_cons.mp hr with rfl | h
   ·exact hq
   ·exact hpl r h
theorem LSt.head3 {h₀ : Heap} {L : Addr} {m : Str → Option Value} {os : OsState} {news : List (Addr × Obj)} {s : Shared} {p q q2 : Addr × Obj} {oA oN oO : Obj} (F : Fr h₀ L s.heap m) (N : News h₀ L s.heap (p :: q :: q2 :: (531, oA) :: (763, oN) :: (815, oO) :: news)) (hA : TabOk oA) (hN : TabOk oN) (hO : TabOk oO) (hpl : ∀ p ∈ news, NF p.2) (hp : NF p.2) (hq : NF q.2) (hq2 : NF q2.2) (hb : AllBare s.gens) (hos : s.os = os) : LSt h₀ L m os (p :: q :: q2 :: news) s := by
 refine (LSt.mk2 oA oN oO F (fun r hr => N r ?_) hA hN hO (fun r hr => ?_) hb hos)
 ·exact sub hr
 ·rcases List.mem_cons.mp hr with rfl | hr
  ·exact hp
  ·rcases List.mem_cons.mp hr with rfl | hr
   ·exact hq
   ·rcases List.mem_cons.mp hr with rfl | h
    ·exact hq2
    ·exact hpl r h
local macro_rules | `(tactic| walk_at "none") => `(tactic| fail)
theorem asg12 {w : World} {mean : ExcName → Option Value} {mg mb : Str → Option Value} {news : List (Addr × Obj)} (C p1 mk : Addr) (n : Nat) (tn : Tok) (kp : Nat) (os : OsState)
  (dp un : Nat) (gd : Option (List Code)) (a : Addr) (cd : Value) (h₀ : Heap) (L : Addr) (m : Str → Option Value) (s : Shared) (Q : Unit → Shared → Prop) (E : Value → Shared → Prop)
  (S : LSt h₀ L m os news s) (hp : (p1, (⟨.type "tuple", none, .seq #[.ref mk, .int n tn] kp, #[]⟩ : Obj)) ∈ news)
  (hq : ∀ s', LSt h₀ L (fun y => if y = "size" then some (.int n tn) else if y = "made" then some (.ref mk) else m y) os news s' → Q () s') :
  wpAny (model pw w) (ktrTop dp un gd "law" lawScope.1 L a cd [("numbers", C)] []) (assign LB7.1.target (lawEnv L a cd C) (.ref p1)) Q E s := by
 delta LB7 lawScope
 dsimp only
 refine LSt.elim S fun F oA oN oO N hA hN hO hpl hb hos => ?_
 have hT : IsTup s.heap p1 #[.ref mk, .int n tn] := ⟨_, (N _ (el3 hp)).1, rfl, _, rfl⟩
 k_steps
 rename Fr _ _ _ _ => F1
 rename News _ _ _ _ => N1
 refine storeX_L F1 N1 (fun h2 F2 N2 => ?_) rfl rfl
 clear F1 N1
 k_steps
 refine storeX_L F2 N2 (fun h3 F3 N3 => ?_) rfl rfl
 clear F2 N2
 k_steps
 exact hq _ (LSt.mk2 oA oN oO F3 N3 hA hN hO hpl hb hos)
theorem body1 {w : World} {mean : ExcName → Option Value} {mg mb : Str → Option Value} {news : List (Addr × Obj)} (C tl ul fl : Addr) (fs : List Fld) (kf : Nat) (us vs : List (List Nat × Tok)) (kt kv : Nat) (os : OsState)
  (dp un : Nat) (gd : Option (List Code)) (a : Addr) (cd : Value) (A₀ : Around) (h₀ : Heap) (L : Addr) (m : Str → Option Value) (s : Shared) (Q : Flow → Shared → Prop) (E : Value → Shared → Prop)
  (B : Below A₀ h₀ [] h₀) (S : LSt h₀ L m os news s) (X : (K w.params).In h₀) (T : Top q0 (looseW q0 loose0) mean mg mb h₀)
  (hmt : m "texts" = some (.ref tl)) (htl : (tl, W.listOf (txs us).toArray kt) ∈ news) (hmu : m "told" = some (.ref ul)) (hul : (ul, W.listOf (txs vs).toArray kv) ∈ news)
  (hvs : vs.map (·.1) = (us.map (·.1)).map escL) (hxs : Texts (us.map (·.1))) (hn : us.length ≤ 8) (hn0 : us ≠ [])
  (hmf : m "fields" = some (.ref fl)) (hfl : (fl, W.listOf (fdVals fs).toArray kf) ∈ news) (hfs : FdsIn news fs) (ok : FdOk fs) (many : Nat) (tm : Tok) (hmm : m "many" = some (.int (many : Int) tm)) (hmany : fs.length = many) (hul' : us.length = many)
  (n : Nat) (tn : Tok) (hn7 : n ≤ 7) (hsz : m "size" = some (.int (n : Int) tn))
  (hd : dp + 60 < 500) (hu : un + 160 < 200)
  (hq : ∀ D s' n', news ⊆ n' → LSt h₀ L (fun y => if y = "full" then some (.ref D) else m y) os n' s' → (∃ k, (D, W.listOf (wx (fdVals fs) n).toArray k) ∈ n') → Q .next s') :
  wpAny (model pw w) (ktrTop dp un gd "law" lawScope.1 L a cd [("numbers", C)] []) (exec LB7.1.b1 (lawEnv L a cd C)) Q E s := by
 delta LB7 lawScope
 dsimp only
 refine LSt.elim S fun F oA oN oO N hA hN hO hpl hb hos => ?_
 have hne : fdVals fs ≠ [] := by simpa [fdVals] using ok.some
 k_steps
 refine unhold ?_
 refine KMa.mul (ws := (List.replicate 7 (fdVals fs)).flatten) F N (N.isList (el3 hfl)) (by decide) (by decide) (by have := ok.few; simp [fdVals]; lia) rfl (fun D h1 F1 N1 u' => ?_)
 clear F N
 k_steps
 refine unhold ?_
 refine slice_list F1 N1 (N1.isList (.head _)) .none (.int _ _) (fun h2 F2 N2 => ?_) (hsz := by rw [List.size_toArray, flat7_len, sizeLine_eq]; have := ok.few; simp [fdVals]; lia)
 clear F1 N1
 rw [pick_wx _ hne n hn7] at N2
 k_steps
 with_reducible rename Fr _ _ _ _ => F9
 with_reducible rename News _ _ _ _ => N9
 exact hq _ _ _ (fun p hp => .tail _ (.tail _ hp)) (LSt.head2 F9 N9 hA hN hO hpl (nf_list _ _) (nf_list _ _) hb hos) ⟨_, .head _⟩
theorem body2 {w : World} {mean : ExcName → Option Value} {mg mb : Str → Option Value} {news : List (Addr × Obj)} (C tl ul fl : Addr) (fs : List Fld) (kf : Nat) (us vs : List (List Nat × Tok)) (kt kv : Nat) (os : OsState)
  (dp un : Nat) (gd : Option (List Code)) (a : Addr) (cd : Value) (A₀ : Around) (h₀ : Heap) (L : Addr) (m : Str → Option Value) (s : Shared) (Q : Flow → Shared → Prop) (E : Value → Shared → Prop)
  (B : Below A₀ h₀ [] h₀) (S : LSt h₀ L m os news s) (X : (K w.params).In h₀) (T : Top q0 (looseW q0 loose0) mean mg mb h₀)
  (hmt : m "texts" = some (.ref tl)) (htl : (tl, W.listOf (txs us).toArray kt) ∈ news) (hmu : m "told" = some (.ref ul)) (hul : (ul, W.listOf (txs vs).toArray kv) ∈ news)
  (hvs : vs.map (·.1) = (us.map (·.1)).map escL) (hxs : Texts (us.map (·.1))) (hn : us.length ≤ 8) (hn0 : us ≠ [])
  (hmf : m "fields" = some (.ref fl)) (hfl : (fl, W.listOf (fdVals fs).toArray kf) ∈ news) (hfs : FdsIn news fs) (ok : FdOk fs) (many : Nat) (tm : Tok) (hmm : m "many" = some (.int (many : Int) tm)) (hmany : fs.length = many) (hul' : us.length = many)
  (n : Nat) (tn : Tok) (hn7 : n ≤ 7) (hsz : m "size" = some (.int (n : Int) tn))
  (hd : dp + 60 < 500) (hu : un + 160 < 200)
  (hq : ∀ D s' n', news ⊆ n' → LSt h₀ L (fun y => if y = "words" then some (.ref D) else m y) os n' s' → (∃ k, (D, (⟨.type "tuple", none, .seq (txs (wx us n)).toArray k, #[]⟩ : Obj)) ∈ n') → Q .next s') :
  wpAny (model pw w) (ktrTop dp un gd "law" lawScope.1 L a cd [("numbers", C)] []) (exec LB7.1.b2 (lawEnv L a cd C)) Q E s := by
 delta LB7 lawScope
 dsimp only
 refine LSt.elim S fun F oA oN oO N hA hN hO hpl hb hos => ?_
 have hne : txs us ≠ [] := by simpa [txs, strValues] using hn0
 have hl8 : (txs us).length ≤ 8 := by rw [txs_len, List.length_map]; exact hn
 k_steps
 refine unhold ?_
 refine KMa.mul (ws := (List.replicate 7 (txs us)).flatten) F N (N.isList (el3 htl)) (by decide) (by decide) (by show (txs us).length * 7 ≤ 256; lia) rfl (fun D h1 F1 N1 u' => ?_)
 clear F N
 k_steps
 refine unhold ?_
 refine slice_list F1 N1 (N1.isList (.head _)) .none (.int _ _) (fun h2 F2 N2 => ?_) (hsz := by rw [List.size_toArray, flat7_len, sizeLine_eq]; lia)
 clear F1 N1
 rw [pick_wx _ hne n hn7, wx_txs] at N2
 k_steps
 refine unhold ?_
 refine tupList F2 N2 (.head _) (by rw [v_size, wx_len hn0 hn7]; lia) (fun t h3 F3 N3 u' => ?_)
 clear F2 N2
 k_steps
 with_reducible rename Fr _ _ _ _ => F9
 with_reducible rename News _ _ _ _ => N9
 exact hq _ _ _ (fun p hp => .tail _ (.tail _ (.tail _ hp))) (LSt.head3 F9 N9 hA hN hO hpl (nf_tup _ _) (nf_list _ _) (nf_list _ _) hb hos) ⟨_, .head _⟩
theorem body3 {w : World} {mean : ExcName → Option Value} {mg mb : Str → Option Value} {news : List (Addr × Obj)} (C tl ul fl : Addr) (fs : List Fld) (kf : Nat) (us vs : List (List Nat × Tok)) (kt kv : Nat) (os : OsState)
  (dp un : Nat) (gd : Option (List Code)) (a : Addr) (cd : Value) (A₀ : Around) (h₀ : Heap) (L : Addr) (m : Str → Option Value) (s : Shared) (Q : Flow → Shared → Prop) (E : Value → Shared → Prop)
  (B : Below A₀ h₀ [] h₀) (S : LSt h₀ L m os news s) (X : (K w.params).In h₀) (T : Top q0 (looseW q0 loose0) mean mg mb h₀)
  (hmt : m "texts" = some (.ref tl)) (htl : (tl, W.listOf (txs us).toArray kt) ∈ news) (hmu : m "told" = some (.ref ul)) (hul : (ul, W.listOf (txs vs).toArray kv) ∈ news)
  (hvs : vs.map (·.1) = (us.map (·.1)).map escL) (hxs : Texts (us.map (·.1))) (hn : us.length ≤ 8) (hn0 : us ≠ [])
  (hmf : m "fields" = some (.ref fl)) (hfl : (fl, W.listOf (fdVals fs).toArray kf) ∈ news) (hfs : FdsIn news fs) (ok : FdOk fs) (many : Nat) (tm : Tok) (hmm : m "many" = some (.int (many : Int) tm)) (hmany : fs.length = many) (hul' : us.length = many)
  (n : Nat) (tn : Tok) (hn7 : n ≤ 7) (hsz : m "size" = some (.int (n : Int) tn))
  (hd : dp + 60 < 500) (hu : un + 160 < 200)
  (hq : ∀ t s' n', news ⊆ n' → LSt h₀ L (fun y => if y = "line" then some (.str (strOf (glue [59] (((wx us n).map (·.1)).map escL))) t) else m y) os n' s' → Q .next s') :
  wpAny (model pw w) (ktrTop dp un gd "law" lawScope.1 L a cd [("numbers", C)] []) (exec LB7.1.b3 (lawEnv L a cd C)) Q E s := by
 delta LB7 lawScope
 dsimp only
 refine LSt.elim S fun F oA oN oO N hA hN hO hpl hb hos => ?_
 have hv0 : vs ≠ [] := fun e => hn0 (by rw [e] at hvs; simpa using hvs.symm)
 have hvn : vs.length = us.length := by simpa using congrArg List.length hvs
 have hne : txs vs ≠ [] := by simpa [txs, strValues] using hv0
 have hl8 : (txs vs).length ≤ 8 := by rw [txs_len, List.length_map, hvn]; exact hn
 have hxw : Texts ((wx us n).map (·.1)) := fun l hl => hxs l (by rw [wx_map] at hl; exact wx_mem hl)
 have hw : (wx vs n).map (·.1) = ((wx us n).map (·.1)).map escL := by rw [wx_map, wx_map, wx_map, hvs]
 k_steps
 refine unhold ?_
 refine KMa.mul (ws := (List.replicate 7 (txs vs)).flatten) F N (N.isList (el3 hul)) (by decide) (by decide) (by show (txs vs).length * 7 ≤ 256; lia) rfl (fun D h1 F1 N1 u' => ?_)
 clear F N
 k_steps
 refine unhold ?_
 refine slice_list F1 N1 (N1.isList (.head _)) .none (.int _ _) (fun h2 F2 N2 => ?_) (hsz := by rw [List.size_toArray, flat7_len, sizeLine_eq]; lia)
 clear F1 N1
 rw [pick_wx _ hne n hn7, wx_txs] at N2
 k_steps
 refine unhold ?_
 rw [semi_is2]
 refine joinS (N2 _ (.head _)).1 (by rw [hw]; exact esc_total hxw (by rw [List.length_map, wx_len hn0 hn7]; lia)) (fun t3 k3 => ?_)
 rw [hw]
 k_steps
 with_reducible rename Fr _ _ _ _ => F9
 with_reducible rename News _ _ _ _ => N9
 exact hq _ _ _ (fun p hp => .tail _ (.tail _ hp)) (LSt.head2 F9 N9 hA hN hO hpl (nf_list _ _) (nf_list _ _) hb hos)
end
end
end
end
section
local macro_rules | `(tactic| walk_at "compareOp Eq ref ref") => `(tactic| (refine hold ?_))
section
local macro_rules | `(tactic| walk_at "binaryOp Add ref ref") => `(tactic| (refine hold ?_))
local macro_rules | `(tactic| walk_at "binaryOp Add str str") => `(tactic| (refine hold ?_))
local macro_rules | `(tactic| walk_at "subscriptTail Name Constant ref int") => `(tactic| (refine hold ?_))
local macro_rules | `(tactic| walk_at "subscriptTail Name Slice ref ref") => `(tactic| (refine hold ?_))
local macro_rules | `(tactic| walk_at "call builtin:len") => `(tactic| (refine hold ?_))
section
local macro_rules | `(tactic| walk_at "getMethod ref") => `(tactic| ((fail_if_success (with_reducible show wpAny _ _ (getMethod (Value.ref 801) _ _) _ _ _)); refine hold ?_))
local macro_rules | `(tactic| walk_at "getAttr ref") => `(tactic| ((fail_if_success (with_reducible show wpAny _ _ (getAttr (Value.ref 801) _ _) _ _ _)); refine hold ?_))
section
set_option tactic.hygienic true
theorem b_is : Str.ofString "b" = strOf [98] := by decide
theorem strOf_app (a b : List Nat) : strOf a ++ strOf b = strOf (a ++ b) := by show (⟨a.toArray ++ b.toArray⟩ : Str) = ⟨(a ++ b).toArray⟩; simp
theorem body0N {w : World} {mean : ExcName → Option Value} {mg mb : Str → Option Value} {news : List (Addr × Obj)} (C tl ul fl : Addr) (fs : List Fld) (kf : Nat) (us vs : List (List Nat × Tok)) (kt kv : Nat) (os : OsState)
  (dp un : Nat) (gd : Option (List Code)) (a : Addr) (cd : Value) (A₀ : Around) (h₀ : Heap) (L : Addr) (m : Str → Option Value) (s : Shared) (Q : Flow → Shared → Prop) (E : Value → Shared → Prop)
  (B : Below A₀ h₀ [] h₀) (S : LSt h₀ L m os news s) (X : (K w.params).In h₀) (T : Top q0 (looseW q0 loose0) mean mg mb h₀)
  (hmt : m "texts" = some (.ref tl)) (htl : (tl, W.listOf (txs us).toArray kt) ∈ news) (hmu : m "told" = some (.ref ul)) (hul : (ul, W.listOf (txs vs).toArray kv) ∈ news)
  (hvs : vs.map (·.1) = (us.map (·.1)).map escL) (hxs : Texts (us.map (·.1))) (hn : us.length ≤ 8) (hn0 : us ≠ [])
  (hmf : m "fields" = some (.ref fl)) (hfl : (fl, W.listOf (fdVals fs).toArray kf) ∈ news) (hfs : FdsIn news fs) (ok : FdOk fs) (many : Nat) (tm : Tok) (hmm : m "many" = some (.int (many : Int) tm)) (hmany : fs.length = many) (hul' : us.length = many)
  (n : Nat) (tn : Tok) (hn7 : n ≤ 7) (hn5 : n = 5) (hmk : m "made" = some (.ref 801)) (hsz : m "size" = some (.int (n : Int) tn))
  (hd : dp + 60 < 500) (hu : un + 160 < 200)
  (hq : ∀ s', LSt h₀ L m os news s' → Q .next s') :
  wpAny (model pw w) (ktrTop dp un gd "law" lawScope.1 L a cd [("numbers", C)] []) (exec LB7.1.b0 (lawEnv L a cd C)) Q E s := by
 delta LB7 lawScope
 dsimp only
 refine LSt.elim S fun F oA oN oO N hA hN hO hpl hb hos => ?_
 k_steps
 refine unhold ?_
 refine refN_L fl fs kf _ _ _ _ _ _ _ _ _ _ _ _ _ _ _ B (LSt.mk2 oA oN oO F N hA hN hO hpl hb hos) X T rfl hfl hfs ok (by lia) (by lia) (fun s2 S2 => ?_)
 clear F N
 refine LSt.elim S2 fun F2 oA2 oN2 oO2 N2 hA2 hN2 hO2 hpl2 hb2 hos2 => ?_
 by_cases h5 : fs.length = 5
 ·rw [show decide (fs.length ≠ 5) = false from by simp [h5]]
  k_steps
  ·rename_i hc
   have e : many = n := by lia
   rw [e] at hc
   exact absurd hc (by simp)
  ·exact hq _ S2
 ·rw [show decide (fs.length ≠ 5) = true from by simp [h5]]
  k_steps
  ·rename_i hc
   have e : ¬ (many : Int) = (n : Int) := by lia
   simp [e] at hc
  ·exact hq _ S2
theorem body4N {w : World} {mean : ExcName → Option Value} {mg mb : Str → Option Value} {news : List (Addr × Obj)} (C tl ul fl : Addr) (fs : List Fld) (kf : Nat) (us vs : List (List Nat × Tok)) (kt kv : Nat) (os : OsState)
  (dp un : Nat) (gd : Option (List Code)) (a : Addr) (cd : Value) (A₀ : Around) (h₀ : Heap) (L : Addr) (m : Str → Option Value) (s : Shared) (Q : Flow → Shared → Prop) (E : Value → Shared → Prop)
  (B : Below A₀ h₀ [] h₀) (S : LSt h₀ L m os news s) (X : (K w.params).In h₀) (T : Top q0 (looseW q0 loose0) mean mg mb h₀)
  (hmt : m "texts" = some (.ref tl)) (htl : (tl, W.listOf (txs us).toArray kt) ∈ news) (hmu : m "told" = some (.ref ul)) (hul : (ul, W.listOf (txs vs).toArray kv) ∈ news)
  (hvs : vs.map (·.1) = (us.map (·.1)).map escL) (hxs : Texts (us.map (·.1))) (hn : us.length ≤ 8) (hn0 : us ≠ [])
  (hmf : m "fields" = some (.ref fl)) (hfl : (fl, W.listOf (fdVals fs).toArray kf) ∈ news) (hfs : FdsIn news fs) (ok : FdOk fs) (many : Nat) (tm : Tok) (hmm : m "many" = some (.int (many : Int) tm)) (hmany : fs.length = many) (hul' : us.length = many)
  (n : Nat) (tn : Tok) (hn7 : n ≤ 7) (hn5 : n = 5) (hmk : m "made" = some (.ref 801)) (hsz : m "size" = some (.int (n : Int) tn))
  (hd : dp + 60 < 500) (hu : un + 160 < 200)
  (wt : Addr) (kw : Nat) (hmw : m "words" = some (.ref wt)) (hwt : (wt, (⟨.type "tuple", none, .seq (txs (wx us n)).toArray kw, #[]⟩ : Obj)) ∈ news)
  (hq : ∀ o s' n', news ⊆ n' → LSt h₀ L (fun y => if y = "one" then some (.ref o) else m y) os n' s' → NAt w n' o ((wx us n).map (·.1)) → Q .next s') :
  wpAny (model pw w) (ktrTop dp un gd "law" lawScope.1 L a cd [("numbers", C)] []) (exec LB7.1.b4 (lawEnv L a cd C)) Q E s := by
 delta LB7 lawScope
 dsimp only
 refine LSt.elim S fun F oA oN oO N hA hN hO hpl hb hos => ?_
 have hw5 : ((wx us n).map (·.1)).length = n := by rw [List.length_map, wx_len hn0 hn7]
 have hxw : Texts ((wx us n).map (·.1)) := fun l hl => hxs l (by rw [wx_map] at hl; exact wx_mem hl)
 k_steps
 refine unhold ?_
 refine newN_T wt _ kw _ _ _ _ _ _ _ _ _ _ _ _ _ _ _ B (LSt.mk2 oA oN oO F N hA hN hO hpl hb hos) X T rfl hwt hxw (by rw [wx_len hn0 hn7, hn5]) (by lia) (by lia) (fun o s2 n2 g2 S2 O2 => ?_)
 clear F N
 refine LSt.elim S2 fun F2 oA2 oN2 oO2 N2 hA2 hN2 hO2 hpl2 hb2 hos2 => ?_
 k_steps
 with_reducible rename Fr _ _ _ _ => F3
 with_reducible rename News _ _ _ _ => N3
 exact hq o _ n2 g2 (LSt.mk2 oA2 oN2 oO2 F3 N3 hA2 hN2 hO2 hpl2 hb2 hos2) O2
theorem body5N {w : World} {mean : ExcName → Option Value} {mg mb : Str → Option Value} {news : List (Addr × Obj)} (C tl ul fl : Addr) (fs : List Fld) (kf : Nat) (us vs : List (List Nat × Tok)) (kt kv : Nat) (os : OsState)
  (dp un : Nat) (gd : Option (List Code)) (a : Addr) (cd : Value) (A₀ : Around) (h₀ : Heap) (L : Addr) (m : Str → Option Value) (s : Shared) (Q : Flow → Shared → Prop) (E : Value → Shared → Prop)
  (B : Below A₀ h₀ [] h₀) (S : LSt h₀ L m os news s) (X : (K w.params).In h₀) (T : Top q0 (looseW q0 loose0) mean mg mb h₀)
  (hmt : m "texts" = some (.ref tl)) (htl : (tl, W.listOf (txs us).toArray kt) ∈ news) (hmu : m "told" = some (.ref ul)) (hul : (ul, W.listOf (txs vs).toArray kv) ∈ news)
  (hvs : vs.map (·.1) = (us.map (·.1)).map escL) (hxs : Texts (us.map (·.1))) (hn : us.length ≤ 8) (hn0 : us ≠ [])
  (hmf : m "fields" = some (.ref fl)) (hfl : (fl, W.listOf (fdVals fs).toArray kf) ∈ news) (hfs : FdsIn news fs) (ok : FdOk fs) (many : Nat) (tm : Tok) (hmm : m "many" = some (.int (many : Int) tm)) (hmany : fs.length = many) (hul' : us.length = many)
  (n : Nat) (tn : Tok) (hn7 : n ≤ 7) (hn5 : n = 5) (hmk : m "made" = some (.ref 801)) (hsz : m "size" = some (.int (n : Int) tn))
  (hd : dp + 60 < 500) (hu : un + 160 < 200)
  (wt o : Addr) (kw : Nat) (tl2 : Tok) (hmw : m "words" = some (.ref wt)) (hwt : (wt, (⟨.type "tuple", none, .seq (txs (wx us n)).toArray kw, #[]⟩ : Obj)) ∈ news)
  (hml : m "line" = some (.str (strOf (glue [59] (((wx us n).map (·.1)).map escL))) tl2)) (hmo : m "one" = some (.ref o)) (hO1 : NAt w news o ((wx us n).map (·.1)))
  (hq : ∀ s' n', news ⊆ n' → LSt h₀ L m os n' s' → Q .next s') :
  wpAny (model pw w) (ktrTop dp un gd "law" lawScope.1 L a cd [("numbers", C)] []) (exec LB7.1.b5 (lawEnv L a cd C)) Q E s := by
 delta LB7 lawScope
 dsimp only
 refine LSt.elim S fun F oA oN oO N hA hN hO hpl hb hos => ?_
 have hw5 : ((wx us n).map (·.1)).length = n := by rw [List.length_map, wx_len hn0 hn7]
 have hxw : Texts ((wx us n).map (·.1)) := fun l hl => hxs l (by rw [wx_map] at hl; exact wx_mem hl)
 obtain ⟨dx, D, dn, px, t1, t2, ts, hts, ho, hdx, hD⟩ := id hO1
 have hlen : (glue [59] (((wx us n).map (·.1)).map escL)).length ≤ 65536 := Nat.le_trans (glue_len 59 _) (esc_total hxw (by rw [List.length_map, wx_len hn0 hn7]; lia))
 have hne : (wx us n).map (·.1) ≠ [] := fun e => by rw [e] at hw5; simp at hw5; lia
 have hrt : fieldsOf 59 (glue [59] (((wx us n).map (·.1)).map escL)) = (wx us n).map (·.1) := split_glue (.inr rfl) _ hne
 have hts5 : ts.length = 5 := by have := congrArg List.length hts; simp only [List.length_map] at this; rw [this, wx_len hn0 hn7, hn5]
 k_steps
 refine unhold ?_
 refine method_inst (es := [ent w "fields" t1 (.ref D), ent w "params" t2 (.ref px)]) F X ⟨(N _ (el3 ho)).1, rfl, rfl, (N _ (el3 hdx)).1⟩ (by kernel_rfl) (by k_is) (by k_is) (by kernel_rfl) ?_
 k_steps
 refine unhold ?_
 refine n_ical o dx D dn px t1 t2 ts _ _ _ _ _ _ _ _ _ _ _ _ _ _ _ _ _ B F X N T rfl (el3 ho) (el3 hdx) (el3 hD) (by rw [hts]; exact hxw) (by lia) ?_ ?_ (fun tb h2 tk2 F2 N2 => ?_)
 ·lia
 ·lia
 clear F N
 rw [hts]
 k_steps
 refine unhold ?_
 refine enc_call (glue_ascii (by decide) hxw) hlen (fun t4 k4 => ?_)
 k_steps
 ·rename_i hne
  exact absurd hne (by simp)
 refine unhold ?_
 refine n_from _ _ _ _ _ _ _ _ _ _ _ _ _ _ _ _ _ _ _ B F2 X N2 T rfl hlen (by rw [hrt, hw5, hn5]) (by lia) (by lia) (fun D2 dn2 xs h3 tk3 F3 N3 hx3 u' => ?_)
 rw [hrt] at hx3
 have hxs5 : xs.length = 5 := by have := congrArg List.length hx3; simp only [List.length_map] at this; rw [this, wx_len hn0 hn7, hn5]
 clear F2 N2
 k_steps
 refine unhold ?_
 refine tuple_sub (K := K w.params) (C := 750) (ob := tupSub 750 dn2 (txs xs)) (vs := txs xs) rfl F3 N3 (X.keeps F3.keep) (N3 _ (.head _)).1 rfl rfl (by rw [txs_len, List.length_map]; lia) (by k_is) (by k_is) (by k_is) (fun t h4 tk4 F4 N4 => ?_)
 clear F3 N3
 k_steps
 refine unhold ?_
 have v1 := strsAt_txs xs
 rw [hx3] at v1
 have v2 := strsAt_txs (wx us n)
 refine rn_tuples (ls := (wx us n).map (·.1)) (ms := (wx us n).map (·.1)) ⟨_, (N4 _ (.head _)).1, rfl, _, rfl⟩ ⟨_, (N4 _ (.tail _ (.tail _ (.tail _ (el3 hwt))))).1, rfl, _, rfl⟩ v1.1 v2.1 ?_ (fun j h1 h2 => el_SS v1 v2 j h1 h2) (congrArg not (decide_eq_true rfl)) _ _ _ _ ?_
 ·exact lt_cl (show un < 200 by lia)
 k_steps
 refine unhold ?_
 have S4 : ∀ tk, LSt h₀ L m os ((t, ⟨.type "tuple", none, .seq (txs xs).toArray 0, #[]⟩) :: (D2, tupSub 750 dn2 (txs xs)) :: (dn2, dictOf [] 0) :: news) { s with heap := h4, toks := tk } := fun tk => LSt.head3 F4 N4 hA hN hO hpl (nf_tup _ _) (nf_sub _ _ _) (nf_dict _ _) hb hos
 refine newN_S _ _ _ _ _ _ _ _ _ _ _ _ _ _ _ _ _ B (S4 _) X T rfl hlen (by rw [hrt, hw5, hn5]) (by lia) (by lia) (fun o6 s6 n6 g6 S6 O6 => ?_)
 clear F4 N4
 rw [hrt] at O6
 refine LSt.elim S6 fun F6 oA6 oN6 oO6 N6 hA6 hN6 hO6 hpl6 hb6 hos6 => ?_
 obtain ⟨dx6, D6, dn6, px6, t16, t26, ts6, hts6, ho6, hdx6, hD6⟩ := id O6
 have hts65 : ts6.length = 5 := by have := congrArg List.length hts6; simp only [List.length_map] at this; rw [this, wx_len hn0 hn7, hn5]
 k_steps
 refine unhold ?_
 refine getFld (es := [ent w "fields" t16 (.ref D6), ent w "params" t26 (.ref px6)]) (X.keeps F6.keep) (N6 _ (el3 ho6)).1 (N6 _ (el3 hdx6)).1 (by kernel_rfl) (by kernel_rfl) (by k_is) (v := .ref D6) (by kernel_rfl) rfl ?_
 k_steps
 refine unhold ?_
 refine tuple_sub (K := K w.params) (C := 750) (ob := tupSub 750 dn6 (txs ts6)) (vs := txs ts6) rfl F6 N6 (X.keeps F6.keep) (N6 _ (el3 hD6)).1 rfl rfl (by rw [txs_len, List.length_map]; lia) (by k_is) (by k_is) (by k_is) (fun t7 h7 tk7 F7 N7 => ?_)
 clear F6 N6
 k_steps
 refine unhold ?_
 have v3 := strsAt_txs ts6
 rw [hts6] at v3
 refine rn_tuples (ls := (wx us n).map (·.1)) (ms := (wx us n).map (·.1)) ⟨_, (N7 _ (.head _)).1, rfl, _, rfl⟩ ⟨_, (N7 _ (.tail _ (el3 (g6 (.tail _ (.tail _ (.tail _ hwt))))))).1, rfl, _, rfl⟩ v3.1 v2.1 ?_ (fun j h1 h2 => el_SS v3 v2 j h1 h2) (congrArg not (decide_eq_true rfl)) _ _ _ _ ?_
 ·exact lt_cl (show un < 200 by lia)
 k_steps
 exact hq _ _ (fun p hp => .tail _ (g6 (.tail _ (.tail _ (.tail _ hp))))) (LSt.head1 F7 N7 hA6 hN6 hO6 hpl6 (nf_tup _ _) hb6 hos6)
theorem body6N {w : World} {mean : ExcName → Option Value} {mg mb : Str → Option Value} {news : List (Addr × Obj)} (C tl ul fl : Addr) (fs : List Fld) (kf : Nat) (us vs : List (List Nat × Tok)) (kt kv : Nat) (os : OsState)
  (dp un : Nat) (gd : Option (List Code)) (a : Addr) (cd : Value) (A₀ : Around) (h₀ : Heap) (L : Addr) (m : Str → Option Value) (s : Shared) (Q : Flow → Shared → Prop) (E : Value → Shared → Prop)
  (B : Below A₀ h₀ [] h₀) (S : LSt h₀ L m os news s) (X : (K w.params).In h₀) (T : Top q0 (looseW q0 loose0) mean mg mb h₀)
  (hmt : m "texts" = some (.ref tl)) (htl : (tl, W.listOf (txs us).toArray kt) ∈ news) (hmu : m "told" = some (.ref ul)) (hul : (ul, W.listOf (txs vs).toArray kv) ∈ news)
  (hvs : vs.map (·.1) = (us.map (·.1)).map escL) (hxs : Texts (us.map (·.1))) (hn : us.length ≤ 8) (hn0 : us ≠ [])
  (hmf : m "fields" = some (.ref fl)) (hfl : (fl, W.listOf (fdVals fs).toArray kf) ∈ news) (hfs : FdsIn news fs) (ok : FdOk fs) (many : Nat) (tm : Tok) (hmm : m "many" = some (.int (many : Int) tm)) (hmany : fs.length = many) (hul' : us.length = many)
  (n : Nat) (tn : Tok) (hn7 : n ≤ 7) (hn5 : n = 5) (hmk : m "made" = some (.ref 801)) (hsz : m "size" = some (.int (n : Int) tn))
  (hd : dp + 60 < 500) (hu : un + 160 < 200)
  (wt o fu : Addr) (kw kfu : Nat) (tl2 : Tok) (hmw : m "words" = some (.ref wt)) (hwt : (wt, (⟨.type "tuple", none, .seq (txs (wx us n)).toArray kw, #[]⟩ : Obj)) ∈ news)
  (hml : m "line" = some (.str (strOf (glue [59] (((wx us n).map (·.1)).map escL))) tl2)) (hmo : m "one" = some (.ref o)) (hO1 : NAt w news o ((wx us n).map (·.1)))
  (hmfu : m "full" = some (.ref fu)) (hfu : (fu, W.listOf (wx (fdVals fs) n).toArray kfu) ∈ news) (hsh : ∀ l ∈ us.map (·.1), l.length ≤ 1000)
  (hq : ∀ s' n', news ⊆ n' → LSt h₀ L m os n' s' → Q .next s') :
  wpAny (model pw w) (ktrTop dp un gd "law" lawScope.1 L a cd [("numbers", C)] []) (exec LB7.1.b6 (lawEnv L a cd C)) Q E s := by
 delta LB7 lawScope
 dsimp only
 refine LSt.elim S fun F oA oN oO N hA hN hO hpl hb hos => ?_
 have hw5 : ((wx us n).map (·.1)).length = n := by rw [List.length_map, wx_len hn0 hn7]
 have hxw : Texts ((wx us n).map (·.1)) := fun l hl => hxs l (by rw [wx_map] at hl; exact wx_mem hl)
 have hlen : (glue [59] (((wx us n).map (·.1)).map escL)).length ≤ 65536 := Nat.le_trans (glue_len 59 _) (esc_total hxw (by rw [List.length_map, wx_len hn0 hn7]; lia))
 have hne : (wx us n).map (·.1) ≠ [] := fun e => by rw [e] at hw5; simp at hw5; lia
 have hrt : fieldsOf 59 (glue [59] (((wx us n).map (·.1)).map escL)) = (wx us n).map (·.1) := split_glue (.inr rfl) _ hne
 have hwn : (wx us n).length = n := wx_len hn0 hn7
 k_steps
 refine unhold ?_
 refine newN_S _ _ _ _ _ _ _ _ _ _ _ _ _ _ _ _ _ B (LSt.mk2 oA oN oO F N hA hN hO hpl hb hos) X T rfl hlen (by rw [hrt, hw5, hn5]) (by lia) (by lia) (fun o6 s6 n6 g6 S6 O6 => ?_)
 clear F N
 rw [hrt] at O6
 refine LSt.elim S6 fun F6 oA6 oN6 oO6 N6 hA6 hN6 hO6 hpl6 hb6 hos6 => ?_
 k_steps
 refine unhold ?_
 refine eqN_L o o6 _ _ _ _ _ _ _ _ _ _ _ _ _ _ _ _ _ B (LSt.mk2 oA6 oN6 oO6 F6 N6 hA6 hN6 hO6 hpl6 hb6 hos6) X T rfl (hO1.mono g6) O6 (by lia) (by lia) (decide_eq_true rfl) (fun s7 S7 => ?_)
 clear F6 N6
 refine LSt.elim S7 fun F7 oA7 oN7 oO7 N7 hA7 hN7 hO7 hpl7 hb7 hos7 => ?_
 k_steps
 refine unhold ?_
 refine slice_tuple_from (a := 1) F7 N7 ⟨_, (N7 _ (el3 (g6 hwt))).1, rfl, _, rfl⟩ (by decide) (by rw [v_size, hwn]; lia) (fun h8 F8 N8 => ?_) (hsz := by rw [v_size, hwn, sizeLine_eq]; lia)
 clear F7 N7
 rw [show (List.drop 1 (txs (wx us n)).toArray.toList).toArray = (txs ((wx us n).drop 1)).toArray from by simp [txs, strValues]] at N8
 k_steps
 refine unhold ?_
 obtain ⟨u0, ws', hws⟩ : ∃ u0 ws', wx us n = u0 :: ws' := by
  cases hw : wx us n with
  | nil => rw [hw] at hwn; simp at hwn; lia
  | cons u0 ws' => exact ⟨u0, ws', rfl⟩
 refine item_tuple (items := (txs (wx us n)).toArray) (j := 0) (x := .str (strOf u0.1) u0.2) ⟨_, (N8 _ (.tail _ (el3 (g6 hwt)))).1, rfl, _, rfl⟩ (by decide) (by decide) (by rw [hws]; simp [seqIndex?, txs, strValues]) (by rw [hws]; simp [txs, strValues]) ?_
 have hu0 : u0.1 ∈ us.map (·.1) := by
  have : u0 ∈ wx us n := by rw [hws]; exact .head _
  exact List.mem_map_of_mem (wx_mem this)
 have hl0 := hsh _ hu0
 have hxb : ∀ tk : Tok, Texts (List.map (fun p : List Nat × Tok => p.1) ((wx us n).drop 1 ++ [(u0.1 ++ [98], tk)])) := fun tk l hl => by
  rw [List.map_append, List.mem_append] at hl
  rcases hl with hl | hl
  ·obtain ⟨q, hq1, rfl⟩ := List.mem_map.mp hl
   exact hxw _ (List.mem_map_of_mem (List.mem_of_mem_drop hq1))
  ·rcases List.mem_singleton.mp hl with rfl
   refine ⟨?_, fun c hc => ?_⟩
   ·show (u0.1 ++ [98]).length ≤ 1024
    rw [List.length_append]; simp; lia
   ·rcases List.mem_append.mp hc with hc | hc
    ·exact (hxs _ hu0).2 c hc
    ·rcases List.mem_singleton.mp hc with rfl
     decide
 have hlb : ∀ tk : Tok, ((wx us n).drop 1 ++ [(u0.1 ++ [98], tk)]).length = n := fun tk => by rw [List.length_append, List.length_drop, hwn]; simp; lia
 have hneb : ∀ tk : Tok, ¬ ((wx us n).map (·.1) = List.map (fun p : List Nat × Tok => p.1) ((wx us n).drop 1 ++ [(u0.1 ++ [98], tk)])) := fun tk e => by
  rw [hws] at e
  have := congrArg (fun l : List (List Nat) => (l.map List.length).sum) e
  simp at this
  lia
 k_steps
 refine unhold ?_
 rw [b_is]
 refine add_str (fun t9 k9 => ?_) (hsz := by rw [len_strOf, len_strOf, sizeLine_eq]; simp; lia)
 rw [strOf_app]
 k_steps
 refine unhold ?_
 with_reducible rename Fr _ _ _ _ => F9
 with_reducible rename News _ _ _ _ => N9
 refine add_tuples (vs := txs ((wx us n).drop 1)) (ws := [.str (strOf (u0.1 ++ [98])) t9]) F9 N9 ⟨_, (N9 _ (.tail _ (.head _))).1, rfl, _, rfl⟩ ⟨_, (N9 _ (.head _)).1, rfl, _, rfl⟩ (fun e => ?_) (fun u' e => ?_) (fun u' u' h10 F10 N10 => ?_) (hsz := by rw [txs_len, List.length_map, List.length_drop, sizeLine_eq]; simp; lia)
 ·have := congrArg List.length e
  rw [txs_len, List.length_map, List.length_drop, hwn] at this
  simp at this
  lia
 ·cases e
 rw [txs_snoc] at N10
 clear F9 N9
 k_steps
 refine unhold ?_
 refine newN_T _ ((wx us n).drop 1 ++ [(u0.1 ++ [98], t9)]) 0 _ _ _ _ _ _ _ _ _ _ _ _ _ _ _ B (LSt.head3 F10 N10 hA7 hN7 hO7 hpl7 (nf_tup _ _) (nf_tup _ _) (nf_tup _ _) hb7 hos7) X T rfl (.head _) (hxb t9) (by rw [hlb, hn5]) (by lia) (by lia) (fun o11 s11 n11 g11 S11 O11 => ?_)
 clear F10 N10
 refine LSt.elim S11 fun F11 oA11 oN11 oO11 N11 hA11 hN11 hO11 hpl11 hb11 hos11 => ?_
 k_steps
 refine unhold ?_
 refine eqN_L o o11 _ _ _ _ _ _ _ _ _ _ _ _ _ _ _ _ _ B (LSt.mk2 oA11 oN11 oO11 F11 N11 hA11 hN11 hO11 hpl11 hb11 hos11) X T rfl ((hO1.mono g6).mono fun p hp => g11 (el3 hp)) O11 (by lia) (by lia) (decide_eq_false (hneb t9)) (fun s12 S12 => ?_)
 clear F11 N11
 refine LSt.elim S12 fun F12 oA12 oN12 oO12 N12 hA12 hN12 hO12 hpl12 hb12 hos12 => ?_
 obtain ⟨dx, D, dn, px, t1, t2, ts, hts, ho, hdx, hD⟩ := hO1.mono fun p hp => g11 (el3 (g6 hp))
 have hts5 : ts.length = n := by have := congrArg List.length hts; simp only [List.length_map] at this; rw [this, hwn]
 have hfn : (wx (fdVals fs) n).length = n := wx_len (by simpa [fdVals] using ok.some) hn7
 k_steps
 refine unhold ?_
 refine len_list (N12.isList (el3 (g11 (el3 (g6 hfu))))) (by rw [List.size_toArray, hfn]; lia) ?_
 rw [List.size_toArray, hfn]
 k_steps
 refine unhold ?_
 refine getFld (es := [ent w "fields" t1 (.ref D), ent w "params" t2 (.ref px)]) (X.keeps F12.keep) (N12 _ (el3 ho)).1 (N12 _ (el3 hdx)).1 (by kernel_rfl) (by kernel_rfl) (by k_is) (v := .ref D) (by kernel_rfl) rfl ?_
 k_steps
 refine unhold ?_
 refine len_sub (K := K w.params) (C := 750) (ob := tupSub 750 dn (txs ts)) (items := (txs ts).toArray) (X.keeps F12.keep) (N12 _ (el3 hD)).1 rfl rfl (by rw [v_size, hts5]; lia) (by k_is) (by k_is) (fun t13 k13 => ?_)
 rw [v_size, hts5]
 k_steps
 ·rename_i hc
  exact absurd hc (by simp)
 exact hq _ n11 (fun p hp => g11 (el3 (g6 hp))) (LSt.mk2 oA12 oN12 oO12 F12 N12 hA12 hN12 hO12 hpl12 hb12 hos12)
end
end
section
local macro_rules | `(tactic| walk_at "getMethod ref") => `(tactic| ((fail_if_success (with_reducible show wpAny _ _ (getMethod (Value.ref 569) _ _) _ _ _)); refine hold ?_))
local macro_rules | `(tactic| walk_at "getAttr ref") => `(tactic| ((fail_if_success (with_reducible show wpAny _ _ (getAttr (Value.ref 569) _ _) _ _ _)); refine hold ?_))
section
set_option tactic.hygienic true
local macro_rules | `(tactic| walk_at "none") => `(tactic| fail)
theorem body0A {w : World} {mean : ExcName → Option Value} {mg mb : Str → Option Value} {news : List (Addr × Obj)} (C tl ul fl : Addr) (fs : List Fld) (kf : Nat) (us vs : List (List Nat × Tok)) (kt kv : Nat) (os : OsState)
  (dp un : Nat) (gd : Option (List Code)) (a : Addr) (cd : Value) (A₀ : Around) (h₀ : Heap) (L : Addr) (m : Str → Option Value) (s : Shared) (Q : Flow → Shared → Prop) (E : Value → Shared → Prop)
  (B : Below A₀ h₀ [] h₀) (S : LSt h₀ L m os news s) (X : (K w.params).In h₀) (T : Top q0 (looseW q0 loose0) mean mg mb h₀)
  (hmt : m "texts" = some (.ref tl)) (htl : (tl, W.listOf (txs us).toArray kt) ∈ news) (hmu : m "told" = some (.ref ul)) (hul : (ul, W.listOf (txs vs).toArray kv) ∈ news)
  (hvs : vs.map (·.1) = (us.map (·.1)).map escL) (hxs : Texts (us.map (·.1))) (hn : us.length ≤ 8) (hn0 : us ≠ [])
  (hmf : m "fields" = some (.ref fl)) (hfl : (fl, W.listOf (fdVals fs).toArray kf) ∈ news) (hfs : FdsIn news fs) (ok : FdOk fs) (many : Nat) (tm : Tok) (hmm : m "many" = some (.int (many : Int) tm)) (hmany : fs.length = many) (hul' : us.length = many)
  (n : Nat) (tn : Tok) (hn7 : n ≤ 7) (hn5 : n = 7) (hmk : m "made" = some (.ref 569)) (hsz : m "size" = some (.int (n : Int) tn))
  (hd : dp + 60 < 500) (hu : un + 160 < 200)
  (hq : ∀ s', LSt h₀ L m os news s' → Q .next s') :
  wpAny (model pw w) (ktrTop dp un gd "law" lawScope.1 L a cd [("numbers", C)] []) (exec LB7.1.b0 (lawEnv L a cd C)) Q E s := by
 delta LB7 lawScope
 dsimp only
 refine LSt.elim S fun F oA oN oO N hA hN hO hpl hb hos => ?_
 k_steps
 refine unhold ?_
 refine refA_L fl fs kf _ _ _ _ _ _ _ _ _ _ _ _ _ _ _ B (LSt.mk2 oA oN oO F N hA hN hO hpl hb hos) X T rfl hfl hfs ok (by lia) (by lia) (fun s2 S2 => ?_)
 clear F N
 refine LSt.elim S2 fun F2 oA2 oN2 oO2 N2 hA2 hN2 hO2 hpl2 hb2 hos2 => ?_
 by_cases h5 : fs.length = 7
 ·rw [show decide (fs.length ≠ 7) = false from by simp [h5]]
  k_steps
  ·rename_i hc
   have e : many = n := by lia
   rw [e] at hc
   exact absurd hc (by simp)
  ·exact hq _ S2
 ·rw [show decide (fs.length ≠ 7) = true from by simp [h5]]
  k_steps
  ·rename_i hc
   have e : ¬ (many : Int) = (n : Int) := by lia
   simp [e] at hc
  ·exact hq _ S2
theorem body4A {w : World} {mean : ExcName → Option Value} {mg mb : Str → Option Value} {news : List (Addr × Obj)} (C tl ul fl : Addr) (fs : List Fld) (kf : Nat) (us vs : List (List Nat × Tok)) (kt kv : Nat) (os : OsState)
  (dp un : Nat) (gd : Option (List Code)) (a : Addr) (cd : Value) (A₀ : Around) (h₀ : Heap) (L : Addr) (m : Str → Option Value) (s : Shared) (Q : Flow → Shared → Prop) (E : Value → Shared → Prop)
  (B : Below A₀ h₀ [] h₀) (S : LSt h₀ L m os news s) (X : (K w.params).In h₀) (T : Top q0 (looseW q0 loose0) mean mg mb h₀)
  (hmt : m "texts" = some (.ref tl)) (htl : (tl, W.listOf (txs us).toArray kt) ∈ news) (hmu : m "told" = some (.ref ul)) (hul : (ul, W.listOf (txs vs).toArray kv) ∈ news)
  (hvs : vs.map (·.1) = (us.map (·.1)).map escL) (hxs : Texts (us.map (·.1))) (hn : us.length ≤ 8) (hn0 : us ≠ [])
  (hmf : m "fields" = some (.ref fl)) (hfl : (fl, W.listOf (fdVals fs).toArray kf) ∈ news) (hfs : FdsIn news fs) (ok : FdOk fs) (many : Nat) (tm : Tok) (hmm : m "many" = some (.int (many : Int) tm)) (hmany : fs.length = many) (hul' : us.length = many)
  (n : Nat) (tn : Tok) (hn7 : n ≤ 7) (hn5 : n = 7) (hmk : m "made" = some (.ref 569)) (hsz : m "size" = some (.int (n : Int) tn))
  (hd : dp + 60 < 500) (hu : un + 160 < 200)
  (wt : Addr) (kw : Nat) (hmw : m "words" = some (.ref wt)) (hwt : (wt, (⟨.type "tuple", none, .seq (txs (wx us n)).toArray kw, #[]⟩ : Obj)) ∈ news)
  (hq : ∀ o s' n', news ⊆ n' → LSt h₀ L (fun y => if y = "one" then some (.ref o) else m y) os n' s' → AAt w n' o ((wx us n).map (·.1)) → Q .next s') :
  wpAny (model pw w) (ktrTop dp un gd "law" lawScope.1 L a cd [("numbers", C)] []) (exec LB7.1.b4 (lawEnv L a cd C)) Q E s := by
 delta LB7 lawScope
 dsimp only
 refine LSt.elim S fun F oA oN oO N hA hN hO hpl hb hos => ?_
 have hw5 : ((wx us n).map (·.1)).length = n := by rw [List.length_map, wx_len hn0 hn7]
 have hxw : Texts ((wx us n).map (·.1)) := fun l hl => hxs l (by rw [wx_map] at hl; exact wx_mem hl)
 k_steps
 refine unhold ?_
 refine newA_T wt _ kw _ _ _ _ _ _ _ _ _ _ _ _ _ _ _ B (LSt.mk2 oA oN oO F N hA hN hO hpl hb hos) X T rfl hwt hxw (by rw [wx_len hn0 hn7, hn5]) (by lia) (by lia) (fun o s2 n2 g2 S2 O2 => ?_)
 clear F N
 refine LSt.elim S2 fun F2 oA2 oN2 oO2 N2 hA2 hN2 hO2 hpl2 hb2 hos2 => ?_
 k_steps
 with_reducible rename Fr _ _ _ _ => F3
 with_reducible rename News _ _ _ _ => N3
 exact hq o _ n2 g2 (LSt.mk2 oA2 oN2 oO2 F3 N3 hA2 hN2 hO2 hpl2 hb2 hos2) O2
theorem body5A {w : World} {mean : ExcName → Option Value} {mg mb : Str → Option Value} {news : List (Addr × Obj)} (C tl ul fl : Addr) (fs : List Fld) (kf : Nat) (us vs : List (List Nat × Tok)) (kt kv : Nat) (os : OsState)
  (dp un : Nat) (gd : Option (List Code)) (a : Addr) (cd : Value) (A₀ : Around) (h₀ : Heap) (L : Addr) (m : Str → Option Value) (s : Shared) (Q : Flow → Shared → Prop) (E : Value → Shared → Prop)
  (B : Below A₀ h₀ [] h₀) (S : LSt h₀ L m os news s) (X : (K w.params).In h₀) (T : Top q0 (looseW q0 loose0) mean mg mb h₀)
  (hmt : m "texts" = some (.ref tl)) (htl : (tl, W.listOf (txs us).toArray kt) ∈ news) (hmu : m "told" = some (.ref ul)) (hul : (ul, W.listOf (txs vs).toArray kv) ∈ news)
  (hvs : vs.map (·.1) = (us.map (·.1)).map escL) (hxs : Texts (us.map (·.1))) (hn : us.length ≤ 8) (hn0 : us ≠ [])
  (hmf : m "fields" = some (.ref fl)) (hfl : (fl, W.listOf (fdVals fs).toArray kf) ∈ news) (hfs : FdsIn news fs) (ok : FdOk fs) (many : Nat) (tm : Tok) (hmm : m "many" = some (.int (many : Int) tm)) (hmany : fs.length = many) (hul' : us.length = many)
  (n : Nat) (tn : Tok) (hn7 : n ≤ 7) (hn5 : n = 7) (hmk : m "made" = some (.ref 569)) (hsz : m "size" = some (.int (n : Int) tn))
  (hd : dp + 60 < 500) (hu : un + 160 < 200)
  (wt o : Addr) (kw : Nat) (tl2 : Tok) (hmw : m "words" = some (.ref wt)) (hwt : (wt, (⟨.type "tuple", none, .seq (txs (wx us n)).toArray kw, #[]⟩ : Obj)) ∈ news)
  (hml : m "line" = some (.str (strOf (glue [59] (((wx us n).map (·.1)).map escL))) tl2)) (hmo : m "one" = some (.ref o)) (hO1 : AAt w news o ((wx us n).map (·.1)))
  (hq : ∀ s' n', news ⊆ n' → LSt h₀ L m os n' s' → Q .next s') :
  wpAny (model pw w) (ktrTop dp un gd "law" lawScope.1 L a cd [("numbers", C)] []) (exec LB7.1.b5 (lawEnv L a cd C)) Q E s := by
 delta LB7 lawScope
 dsimp only
 refine LSt.elim S fun F oA oN oO N hA hN hO hpl hb hos => ?_
 have hw5 : ((wx us n).map (·.1)).length = n := by rw [List.length_map, wx_len hn0 hn7]
 have hxw : Texts ((wx us n).map (·.1)) := fun l hl => hxs l (by rw [wx_map] at hl; exact wx_mem hl)
 obtain ⟨dx, D, dn, px, t1, t2, ts, hts, ho, hdx, hD⟩ := id hO1
 have hlen : (glue [59] (((wx us n).map (·.1)).map escL)).length ≤ 65536 := Nat.le_trans (glue_len 59 _) (esc_total hxw (by rw [List.length_map, wx_len hn0 hn7]; lia))
 have hne : (wx us n).map (·.1) ≠ [] := fun e => by rw [e] at hw5; simp at hw5; lia
 have hrt : fieldsOf 59 (glue [59] (((wx us n).map (·.1)).map escL)) = (wx us n).map (·.1) := split_glue (.inr rfl) _ hne
 have hts5 : ts.length = 7 := by have := congrArg List.length hts; simp only [List.length_map] at this; rw [this, wx_len hn0 hn7, hn5]
 k_steps
 refine unhold ?_
 refine method_inst (es := [ent w "fields" t1 (.ref D), ent w "params" t2 (.ref px)]) F X ⟨(N _ (el3 ho)).1, rfl, rfl, (N _ (el3 hdx)).1⟩ (by kernel_rfl) (by k_is) (by k_is) (by kernel_rfl) ?_
 k_steps
 refine unhold ?_
 refine adr_ical o dx D dn px t1 t2 ts _ _ _ _ _ _ _ _ _ _ _ _ _ _ _ _ _ B F X N T rfl (el3 ho) (el3 hdx) (el3 hD) (by rw [hts]; exact hxw) (by lia) ?_ ?_ (fun tb h2 tk2 F2 N2 => ?_)
 ·lia
 ·lia
 clear F N
 rw [hts]
 k_steps
 refine unhold ?_
 refine enc_call (glue_ascii (by decide) hxw) hlen (fun t4 k4 => ?_)
 k_steps
 ·rename_i hne
  exact absurd hne (by simp)
 refine unhold ?_
 refine adr_from _ _ _ _ _ _ _ _ _ _ _ _ _ _ _ _ _ _ _ B F2 X N2 T rfl hlen (by rw [hrt, hw5, hn5]) (by lia) (by lia) (fun D2 dn2 xs h3 tk3 F3 N3 hx3 u' => ?_)
 rw [hrt] at hx3
 have hxs5 : xs.length = 7 := by have := congrArg List.length hx3; simp only [List.length_map] at this; rw [this, wx_len hn0 hn7, hn5]
 clear F2 N2
 k_steps
 refine unhold ?_
 refine tuple_sub (K := K w.params) (C := 518) (ob := tupSub 518 dn2 (txs xs)) (vs := txs xs) rfl F3 N3 (X.keeps F3.keep) (N3 _ (.head _)).1 rfl rfl (by rw [txs_len, List.length_map]; lia) (by k_is) (by k_is) (by k_is) (fun t h4 tk4 F4 N4 => ?_)
 clear F3 N3
 k_steps
 refine unhold ?_
 have v1 := strsAt_txs xs
 rw [hx3] at v1
 have v2 := strsAt_txs (wx us n)
 refine rn_tuples (ls := (wx us n).map (·.1)) (ms := (wx us n).map (·.1)) ⟨_, (N4 _ (.head _)).1, rfl, _, rfl⟩ ⟨_, (N4 _ (.tail _ (.tail _ (.tail _ (el3 hwt))))).1, rfl, _, rfl⟩ v1.1 v2.1 ?_ (fun j h1 h2 => el_SS v1 v2 j h1 h2) (congrArg not (decide_eq_true rfl)) _ _ _ _ ?_
 ·exact lt_cl (show un < 200 by lia)
 k_steps
 refine unhold ?_
 have S4 : ∀ tk, LSt h₀ L m os ((t, ⟨.type "tuple", none, .seq (txs xs).toArray 0, #[]⟩) :: (D2, tupSub 518 dn2 (txs xs)) :: (dn2, dictOf [] 0) :: news) { s with heap := h4, toks := tk } := fun tk => LSt.head3 F4 N4 hA hN hO hpl (nf_tup _ _) (nf_sub _ _ _) (nf_dict _ _) hb hos
 refine newA_S _ _ _ _ _ _ _ _ _ _ _ _ _ _ _ _ _ B (S4 _) X T rfl hlen (by rw [hrt, hw5, hn5]) (by lia) (by lia) (fun o6 s6 n6 g6 S6 O6 => ?_)
 clear F4 N4
 rw [hrt] at O6
 refine LSt.elim S6 fun F6 oA6 oN6 oO6 N6 hA6 hN6 hO6 hpl6 hb6 hos6 => ?_
 obtain ⟨dx6, D6, dn6, px6, t16, t26, ts6, hts6, ho6, hdx6, hD6⟩ := id O6
 have hts65 : ts6.length = 7 := by have := congrArg List.length hts6; simp only [List.length_map] at this; rw [this, wx_len hn0 hn7, hn5]
 k_steps
 refine unhold ?_
 refine getFld (es := [ent w "fields" t16 (.ref D6), ent w "params" t26 (.ref px6)]) (X.keeps F6.keep) (N6 _ (el3 ho6)).1 (N6 _ (el3 hdx6)).1 (by kernel_rfl) (by kernel_rfl) (by k_is) (v := .ref D6) (by kernel_rfl) rfl ?_
 k_steps
 refine unhold ?_
 refine tuple_sub (K := K w.params) (C := 518) (ob := tupSub 518 dn6 (txs ts6)) (vs := txs ts6) rfl F6 N6 (X.keeps F6.keep) (N6 _ (el3 hD6)).1 rfl rfl (by rw [txs_len, List.length_map]; lia) (by k_is) (by k_is) (by k_is) (fun t7 h7 tk7 F7 N7 => ?_)
 clear F6 N6
 k_steps
 refine unhold ?_
 have v3 := strsAt_txs ts6
 rw [hts6] at v3
 refine rn_tuples (ls := (wx us n).map (·.1)) (ms := (wx us n).map (·.1)) ⟨_, (N7 _ (.head _)).1, rfl, _, rfl⟩ ⟨_, (N7 _ (.tail _ (el3 (g6 (.tail _ (.tail _ (.tail _ hwt))))))).1, rfl, _, rfl⟩ v3.1 v2.1 ?_ (fun j h1 h2 => el_SS v3 v2 j h1 h2) (congrArg not (decide_eq_true rfl)) _ _ _ _ ?_
 ·exact lt_cl (show un < 200 by lia)
 k_steps
 exact hq _ _ (fun p hp => .tail _ (g6 (.tail _ (.tail _ (.tail _ hp))))) (LSt.head1 F7 N7 hA6 hN6 hO6 hpl6 (nf_tup _ _) hb6 hos6)
theorem body6A {w : World} {mean : ExcName → Option Value} {mg mb : Str → Option Value} {news : List (Addr × Obj)} (C tl ul fl : Addr) (fs : List Fld) (kf : Nat) (us vs : List (List Nat × Tok)) (kt kv : Nat) (os : OsState)
  (dp un : Nat) (gd : Option (List Code)) (a : Addr) (cd : Value) (A₀ : Around) (h₀ : Heap) (L : Addr) (m : Str → Option Value) (s : Shared) (Q : Flow → Shared → Prop) (E : Value → Shared → Prop)
  (B : Below A₀ h₀ [] h₀) (S : LSt h₀ L m os news s) (X : (K w.params).In h₀) (T : Top q0 (looseW q0 loose0) mean mg mb h₀)
  (hmt : m "texts" = some (.ref tl)) (htl : (tl, W.listOf (txs us).toArray kt) ∈ news) (hmu : m "told" = some (.ref ul)) (hul : (ul, W.listOf (txs vs).toArray kv) ∈ news)
  (hvs : vs.map (·.1) = (us.map (·.1)).map escL) (hxs : Texts (us.map (·.1))) (hn : us.length ≤ 8) (hn0 : us ≠ [])
  (hmf : m "fields" = some (.ref fl)) (hfl : (fl, W.listOf (fdVals fs).toArray kf) ∈ news) (hfs : FdsIn news fs) (ok : FdOk fs) (many : Nat) (tm : Tok) (hmm : m "many" = some (.int (many : Int) tm)) (hmany : fs.length = many) (hul' : us.length = many)
  (n : Nat) (tn : Tok) (hn7 : n ≤ 7) (hn5 : n = 7) (hmk : m "made" = some (.ref 569)) (hsz : m "size" = some (.int (n : Int) tn))
  (hd : dp + 60 < 500) (hu : un + 160 < 200)
  (wt o fu : Addr) (kw kfu : Nat) (tl2 : Tok) (hmw : m "words" = some (.ref wt)) (hwt : (wt, (⟨.type "tuple", none, .seq (txs (wx us n)).toArray kw, #[]⟩ : Obj)) ∈ news)
  (hml : m "line" = some (.str (strOf (glue [59] (((wx us n).map (·.1)).map escL))) tl2)) (hmo : m "one" = some (.ref o)) (hO1 : AAt w news o ((wx us n).map (·.1)))
  (hmfu : m "full" = some (.ref fu)) (hfu : (fu, W.listOf (wx (fdVals fs) n).toArray kfu) ∈ news) (hsh : ∀ l ∈ us.map (·.1), l.length ≤ 1000)
  (hq : ∀ s' n', news ⊆ n' → LSt h₀ L m os n' s' → Q .next s') :
  wpAny (model pw w) (ktrTop dp un gd "law" lawScope.1 L a cd [("numbers", C)] []) (exec LB7.1.b6 (lawEnv L a cd C)) Q E s := by
 delta LB7 lawScope
 dsimp only
 refine LSt.elim S fun F oA oN oO N hA hN hO hpl hb hos => ?_
 have hw5 : ((wx us n).map (·.1)).length = n := by rw [List.length_map, wx_len hn0 hn7]
 have hxw : Texts ((wx us n).map (·.1)) := fun l hl => hxs l (by rw [wx_map] at hl; exact wx_mem hl)
 have hlen : (glue [59] (((wx us n).map (·.1)).map escL)).length ≤ 65536 := Nat.le_trans (glue_len 59 _) (esc_total hxw (by rw [List.length_map, wx_len hn0 hn7]; lia))
 have hne : (wx us n).map (·.1) ≠ [] := fun e => by rw [e] at hw5; simp at hw5; lia
 have hrt : fieldsOf 59 (glue [59] (((wx us n).map (·.1)).map escL)) = (wx us n).map (·.1) := split_glue (.inr rfl) _ hne
 have hwn : (wx us n).length = n := wx_len hn0 hn7
 k_steps
 refine unhold ?_
 refine newA_S _ _ _ _ _ _ _ _ _ _ _ _ _ _ _ _ _ B (LSt.mk2 oA oN oO F N hA hN hO hpl hb hos) X T rfl hlen (by rw [hrt, hw5, hn5]) (by lia) (by lia) (fun o6 s6 n6 g6 S6 O6 => ?_)
 clear F N
 rw [hrt] at O6
 refine LSt.elim S6 fun F6 oA6 oN6 oO6 N6 hA6 hN6 hO6 hpl6 hb6 hos6 => ?_
 k_steps
 refine unhold ?_
 refine eqA_L o o6 _ _ _ _ _ _ _ _ _ _ _ _ _ _ _ _ _ B (LSt.mk2 oA6 oN6 oO6 F6 N6 hA6 hN6 hO6 hpl6 hb6 hos6) X T rfl (hO1.mono g6) O6 (by lia) (by lia) (decide_eq_true rfl) (fun s7 S7 => ?_)
 clear F6 N6
 refine LSt.elim S7 fun F7 oA7 oN7 oO7 N7 hA7 hN7 hO7 hpl7 hb7 hos7 => ?_
 k_steps
 refine unhold ?_
 refine slice_tuple_from (a := 1) F7 N7 ⟨_, (N7 _ (el3 (g6 hwt))).1, rfl, _, rfl⟩ (by decide) (by rw [v_size, hwn]; lia) (fun h8 F8 N8 => ?_) (hsz := by rw [v_size, hwn, sizeLine_eq]; lia)
 clear F7 N7
 rw [show (List.drop 1 (txs (wx us n)).toArray.toList).toArray = (txs ((wx us n).drop 1)).toArray from by simp [txs, strValues]] at N8
 k_steps
 refine unhold ?_
 obtain ⟨u0, ws', hws⟩ : ∃ u0 ws', wx us n = u0 :: ws' := by
  cases hw : wx us n with
  | nil => rw [hw] at hwn; simp at hwn; lia
  | cons u0 ws' => exact ⟨u0, ws', rfl⟩
 refine item_tuple (items := (txs (wx us n)).toArray) (j := 0) (x := .str (strOf u0.1) u0.2) ⟨_, (N8 _ (.tail _ (el3 (g6 hwt)))).1, rfl, _, rfl⟩ (by decide) (by decide) (by rw [hws]; simp [seqIndex?, txs, strValues]) (by rw [hws]; simp [txs, strValues]) ?_
 have hu0 : u0.1 ∈ us.map (·.1) := by
  have : u0 ∈ wx us n := by rw [hws]; exact .head _
  exact List.mem_map_of_mem (wx_mem this)
 have hl0 := hsh _ hu0
 have hxb : ∀ tk : Tok, Texts (List.map (fun p : List Nat × Tok => p.1) ((wx us n).drop 1 ++ [(u0.1 ++ [98], tk)])) := fun tk l hl => by
  rw [List.map_append, List.mem_append] at hl
  rcases hl with hl | hl
  ·obtain ⟨q, hq1, rfl⟩ := List.mem_map.mp hl
   exact hxw _ (List.mem_map_of_mem (List.mem_of_mem_drop hq1))
  ·rcases List.mem_singleton.mp hl with rfl
   refine ⟨?_, fun c hc => ?_⟩
   ·show (u0.1 ++ [98]).length ≤ 1024
    rw [List.length_append]; simp; lia
   ·rcases List.mem_append.mp hc with hc | hc
    ·exact (hxs _ hu0).2 c hc
    ·rcases List.mem_singleton.mp hc with rfl
     decide
 have hlb : ∀ tk : Tok, ((wx us n).drop 1 ++ [(u0.1 ++ [98], tk)]).length = n := fun tk => by rw [List.length_append, List.length_drop, hwn]; simp; lia
 have hneb : ∀ tk : Tok, ¬ ((wx us n).map (·.1) = List.map (fun p : List Nat × Tok => p.1) ((wx us n).drop 1 ++ [(u0.1 ++ [98], tk)])) := fun tk e => by
  rw [hws] at e
  have := congrArg (fun l : List (List Nat) => (l.map List.length).sum) e
  simp at this
  lia
 k_steps
 refine unhold ?_
 rw [b_is]
 refine add_str (fun t9 k9 => ?_) (hsz := by rw [len_strOf, len_strOf, sizeLine_eq]; simp; lia)
 rw [strOf_app]
 k_steps
 refine unhold ?_
 with_reducible rename Fr _ _ _ _ => F9
 with_reducible rename News _ _ _ _ => N9
 refine add_tuples (vs := txs ((wx us n).drop 1)) (ws := [.str (strOf (u0.1 ++ [98])) t9]) F9 N9 ⟨_, (N9 _ (.tail _ (.head _))).1, rfl, _, rfl⟩ ⟨_, (N9 _ (.head _)).1, rfl, _, rfl⟩ (fun e => ?_) (fun u' e => ?_) (fun u' u' h10 F10 N10 => ?_) (hsz := by rw [txs_len, List.length_map, List.length_drop, sizeLine_eq]; simp; lia)
 ·have := congrArg List.length e
  rw [txs_len, List.length_map, List.length_drop, hwn] at this
  simp at this
  lia
 ·cases e
 rw [txs_snoc] at N10
 clear F9 N9
 k_steps
 refine unhold ?_
 refine newA_T _ ((wx us n).drop 1 ++ [(u0.1 ++ [98], t9)]) 0 _ _ _ _ _ _ _ _ _ _ _ _ _ _ _ B (LSt.head3 F10 N10 hA7 hN7 hO7 hpl7 (nf_tup _ _) (nf_tup _ _) (nf_tup _ _) hb7 hos7) X T rfl (.head _) (hxb t9) (by rw [hlb, hn5]) (by lia) (by lia) (fun o11 s11 n11 g11 S11 O11 => ?_)
 clear F10 N10
 refine LSt.elim S11 fun F11 oA11 oN11 oO11 N11 hA11 hN11 hO11 hpl11 hb11 hos11 => ?_
 k_steps
 refine unhold ?_
 refine eqA_L o o11 _ _ _ _ _ _ _ _ _ _ _ _ _ _ _ _ _ B (LSt.mk2 oA11 oN11 oO11 F11 N11 hA11 hN11 hO11 hpl11 hb11 hos11) X T rfl ((hO1.mono g6).mono fun p hp => g11 (el3 hp)) O11 (by lia) (by lia) (decide_eq_false (hneb t9)) (fun s12 S12 => ?_)
 clear F11 N11
 refine LSt.elim S12 fun F12 oA12 oN12 oO12 N12 hA12 hN12 hO12 hpl12 hb12 hos12 => ?_
 obtain ⟨dx, D, dn, px, t1, t2, ts, hts, ho, hdx, hD⟩ := hO1.mono fun p hp => g11 (el3 (g6 hp))
 have hts5 : ts.length = n := by have := congrArg List.length hts; simp only [List.length_map] at this; rw [this, hwn]
 have hfn : (wx (fdVals fs) n).length = n := wx_len (by simpa [fdVals] using ok.some) hn7
 k_steps
 refine unhold ?_
 refine len_list (N12.isList (el3 (g11 (el3 (g6 hfu))))) (by rw [List.size_toArray, hfn]; lia) ?_
 rw [List.size_toArray, hfn]
 k_steps
 refine unhold ?_
 refine getFld (es := [ent w "fields" t1 (.ref D), ent w "params" t2 (.ref px)]) (X.keeps F12.keep) (N12 _ (el3 ho)).1 (N12 _ (el3 hdx)).1 (by kernel_rfl) (by kernel_rfl) (by k_is) (v := .ref D) (by kernel_rfl) rfl ?_
 k_steps
 refine unhold ?_
 refine len_sub (K := K w.params) (C := 518) (ob := tupSub 518 dn (txs ts)) (items := (txs ts).toArray) (X.keeps F12.keep) (N12 _ (el3 hD)).1 rfl rfl (by rw [v_size, hts5]; lia) (by k_is) (by k_is) (fun t13 k13 => ?_)
 rw [v_size, hts5]
 k_steps
 ·rename_i hc
  exact absurd hc (by simp)
 exact hq _ n11 (fun p hp => g11 (el3 (g6 hp))) (LSt.mk2 oA12 oN12 oO12 F12 N12 hA12 hN12 hO12 hpl12 hb12 hos12)
end
end
end
section
local macro_rules | `(tactic| walk_at "getMethod ref") => `(tactic| ((fail_if_success (with_reducible show wpAny _ _ (getMethod (Value.ref 869) _ _) _ _ _)); refine hold ?_))
local macro_rules | `(tactic| walk_at "getAttr ref") => `(tactic| (refine hold ?_))
noncomputable def PM (tl ul fl : Addr) (many : Nat) (tm : Tok) (m : Str → Option Value) : Prop := m "texts" = some (.ref tl) ∧ m "told" = some (.ref ul) ∧ m "fields" = some (.ref fl) ∧ m "many" = some (.int (many : Int) tm)
theorem roundN {w : World} {mean : ExcName → Option Value} {mg mb : Str → Option Value} {n₀ : List (Addr × Obj)} (C tl ul fl p1 : Addr) (fs : List Fld) (kf kp : Nat) (us vs : List (List Nat × Tok)) (kt kv : Nat) (os : OsState)
  (dp un : Nat) (gd : Option (List Code)) (a : Addr) (cd : Value) (A₀ : Around) (h₀ : Heap) (L : Addr) (m : Str → Option Value)
  (B : Below A₀ h₀ [] h₀) (X : (K w.params).In h₀) (T : Top q0 (looseW q0 loose0) mean mg mb h₀)
  (htl : (tl, W.listOf (txs us).toArray kt) ∈ n₀) (hul : (ul, W.listOf (txs vs).toArray kv) ∈ n₀)
  (hvs : vs.map (·.1) = (us.map (·.1)).map escL) (hxs : Texts (us.map (·.1))) (hn : us.length ≤ 8) (hn0 : us ≠ [])
  (hfl : (fl, W.listOf (fdVals fs).toArray kf) ∈ n₀) (hfs : FdsIn n₀ fs) (ok : FdOk fs) (many : Nat) (tm : Tok) (hmany : fs.length = many) (hul' : us.length = many)
  (tn : Tok) (hp : (p1, (⟨.type "tuple", none, .seq #[.ref 801, .int ((5 : Nat) : Int) tn] kp, #[]⟩ : Obj)) ∈ n₀) (hsh : ∀ l ∈ us.map (·.1), l.length ≤ 1000)
  (hd : dp + 60 < 500) (hu : un + 160 < 200) (hP : PM tl ul fl many tm m) :
  Round pw w (ktrTop dp un gd "law" lawScope.1 L a cd [("numbers", C)] []) (lawEnv L a cd C) LB7.1.target [LB7.1.b0, LB7.1.b1, LB7.1.b2, LB7.1.b3, LB7.1.b4, LB7.1.b5, LB7.1.b6] h₀ L os n₀ m (.ref p1) (PM tl ul fl many tm) := by
 intro n₁ s₁ E g S
 obtain ⟨q1, q2, q3, q4⟩ := hP
 refine asg12 (mean := mean) (mg := mg) (mb := mb) C p1 801 5 tn kp os dp un gd a cd h₀ L m s₁ _ _ S (g hp) (fun s2 S2 => ?_)
 refine wpAny_execs_cons (body0N C tl ul fl fs kf us vs kt kv os dp un gd a cd A₀ h₀ L _ s2 _ E B S2 X T (by repeat' (first | refine (if_neg (by decide)).trans ?_ | exact if_pos rfl | exact q1)) (g htl) (by repeat' (first | refine (if_neg (by decide)).trans ?_ | exact if_pos rfl | exact q2)) (g hul) hvs hxs hn hn0 (by repeat' (first | refine (if_neg (by decide)).trans ?_ | exact if_pos rfl | exact q3)) (g hfl) (fun p hp => g (hfs p hp)) ok many tm (by repeat' (first | refine (if_neg (by decide)).trans ?_ | exact if_pos rfl | exact q4)) hmany hul' 5 tn (by decide) rfl (by repeat' (first | refine (if_neg (by decide)).trans ?_ | exact if_pos rfl | exact q1)) (by repeat' (first | refine (if_neg (by decide)).trans ?_ | exact if_pos rfl | exact q1)) hd hu (fun s3 S3 => ?_))
 refine wpAny_execs_cons (body1 C tl ul fl fs kf us vs kt kv os dp un gd a cd A₀ h₀ L _ s3 _ E B S3 X T (by repeat' (first | refine (if_neg (by decide)).trans ?_ | exact if_pos rfl | exact q1)) (g htl) (by repeat' (first | refine (if_neg (by decide)).trans ?_ | exact if_pos rfl | exact q2)) (g hul) hvs hxs hn hn0 (by repeat' (first | refine (if_neg (by decide)).trans ?_ | exact if_pos rfl | exact q3)) (g hfl) (fun p hp => g (hfs p hp)) ok many tm (by repeat' (first | refine (if_neg (by decide)).trans ?_ | exact if_pos rfl | exact q4)) hmany hul' 5 tn (by decide) (by repeat' (first | refine (if_neg (by decide)).trans ?_ | exact if_pos rfl | exact q1)) hd hu (fun fu s4 n4 g4 S4 F4 => ?_))
 obtain ⟨kfu, hfu⟩ := F4
 refine wpAny_execs_cons (body2 C tl ul fl fs kf us vs kt kv os dp un gd a cd A₀ h₀ L _ s4 _ E B S4 X T (by repeat' (first | refine (if_neg (by decide)).trans ?_ | exact if_pos rfl | exact q1)) (g4 (g htl)) (by repeat' (first | refine (if_neg (by decide)).trans ?_ | exact if_pos rfl | exact q2)) (g4 (g hul)) hvs hxs hn hn0 (by repeat' (first | refine (if_neg (by decide)).trans ?_ | exact if_pos rfl | exact q3)) (g4 (g hfl)) (fun p hp => g4 (g (hfs p hp))) ok many tm (by repeat' (first | refine (if_neg (by decide)).trans ?_ | exact if_pos rfl | exact q4)) hmany hul' 5 tn (by decide) (by repeat' (first | refine (if_neg (by decide)).trans ?_ | exact if_pos rfl | exact q1)) hd hu (fun wt s5 n5 g5 S5 F5 => ?_))
 obtain ⟨kw, hwt⟩ := F5
 refine wpAny_execs_cons (body3 C tl ul fl fs kf us vs kt kv os dp un gd a cd A₀ h₀ L _ s5 _ E B S5 X T (by repeat' (first | refine (if_neg (by decide)).trans ?_ | exact if_pos rfl | exact q1)) (g5 (g4 (g htl))) (by repeat' (first | refine (if_neg (by decide)).trans ?_ | exact if_pos rfl | exact q2)) (g5 (g4 (g hul))) hvs hxs hn hn0 (by repeat' (first | refine (if_neg (by decide)).trans ?_ | exact if_pos rfl | exact q3)) (g5 (g4 (g hfl))) (fun p hp => g5 (g4 (g (hfs p hp)))) ok many tm (by repeat' (first | refine (if_neg (by decide)).trans ?_ | exact if_pos rfl | exact q4)) hmany hul' 5 tn (by decide) (by repeat' (first | refine (if_neg (by decide)).trans ?_ | exact if_pos rfl | exact q1)) hd hu (fun tl2 s6 n6 g6 S6 => ?_))
 have G6 : n₀ ⊆ n6 := fun p hp => g6 (g5 (g4 (g hp)))
 refine wpAny_execs_cons (body4N C tl ul fl fs kf us vs kt kv os dp un gd a cd A₀ h₀ L _ s6 _ E B S6 X T (by repeat' (first | refine (if_neg (by decide)).trans ?_ | exact if_pos rfl | exact q1)) (G6 htl) (by repeat' (first | refine (if_neg (by decide)).trans ?_ | exact if_pos rfl | exact q2)) (G6 hul) hvs hxs hn hn0 (by repeat' (first | refine (if_neg (by decide)).trans ?_ | exact if_pos rfl | exact q3)) (G6 hfl) (fun p hp => G6 (hfs p hp)) ok many tm (by repeat' (first | refine (if_neg (by decide)).trans ?_ | exact if_pos rfl | exact q4)) hmany hul' 5 tn (by decide) rfl (by repeat' (first | refine (if_neg (by decide)).trans ?_ | exact if_pos rfl | exact q1)) (by repeat' (first | refine (if_neg (by decide)).trans ?_ | exact if_pos rfl | exact q1)) hd hu wt kw (by repeat' (first | refine (if_neg (by decide)).trans ?_ | exact if_pos rfl | exact q1)) (g6 hwt) (fun o s7 n7 g7 S7 O7 => ?_))
 refine wpAny_execs_cons (body5N C tl ul fl fs kf us vs kt kv os dp un gd a cd A₀ h₀ L _ s7 _ E B S7 X T (by repeat' (first | refine (if_neg (by decide)).trans ?_ | exact if_pos rfl | exact q1)) (g7 (G6 htl)) (by repeat' (first | refine (if_neg (by decide)).trans ?_ | exact if_pos rfl | exact q2)) (g7 (G6 hul)) hvs hxs hn hn0 (by repeat' (first | refine (if_neg (by decide)).trans ?_ | exact if_pos rfl | exact q3)) (g7 (G6 hfl)) (fun p hp => g7 (G6 (hfs p hp))) ok many tm (by repeat' (first | refine (if_neg (by decide)).trans ?_ | exact if_pos rfl | exact q4)) hmany hul' 5 tn (by decide) rfl (by repeat' (first | refine (if_neg (by decide)).trans ?_ | exact if_pos rfl | exact q1)) (by repeat' (first | refine (if_neg (by decide)).trans ?_ | exact if_pos rfl | exact q1)) hd hu wt o kw tl2 (by repeat' (first | refine (if_neg (by decide)).trans ?_ | exact if_pos rfl | exact q1)) (g7 (g6 hwt)) (by repeat' (first | refine (if_neg (by decide)).trans ?_ | exact if_pos rfl | exact q1)) (by repeat' (first | refine (if_neg (by decide)).trans ?_ | exact if_pos rfl | exact q1)) O7 (fun s8 n8 g8 S8 => ?_))
 refine wpAny_execs_cons (body6N C tl ul fl fs kf us vs kt kv os dp un gd a cd A₀ h₀ L _ s8 _ E B S8 X T (by repeat' (first | refine (if_neg (by decide)).trans ?_ | exact if_pos rfl | exact q1)) (g8 (g7 (G6 htl))) (by repeat' (first | refine (if_neg (by decide)).trans ?_ | exact if_pos rfl | exact q2)) (g8 (g7 (G6 hul))) hvs hxs hn hn0 (by repeat' (first | refine (if_neg (by decide)).trans ?_ | exact if_pos rfl | exact q3)) (g8 (g7 (G6 hfl))) (fun p hp => g8 (g7 (G6 (hfs p hp)))) ok many tm (by repeat' (first | refine (if_neg (by decide)).trans ?_ | exact if_pos rfl | exact q4)) hmany hul' 5 tn (by decide) rfl (by repeat' (first | refine (if_neg (by decide)).trans ?_ | exact if_pos rfl | exact q1)) (by repeat' (first | refine (if_neg (by decide)).trans ?_ | exact if_pos rfl | exact q1)) hd hu wt o fu kw kfu tl2 (by repeat' (first | refine (if_neg (by decide)).trans ?_ | exact if_pos rfl | exact q1)) (g8 (g7 (g6 hwt))) (by repeat' (first | refine (if_neg (by decide)).trans ?_ | exact if_pos rfl | exact q1)) (by repeat' (first | refine (if_neg (by decide)).trans ?_ | exact if_pos rfl | exact q1)) (O7.mono g8) (by repeat' (first | refine (if_neg (by decide)).trans ?_ | exact if_pos rfl | exact q1)) (g8 (g7 (g6 (g5 hfu)))) hsh (fun s9 n9 g9 S9 => ?_))
 refine wpAny_execs_nil ?_
 exact ⟨rfl, _, n9, fun p hp => g9 (g8 (g7 (g6 (g5 (g4 hp))))), S9, by repeat' (first | refine (if_neg (by decide)).trans ?_ | exact if_pos rfl | exact q1), by repeat' (first | refine (if_neg (by decide)).trans ?_ | exact if_pos rfl | exact q2), by repeat' (first | refine (if_neg (by decide)).trans ?_ | exact if_pos rfl | exact q3), by repeat' (first | refine (if_neg (by decide)).trans ?_ | exact if_pos rfl | exact q4)⟩
theorem roundA {w : World} {mean : ExcName → Option Value} {mg mb : Str → Option Value} {n₀ : List (Addr × Obj)} (C tl ul fl p1 : Addr) (fs : List Fld) (kf kp : Nat) (us vs : List (List Nat × Tok)) (kt kv : Nat) (os : OsState)
  (dp un : Nat) (gd : Option (List Code)) (a : Addr) (cd : Value) (A₀ : Around) (h₀ : Heap) (L : Addr) (m : Str → Option Value)
  (B : Below A₀ h₀ [] h₀) (X : (K w.params).In h₀) (T : Top q0 (looseW q0 loose0) mean mg mb h₀)
  (htl : (tl, W.listOf (txs us).toArray kt) ∈ n₀) (hul : (ul, W.listOf (txs vs).toArray kv) ∈ n₀)
  (hvs : vs.map (·.1) = (us.map (·.1)).map escL) (hxs : Texts (us.map (·.1))) (hn : us.length ≤ 8) (hn0 : us ≠ [])
  (hfl : (fl, W.listOf (fdVals fs).toArray kf) ∈ n₀) (hfs : FdsIn n₀ fs) (ok : FdOk fs) (many : Nat) (tm : Tok) (hmany : fs.length = many) (hul' : us.length = many)
  (tn : Tok) (hp : (p1, (⟨.type "tuple", none, .seq #[.ref 569, .int ((7 : Nat) : Int) tn] kp, #[]⟩ : Obj)) ∈ n₀) (hsh : ∀ l ∈ us.map (·.1), l.length ≤ 1000)
  (hd : dp + 60 < 500) (hu : un + 160 < 200) (hP : PM tl ul fl many tm m) :
  Round pw w (ktrTop dp un gd "law" lawScope.1 L a cd [("numbers", C)] []) (lawEnv L a cd C) LB7.1.target [LB7.1.b0, LB7.1.b1, LB7.1.b2, LB7.1.b3, LB7.1.b4, LB7.1.b5, LB7.1.b6] h₀ L os n₀ m (.ref p1) (PM tl ul fl many tm) := by
 intro n₁ s₁ E g S
 obtain ⟨q1, q2, q3, q4⟩ := hP
 refine asg12 (mean := mean) (mg := mg) (mb := mb) C p1 569 7 tn kp os dp un gd a cd h₀ L m s₁ _ _ S (g hp) (fun s2 S2 => ?_)
 refine wpAny_execs_cons (body0A C tl ul fl fs kf us vs kt kv os dp un gd a cd A₀ h₀ L _ s2 _ E B S2 X T (by repeat' (first | refine (if_neg (by decide)).trans ?_ | exact if_pos rfl | exact q1)) (g htl) (by repeat' (first | refine (if_neg (by decide)).trans ?_ | exact if_pos rfl | exact q2)) (g hul) hvs hxs hn hn0 (by repeat' (first | refine (if_neg (by decide)).trans ?_ | exact if_pos rfl | exact q3)) (g hfl) (fun p hp => g (hfs p hp)) ok many tm (by repeat' (first | refine (if_neg (by decide)).trans ?_ | exact if_pos rfl | exact q4)) hmany hul' 7 tn (by decide) rfl (by repeat' (first | refine (if_neg (by decide)).trans ?_ | exact if_pos rfl | exact q1)) (by repeat' (first | refine (if_neg (by decide)).trans ?_ | exact if_pos rfl | exact q1)) hd hu (fun s3 S3 => ?_))
 refine wpAny_execs_cons (body1 C tl ul fl fs kf us vs kt kv os dp un gd a cd A₀ h₀ L _ s3 _ E B S3 X T (by repeat' (first | refine (if_neg (by decide)).trans ?_ | exact if_pos rfl | exact q1)) (g htl) (by repeat' (first | refine (if_neg (by decide)).trans ?_ | exact if_pos rfl | exact q2)) (g hul) hvs hxs hn hn0 (by repeat' (first | refine (if_neg (by decide)).trans ?_ | exact if_pos rfl | exact q3)) (g hfl) (fun p hp => g (hfs p hp)) ok many tm (by repeat' (first | refine (if_neg (by decide)).trans ?_ | exact if_pos rfl | exact q4)) hmany hul' 7 tn (by decide) (by repeat' (first | refine (if_neg (by decide)).trans ?_ | exact if_pos rfl | exact q1)) hd hu (fun fu s4 n4 g4 S4 F4 => ?_))
 obtain ⟨kfu, hfu⟩ := F4
 refine wpAny_execs_cons (body2 C tl ul fl fs kf us vs kt kv os dp un gd a cd A₀ h₀ L _ s4 _ E B S4 X T (by repeat' (first | refine (if_neg (by decide)).trans ?_ | exact if_pos rfl | exact q1)) (g4 (g htl)) (by repeat' (first | refine (if_neg (by decide)).trans ?_ | exact if_pos rfl | exact q2)) (g4 (g hul)) hvs hxs hn hn0 (by repeat' (first | refine (if_neg (by decide)).trans ?_ | exact if_pos rfl | exact q3)) (g4 (g hfl)) (fun p hp => g4 (g (hfs p hp))) ok many tm (by repeat' (first | refine (if_neg (by decide)).trans ?_ | exact if_pos rfl | exact q4)) hmany hul' 7 tn (by decide) (by repeat' (first | refine (if_neg (by decide)).trans ?_ | exact if_pos rfl | exact q1)) hd hu (fun wt s5 n5 g5 S5 F5 => ?_))
 obtain ⟨kw, hwt⟩ := F5
 refine wpAny_execs_cons (body3 C tl ul fl fs kf us vs kt kv os dp un gd a cd A₀ h₀ L _ s5 _ E B S5 X T (by repeat' (first | refine (if_neg (by decide)).trans ?_ | exact if_pos rfl | exact q1)) (g5 (g4 (g htl))) (by repeat' (first | refine (if_neg (by decide)).trans ?_ | exact if_pos rfl | exact q2)) (g5 (g4 (g hul))) hvs hxs hn hn0 (by repeat' (first | refine (if_neg (by decide)).trans ?_ | exact if_pos rfl | exact q3)) (g5 (g4 (g hfl))) (fun p hp => g5 (g4 (g (hfs p hp)))) ok many tm (by repeat' (first | refine (if_neg (by decide)).trans ?_ | exact if_pos rfl | exact q4)) hmany hul' 7 tn (by decide) (by repeat' (first | refine (if_neg (by decide)).trans ?_ | exact if_pos rfl | exact q1)) hd hu (fun tl2 s6 n6 g6 S6 => ?_))
 have G6 : n₀ ⊆ n6 := fun p hp => g6 (g5 (g4 (g hp)))
 refine wpAny_execs_cons (body4A C tl ul fl fs kf us vs kt kv os dp un gd a cd A₀ h₀ L _ s6 _ E B S6 X T (by repeat' (first | refine (if_neg (by decide)).trans ?_ | exact if_pos rfl | exact q1)) (G6 htl) (by repeat' (first | refine (if_neg (by decide)).trans ?_ | exact if_pos rfl | exact q2)) (G6 hul) hvs hxs hn hn0 (by repeat' (first | refine (if_neg (by decide)).trans ?_ | exact if_pos rfl | exact q3)) (G6 hfl) (fun p hp => G6 (hfs p hp)) ok many tm (by repeat' (first | refine (if_neg (by decide)).trans ?_ | exact if_pos rfl | exact q4)) hmany hul' 7 tn (by decide) rfl (by repeat' (first | refine (if_neg (by decide)).trans ?_ | exact if_pos rfl | exact q1)) (by repeat' (first | refine (if_neg (by decide)).trans ?_ | exact if_pos rfl | exact q1)) hd hu wt kw (by repeat' (first | refine (if_neg (by decide)).trans ?_ | exact if_pos rfl | exact q1)) (g6 hwt) (fun o s7 n7 g7 S7 O7 => ?_))
 refine wpAny_execs_cons (body5A C tl ul fl fs kf us vs kt kv os dp un gd a cd A₀ h₀ L _ s7 _ E B S7 X T (by repeat' (first | refine (if_neg (by decide)).trans ?_ | exact if_pos rfl | exact q1)) (g7 (G6 htl)) (by repeat' (first | refine (if_neg (by decide)).trans ?_ | exact if_pos rfl | exact q2)) (g7 (G6 hul)) hvs hxs hn hn0 (by repeat' (first | refine (if_neg (by decide)).trans ?_ | exact if_pos rfl | exact q3)) (g7 (G6 hfl)) (fun p hp => g7 (G6 (hfs p hp))) ok many tm (by repeat' (first | refine (if_neg (by decide)).trans ?_ | exact if_pos rfl | exact q4)) hmany hul' 7 tn (by decide) rfl (by repeat' (first | refine (if_neg (by decide)).trans ?_ | exact if_pos rfl | exact q1)) (by repeat' (first | refine (if_neg (by decide)).trans ?_ | exact if_pos rfl | exact q1)) hd hu wt o kw tl2 (by repeat' (first | refine (if_neg (by decide)).trans ?_ | exact if_pos rfl | exact q1)) (g7 (g6 hwt)) (by repeat' (first | refine (if_neg (by decide)).trans ?_ | exact if_pos rfl | exact q1)) (by repeat' (first | refine (if_neg (by decide)).trans ?_ | exact if_pos rfl | exact q1)) O7 (fun s8 n8 g8 S8 => ?_))
 refine wpAny_execs_cons (body6A C tl ul fl fs kf us vs kt kv os dp un gd a cd A₀ h₀ L _ s8 _ E B S8 X T (by repeat' (first | refine (if_neg (by decide)).trans ?_ | exact if_pos rfl | exact q1)) (g8 (g7 (G6 htl))) (by repeat' (first | refine (if_neg (by decide)).trans ?_ | exact if_pos rfl | exact q2)) (g8 (g7 (G6 hul))) hvs hxs hn hn0 (by repeat' (first | refine (if_neg (by decide)).trans ?_ | exact if_pos rfl | exact q3)) (g8 (g7 (G6 hfl))) (fun p hp => g8 (g7 (G6 (hfs p hp)))) ok many tm (by repeat' (first | refine (if_neg (by decide)).trans ?_ | exact if_pos rfl | exact q4)) hmany hul' 7 tn (by decide) rfl (by repeat' (first | refine (if_neg (by decide)).trans ?_ | exact if_pos rfl | exact q1)) (by repeat' (first | refine (if_neg (by decide)).trans ?_ | exact if_pos rfl | exact q1)) hd hu wt o fu kw kfu tl2 (by repeat' (first | refine (if_neg (by decide)).trans ?_ | exact if_pos rfl | exact q1)) (g8 (g7 (g6 hwt))) (by repeat' (first | refine (if_neg (by decide)).trans ?_ | exact if_pos rfl | exact q1)) (by repeat' (first | refine (if_neg (by decide)).trans ?_ | exact if_pos rfl | exact q1)) (O7.mono g8) (by repeat' (first | refine (if_neg (by decide)).trans ?_ | exact if_pos rfl | exact q1)) (g8 (g7 (g6 (g5 hfu)))) hsh (fun s9 n9 g9 S9 => ?_))
 refine wpAny_execs_nil ?_
 exact ⟨rfl, _, n9, fun p hp => g9 (g8 (g7 (g6 (g5 (g4 hp))))), S9, by repeat' (first | refine (if_neg (by decide)).trans ?_ | exact if_pos rfl | exact q1), by repeat' (first | refine (if_neg (by decide)).trans ?_ | exact if_pos rfl | exact q2), by repeat' (first | refine (if_neg (by decide)).trans ?_ | exact if_pos rfl | exact q3), by repeat' (first | refine (if_neg (by decide)).trans ?_ | exact if_pos rfl | exact q4)⟩
theorem stage12 {w : World} {mean : ExcName → Option Value} {mg mb : Str → Option Value} {news : List (Addr × Obj)} (C tl ul fl : Addr) (fs : List Fld) (kf : Nat) (us vs : List (List Nat × Tok)) (kt kv : Nat) (os : OsState)
  (dp un : Nat) (gd : Option (List Code)) (a : Addr) (cd : Value) (A₀ : Around) (h₀ : Heap) (L : Addr) (m : Str → Option Value) (s : Shared) (Q : Flow → Shared → Prop) (E : Value → Shared → Prop)
  (B : Below A₀ h₀ [] h₀) (S : LSt h₀ L m os news s) (X : (K w.params).In h₀) (T : Top q0 (looseW q0 loose0) mean mg mb h₀)
  (hmt : m "texts" = some (.ref tl)) (htl : (tl, W.listOf (txs us).toArray kt) ∈ news) (hmu : m "told" = some (.ref ul)) (hul : (ul, W.listOf (txs vs).toArray kv) ∈ news)
  (hvs : vs.map (·.1) = (us.map (·.1)).map escL) (hxs : Texts (us.map (·.1))) (hn : us.length ≤ 8) (hn0 : us ≠ [])
  (hmf : m "fields" = some (.ref fl)) (hfl : (fl, W.listOf (fdVals fs).toArray kf) ∈ news) (hfs : FdsIn news fs) (ok : FdOk fs) (many : Nat) (tm : Tok) (hmm : m "many" = some (.int (many : Int) tm)) (hmany : fs.length = many) (hul' : us.length = many) (hsh : ∀ l ∈ us.map (·.1), l.length ≤ 1000)
  (hd : dp + 60 < 500) (hu : un + 160 < 200)
  (hq : ∀ m' s' n', news ⊆ n' → PM tl ul fl many tm m' → LSt h₀ L m' os n' s' → Q .next s') :
  wpAny (model pw w) (ktrTop dp un gd "law" lawScope.1 L a cd [("numbers", C)] []) (exec LS.1.s12 (lawEnv L a cd C)) Q E s := by
 rw [LB7.2]
 refine forPair (m := m) (os := os) (P := PM tl ul fl many tm) (h₀ := h₀) (L := L) rfl ?_
 delta LB7 lawScope
 dsimp only
 refine LSt.elim S fun F oA oN oO N hA hN hO hpl hb hos => ?_
 k_steps
 with_reducible rename Fr _ _ _ _ => F3
 with_reducible rename News _ _ _ _ => N3
 refine unhold ⟨_, 0, _, _, _, rfl, .head _, LSt.head3 F3 N3 hA hN hO hpl (nf_tup _ _) (nf_tup _ _) (nf_tup _ _) hb hos, ?_, fun m₁ hP => ?_, fun m₂ n₂ s₂ g2 S2 hP => hq m₂ s₂ n₂ (fun p hp => g2 (el3 hp)) hP S2⟩
 ·exact roundN C tl ul fl _ fs kf 0 us vs kt kv os dp un gd a cd A₀ h₀ L m B X T (el3 htl) (el3 hul) hvs hxs hn hn0 (el3 hfl) (fun p hp => el3 (hfs p hp)) ok many tm hmany hul' _ (.tail _ (.tail _ (.head _))) hsh hd hu ⟨hmt, hmu, hmf, hmm⟩
 ·exact roundA C tl ul fl _ fs kf 0 us vs kt kv os dp un gd a cd A₀ h₀ L m₁ B X T (el3 htl) (el3 hul) hvs hxs hn hn0 (el3 hfl) (fun p hp => el3 (hfs p hp)) ok many tm hmany hul' _ (.tail _ (.head _)) hsh hd hu hP
end
end
end
end
end
section
local macro_rules | `(tactic| walk_at "exec Assign cons ListComp") => `(tactic| (refine hold ?_))
theorem stage3 {w : World} {mean : ExcName → Option Value} {mg mb : Str → Option Value} {news : List (Addr × Obj)} (C fl : Addr) (fs : List Fld) (kf : Nat)
  (dp un : Nat) (gd : Option (List Code)) (a : Addr) (cd : Value) (h₀ : Heap) (L : Addr) (m : Str → Option Value) (s : Shared) (Q : Flow → Shared → Prop) (E : Value → Shared → Prop)
  (F : Fr h₀ L s.heap m) (X : (K w.params).In h₀) (N : News h₀ L s.heap news) (T : Top q0 (looseW q0 loose0) mean mg mb h₀)
  (hmf : m "fields" = some (.ref fl)) (hl : (fl, W.listOf (fdVals fs).toArray kf) ∈ news) (hfs : FdsIn news fs) (ok : FdOk fs)
  (hq : ∀ (tl : Addr) (us : List (List Nat × Tok)) (k : Nat) (h' : Heap) (tk' : Nat), Fr h₀ L h' (fun y => if y = "texts" then some (.ref tl) else m y) → News h₀ L h' ((tl, W.listOf (txs us).toArray k) :: news) → (∀ p ∈ news, p.1 ≠ tl) → us.map (·.1) = (fds fs).map (textOf signTab) → Q .next { s with heap := h', toks := tk' }) :
  wpAny (model pw w) (ktrTop dp un gd "law" lawScope.1 L a cd [("numbers", C)] []) (exec LS.1.s3 (lawEnv L a cd C)) Q E s := by
 delta LS lawScope
 dsimp only
 k_steps
 refine unhold ?_
 k_dflt (refine' assignCompH (JoinRel s.heap signTab) ?hsw ?hL ?hh ?hclos ?hcell ?hkind ?hnames ?hx ?hy ?hp ?hs F ?_; (case hsw => with_unfolding_all rfl); (case hL => with_unfolding_all rfl); (case hh => with_unfolding_all rfl); (case hclos => with_unfolding_all rfl); (case hcell => decide); (case hkind => with_unfolding_all rfl); (case hnames => decide); (case hx => with_unfolding_all rfl); (case hy => with_unfolding_all rfl); (case hp => with_unfolding_all rfl); (case hs => intro _; with_unfolding_all rfl))
 k_steps
 have hfL : ∀ p ∈ fs, s.heap.get? p.1 = some (W.listOf (intVals p.2.1).toArray p.2.2) ∧ p.1 ≠ _ := fun p hp => ⟨(N _ (hfs p hp)).1, (N _ (hfs p hp)).2.1⟩
 refine unhold ⟨fl, fdVals fs, rfl, N.isList hl, by have := ok.few; simp [fdVals, sizeLine_eq]; lia, F, (N _ hl).2.1, fun C2 v h₃ tk₃ m₃ hv hC hn' hm' F4 hk4 => ?_, fun D h5 tk5 ys hD hDL hpl F5 hP hk5 => ?_⟩
 ·obtain ⟨q, hq, rfl⟩ : ∃ q ∈ fs, v = .ref q.1 := by
   simp only [fdVals, List.mem_map] at hv
   refine ob1_2 hv fun q hq eq2 => ?_
   clear hv
   subst eq2
   exact ⟨q, hq, rfl⟩
  with_reducible refine' elt_join (signsTab w) s.heap q.1 q.2.1 q.2.2 (ok.dig q hq).1 (by have := (ok.dig q hq).2; lia) _ _ _ _ _ _ _ _ _ h₃ tk₃ m₃ _ _ _ _ _ _ _ F4 X T (hfL q hq).1 (hfL q hq).2 hk4 _ hm' _ _ _ _ _ _ _ fun u' => _
  exact hn'
  any_goals with_unfolding_all rfl
 with_reducible refine ob1_2 (join_out fs _ (fun p hp => (hfL p hp).1) hP) fun us hzs hus => ?_
 obtain ⟨kD2, hDo⟩ := hpl
 have hys : ys = (txs us).toArray := by rw [← hzs, Array.toArray_toList]
 subst hys
 exact hq D us kD2 h5 tk5 F5 (newsCons F N hD hDL hDo hk5) (fun p hp e => absurd (N p hp).1 (by rw [e, hD]; exact fun q => by cases q)) hus
theorem stage4 {w : World} {mean : ExcName → Option Value} {mg mb : Str → Option Value} {news : List (Addr × Obj)} (C fl : Addr) (fs : List Fld) (kf : Nat)
  (dp un : Nat) (gd : Option (List Code)) (a : Addr) (cd : Value) (h₀ : Heap) (L : Addr) (m : Str → Option Value) (s : Shared) (Q : Flow → Shared → Prop) (E : Value → Shared → Prop)
  (F : Fr h₀ L s.heap m) (X : (K w.params).In h₀) (N : News h₀ L s.heap news) (T : Top q0 (looseW q0 loose0) mean mg mb h₀)
  (hmf : m "fields" = some (.ref fl)) (hl : (fl, W.listOf (fdVals fs).toArray kf) ∈ news) (hfs : FdsIn news fs) (ok : FdOk fs)
  (hq : ∀ (tl : Addr) (us : List (List Nat × Tok)) (k : Nat) (h' : Heap) (tk' : Nat), Fr h₀ L h' (fun y => if y = "told" then some (.ref tl) else m y) → News h₀ L h' ((tl, W.listOf (txs us).toArray k) :: news) → (∀ p ∈ news, p.1 ≠ tl) → us.map (·.1) = (fds fs).map (textOf escTab) → Q .next { s with heap := h', toks := tk' }) :
  wpAny (model pw w) (ktrTop dp un gd "law" lawScope.1 L a cd [("numbers", C)] []) (exec LS.1.s4 (lawEnv L a cd C)) Q E s := by
 delta LS lawScope
 dsimp only
 k_steps
 refine unhold ?_
 k_dflt (refine' assignCompH (JoinRel s.heap escTab) ?hsw ?hL ?hh ?hclos ?hcell ?hkind ?hnames ?hx ?hy ?hp ?hs F ?_; (case hsw => with_unfolding_all rfl); (case hL => with_unfolding_all rfl); (case hh => with_unfolding_all rfl); (case hclos => with_unfolding_all rfl); (case hcell => decide); (case hkind => with_unfolding_all rfl); (case hnames => decide); (case hx => with_unfolding_all rfl); (case hy => with_unfolding_all rfl); (case hp => with_unfolding_all rfl); (case hs => intro _; with_unfolding_all rfl))
 k_steps
 have hfL : ∀ p ∈ fs, s.heap.get? p.1 = some (W.listOf (intVals p.2.1).toArray p.2.2) ∧ p.1 ≠ _ := fun p hp => ⟨(N _ (hfs p hp)).1, (N _ (hfs p hp)).2.1⟩
 refine unhold ⟨fl, fdVals fs, rfl, N.isList hl, by have := ok.few; simp [fdVals, sizeLine_eq]; lia, F, (N _ hl).2.1, fun C2 v h₃ tk₃ m₃ hv hC hn' hm' F4 hk4 => ?_, fun D h5 tk5 ys hD hDL hpl F5 hP hk5 => ?_⟩
 ·obtain ⟨q, hq, rfl⟩ : ∃ q ∈ fs, v = .ref q.1 := by
   simp only [fdVals, List.mem_map] at hv
   refine ob1_2 hv fun q hq eq2 => ?_
   clear hv
   subst eq2
   exact ⟨q, hq, rfl⟩
  with_reducible refine' elt_join (escsTab w) s.heap q.1 q.2.1 q.2.2 (ok.dig q hq).1 (by have := (ok.dig q hq).2; lia) _ _ _ _ _ _ _ _ _ h₃ tk₃ m₃ _ _ _ _ _ _ _ F4 X T (hfL q hq).1 (hfL q hq).2 hk4 _ hm' _ _ _ _ _ _ _ fun u' => _
  exact hn'
  any_goals with_unfolding_all rfl
 with_reducible refine ob1_2 (join_out fs _ (fun p hp => (hfL p hp).1) hP) fun us hzs hus => ?_
 obtain ⟨kD2, hDo⟩ := hpl
 have hys : ys = (txs us).toArray := by rw [← hzs, Array.toArray_toList]
 subst hys
 exact hq D us kD2 h5 tk5 F5 (newsCons F N hD hDL hDo hk5) (fun p hp e => absurd (N p hp).1 (by rw [e, hD]; exact fun q => by cases q)) hus
end
end
theorem digsF_ok : ∀ k n, (∀ d ∈ digsF k n, d < 9) ∧ (digsF k n).length ≤ k
 | 0, _ => ⟨fun d hd => (nomatch hd), Nat.le_refl _⟩
 | k + 1, n => by
  unfold digsF
  split
  ·exact ⟨fun d hd => (nomatch hd), Nat.zero_le _⟩
  ·have ih := digsF_ok k (n / 9)
   refine ⟨fun d hd => ?_, ?_⟩
   ·rcases List.mem_cons.mp hd with rfl | hd
    ·lia
    ·exact ih.1 d hd
   ·rw [List.length_cons]; lia
theorem fdOk_of {fs : List Fld} {many : Nat} {f : Nat → Nat} (h : fs.map (fun p => p.2.1.map (·.1)) = (List.range many).map (fun k => digsF 6 (f k))) (h1 : 1 ≤ many) (h8 : many ≤ 8) : FdOk fs ∧ fs.length = many := by
 have hl : fs.length = many := by simpa using congrArg List.length h
 refine ⟨⟨fun p hp => ?_, by lia, fun e => by rw [e] at hl; simp at hl; lia⟩, hl⟩
 have : p.2.1.map (·.1) ∈ (List.range many).map (fun k => digsF 6 (f k)) := by rw [← h]; exact List.mem_map_of_mem hp
 obtain ⟨k, _, hk⟩ := List.mem_map.mp this
 have ok := digsF_ok 6 (f k)
 rw [hk] at ok
 refine ⟨fun q hq => ok.1 _ (List.mem_map_of_mem hq), by simpa using ok.2⟩
theorem textOf_short : ∀ f : List Nat, (∀ d ∈ f, d < 9) → f.length ≤ 6 → (textOf signTab f).length ≤ 1000 := fun f hd hl => by
 have := textOf_len (tab := signTab) (fun d h => by have := (signTab_one d h).1; lia) f hd
 lia
theorem law_body {w : World} {mean : ExcName → Option Value} {mg mb : Str → Option Value} (C lst : Addr) (oC : Obj) (vs : List Value) (ns : List Int)
  (dp un : Nat) (gd : Option (List Code)) (a : Addr) (cd : Value) (A₀ : Around) (h₀ : Heap) (L : Addr) (s : Shared) (Q : Flow → Shared → Prop) (E : Value → Shared → Prop)
  (B : Below A₀ h₀ [] h₀) (F : Fr h₀ L s.heap (fun y => if y = "script" then some (.ref lst) else none)) (X : (K w.params).In h₀) (T : Top q0 (looseW q0 loose0) mean mg mb h₀)
  (N : News h₀ L s.heap [(C, oC), (531, tabObj #[]), (763, tabObj #[]), (815, tabObj #[])]) (hCt : C ≠ 531 ∧ C ≠ 763 ∧ C ≠ 815) (hoC : oC.data = .cell none) (hl : h₀.IsList lst vs.toArray) (hv : IntsAre vs ns) (hn : ns.length ≤ 63) (hb : AllBare s.gens)
  (hd : dp + 60 < 500) (hu : un + 160 < 200)
  (hq : ∀ m n s', LSt h₀ L m s.os n s' → Q (.ret (.bool true)) s') :
  wpAny (model pw w) (ktrTop dp un gd "law" lawScope.1 L a cd [("numbers", C)] []) (execs dLaw.1.1.body (lawEnv L a cd C)) Q E s := by
 rw [LS.2]
 have tok : TabOk (tabObj #[]) := ⟨#[], rfl, trivial⟩
 have hne : ∀ p ∈ [((531 : Addr), tabObj #[]), (763, tabObj #[]), (815, tabObj #[])], p.1 ≠ C := fun p hp => by
  simp only [List.mem_cons, List.not_mem_nil, or_false] at hp
  rcases hp with rfl | rfl | rfl
  ·exact Ne.symm hCt.1
  ·exact Ne.symm hCt.2.1
  ·exact Ne.symm hCt.2.2
 refine wpAny_execs_cons (stage0 C lst oC vs ns dp un gd a cd A₀ h₀ L s _ E B F X N T hne hoC hl hv hn hd hu (fun nl ms k oC' h1 tk1 F1 N1 hoC' hms => ?_))
 have hml : ms.length = ns.length + 7 := by simpa using congrArg List.length hms
 refine wpAny_execs_cons (stage1 C lst nl oC' ms k dp un gd a cd h₀ L _ _ E F1 X N1 T hoC' (by lia) (fun t h2 tk2 F2 N2 => ?_))
 generalize hmany0 : 1 + (ms.map (·.1)).getD 0 0 % 8 = many at F2
 have m1 : 1 ≤ many := by lia
 have m8 : many ≤ 8 := by lia
 refine wpAny_execs_cons (stage2 C lst nl oC' ms k many t dp un gd a cd A₀ h₀ L _ _ E B F2 X N2 T hoC' (by lia) (by lia) m8 hd hu (fun fl fs kf h3 tk3 F3 N3 hfs3 => ?_))
 obtain ⟨ok, hmany⟩ := fdOk_of hfs3 m1 m8
 have hfs : ∀ {r : List (Addr × Obj)}, FdsIn (fs.map (fun p => (p.1, W.listOf (intVals p.2.1).toArray p.2.2)) ++ r) fs := fun p hp => List.mem_append_left _ (List.mem_map_of_mem (f := fun p : Fld => (p.1, W.listOf (intVals p.2.1).toArray p.2.2)) hp)
 refine wpAny_execs_cons (stage3 C fl fs kf dp un gd a cd h₀ L _ _ _ E F3 X N3 T (if_pos rfl) (.head _) (fun p hp => .tail _ (hfs p hp)) ok (fun tl us kt h4 tk4 F4 N4 u' hus => ?_))
 refine wpAny_execs_cons (stage4 C fl fs kf dp un gd a cd h₀ L _ _ _ E F4 X N4 T (by repeat' (first | refine (if_neg (by decide)).trans ?_ | exact if_pos rfl | exact (if_pos rfl))) (.tail _ (.head _)) (fun p hp => .tail _ (.tail _ (hfs p hp))) ok (fun ul vs' kv h5 tk5 F5 N5 u' hvs' => ?_))
 have hvs : vs'.map (·.1) = (us.map (·.1)).map escL := by rw [hvs', hus, told_esc ok]
 have hlu : us.length = many := by
  have := congrArg List.length hus
  simp only [List.length_map, fds] at this
  lia
 have hxs : Texts (us.map (·.1)) := fun l hl => by
  rw [hus] at hl
  obtain ⟨f, hf, rfl⟩ := List.mem_map.mp hl
  have := fds_ok ok f hf
  exact text_ok f this.1 this.2
 have hsh : ∀ l ∈ us.map (·.1), l.length ≤ 1000 := fun l hl => by
  rw [hus] at hl
  obtain ⟨f, hf, rfl⟩ := List.mem_map.mp hl
  have := fds_ok ok f hf
  exact textOf_short f this.1 this.2
 have hn8 : us.length ≤ 8 := by lia
 have hn0 : us ≠ [] := fun e => by rw [e] at hlu; simp at hlu; lia
 obtain ⟨n5, hn5⟩ : ∃ n5, n5 = (ul, W.listOf (txs vs').toArray kv) :: (tl, W.listOf (txs us).toArray kt) :: (fl, W.listOf (fdVals fs).toArray kf) :: (fs.map (fun p => (p.1, W.listOf (intVals p.2.1).toArray p.2.2)) ++ [(C, oC'), (nl, W.listOf (intVals ms).toArray k)]) := ⟨_, rfl⟩
 obtain ⟨m, Fm, e1, e2, e3, e4⟩ : ∃ m, Fr h₀ L h5 m ∧ m "texts" = some (.ref tl) ∧ m "told" = some (.ref ul) ∧ m "fields" = some (.ref fl) ∧ m "many" = some (.int (many : Int) t) := ⟨_, F5, by repeat' (first | refine (if_neg (by decide)).trans ?_ | exact if_pos rfl | exact (if_pos rfl)), by repeat' (first | refine (if_neg (by decide)).trans ?_ | exact if_pos rfl | exact (if_pos rfl)), by repeat' (first | refine (if_neg (by decide)).trans ?_ | exact if_pos rfl | exact (if_pos rfl)), by repeat' (first | refine (if_neg (by decide)).trans ?_ | exact if_pos rfl | exact (if_pos rfl))⟩
 have hm : LSt h₀ L m s.os n5 { s with heap := h5, toks := tk5 } := by
  refine (LSt.mk2 (tabObj #[]) (tabObj #[]) (tabObj #[]) Fm (fun p hp => N5 p ?_) tok tok tok (fun p hp => ?_) hb rfl)
  ·subst hn5
   exact sub hp
  ·subst hn5
   simp only [List.mem_cons, List.mem_append, List.not_mem_nil, or_false] at hp
   rcases hp with rfl | rfl | rfl | h | rfl | rfl
   ·exact nf_list _ _
   ·exact nf_list _ _
   ·exact nf_list _ _
   ·obtain ⟨q, _, rfl⟩ := List.mem_map.mp h
    exact nf_list _ _
   ·exact fun ps e => by have e2 := congrArg Obj.data e; rw [hoC'] at e2; cases e2
   ·exact nf_list _ _
 have htl : (tl, W.listOf (txs us).toArray kt) ∈ n5 := by subst hn5; exact .tail _ (.head _)
 have hul : (ul, W.listOf (txs vs').toArray kv) ∈ n5 := by subst hn5; exact .head _
 have hfl : (fl, W.listOf (fdVals fs).toArray kf) ∈ n5 := by subst hn5; exact .tail _ (.tail _ (.head _))
 have hfd : FdsIn n5 fs := by subst hn5; exact fun p hp => .tail _ (.tail _ (.tail _ (hfs p hp)))
 clear hn5 hfs N5 F5
 refine wpAny_execs_cons (stage5 C tl us kt s.os dp un gd a cd A₀ h₀ L m _ _ E B hm X T e1 htl hxs hn8 hd hu (fun c s6 n6 S6 C6 => ?_))
 refine wpAny_execs_cons (stage6 C tl ul c us vs' kt kv s.os dp un gd a cd A₀ h₀ L _ _ _ E B S6 X T (by repeat' (first | refine (if_neg (by decide)).trans ?_ | exact if_pos rfl | exact e1)) (List.mem_append_right _ htl) (by repeat' (first | refine (if_neg (by decide)).trans ?_ | exact if_pos rfl | exact e2)) (List.mem_append_right _ hul) (by repeat' (first | refine (if_neg (by decide)).trans ?_ | exact if_pos rfl | exact e2)) C6 hvs hxs hn8 hd hu (fun s7 n7 S7 => ?_))
 have g7 : n5 ⊆ n7 ++ (n6 ++ n5) := fun p hp => List.mem_append_right _ (List.mem_append_right _ hp)
 have C7 : Cat w (n7 ++ (n6 ++ n5)) c (us.map (·.1)) := C6.sub fun p hp => List.mem_append_right _ hp
 refine wpAny_execs_cons (stage7 C tl ul c us vs' kt kv s.os dp un gd a cd A₀ h₀ L _ _ _ E B S7 X T (by repeat' (first | refine (if_neg (by decide)).trans ?_ | exact if_pos rfl | exact e1)) (g7 htl) (by repeat' (first | refine (if_neg (by decide)).trans ?_ | exact if_pos rfl | exact e2)) (g7 hul) (by repeat' (first | refine (if_neg (by decide)).trans ?_ | exact if_pos rfl | exact e2)) C7 hvs hxs hn8 hn0 hd hu (fun s8 n8 S8 => ?_))
 have g8 : n5 ⊆ n8 ++ (n7 ++ (n6 ++ n5)) := fun p hp => List.mem_append_right _ (g7 hp)
 have C8 : Cat w (n8 ++ (n7 ++ (n6 ++ n5))) c (us.map (·.1)) := C7.sub fun p hp => List.mem_append_right _ hp
 generalize n8 ++ (n7 ++ (n6 ++ n5)) = n8' at *
 refine wpAny_execs_cons (stage8 C tl ul us vs' kt kv s.os dp un gd a cd A₀ h₀ L _ _ _ E B S8 X T (by repeat' (first | refine (if_neg (by decide)).trans ?_ | exact if_pos rfl | exact e1)) (g8 htl) (by repeat' (first | refine (if_neg (by decide)).trans ?_ | exact if_pos rfl | exact e2)) (g8 hul) hvs hxs hn8 hn0 hd hu (fun o s9 n9 g9 S9 O9 => ?_))
 refine wpAny_execs_cons (stage9 C tl ul o us vs' kt kv s.os dp un gd a cd A₀ h₀ L _ _ _ E B S9 X T (by repeat' (first | refine (if_neg (by decide)).trans ?_ | exact if_pos rfl | exact e1)) (g9 (g8 htl)) (by repeat' (first | refine (if_neg (by decide)).trans ?_ | exact if_pos rfl | exact e2)) (g9 (g8 hul)) hvs hxs hn8 hn0 hd hu (by repeat' (first | refine (if_neg (by decide)).trans ?_ | exact if_pos rfl | exact e2)) O9 (fun s10 n10 g10 S10 => ?_))
 refine wpAny_execs_cons (stage10 C tl ul o us vs' kt kv s.os dp un gd a cd A₀ h₀ L _ _ _ E B S10 X T (by repeat' (first | refine (if_neg (by decide)).trans ?_ | exact if_pos rfl | exact e1)) (g10 (g9 (g8 htl))) (by repeat' (first | refine (if_neg (by decide)).trans ?_ | exact if_pos rfl | exact e2)) (g10 (g9 (g8 hul))) hvs hxs hn8 hn0 hd hu (by repeat' (first | refine (if_neg (by decide)).trans ?_ | exact if_pos rfl | exact e2)) (O9.mono g10) (fun s11 n11 g11 S11 => ?_))
 have G11 : n8' ⊆ n11 := fun p hp => g11 (g10 (g9 hp))
 refine wpAny_execs_cons (stage11 C tl ul o c us vs' kt kv s.os dp un gd a cd A₀ h₀ L _ _ _ E B S11 X T (by repeat' (first | refine (if_neg (by decide)).trans ?_ | exact if_pos rfl | exact e1)) (G11 (g8 htl)) (by repeat' (first | refine (if_neg (by decide)).trans ?_ | exact if_pos rfl | exact e2)) (G11 (g8 hul)) hvs hxs hn8 hn0 hd hu (by repeat' (first | refine (if_neg (by decide)).trans ?_ | exact if_pos rfl | exact e2)) ((O9.mono g10).mono g11) (by repeat' (first | refine (if_neg (by decide)).trans ?_ | exact if_pos rfl | exact e2)) (C8.sub G11) (fun s12 n12 g12 S12 => ?_))
 refine wpAny_execs_cons (stage12 C tl ul fl fs kf us vs' kt kv s.os dp un gd a cd A₀ h₀ L _ _ _ E B S12 X T (by repeat' (first | refine (if_neg (by decide)).trans ?_ | exact if_pos rfl | exact e1)) (g12 (G11 (g8 htl))) (by repeat' (first | refine (if_neg (by decide)).trans ?_ | exact if_pos rfl | exact e2)) (g12 (G11 (g8 hul))) hvs hxs hn8 hn0 (by repeat' (first | refine (if_neg (by decide)).trans ?_ | exact if_pos rfl | exact e3)) (g12 (G11 (g8 hfl))) (fun p hp => g12 (G11 (g8 (hfd p hp)))) ok many t (by repeat' (first | refine (if_neg (by decide)).trans ?_ | exact if_pos rfl | exact e4)) hmany hlu hsh hd hu (fun m' s13 n13 g13 hP S13 => ?_))
 refine wpAny_execs_cons (stage13 C tl ul us vs' kt kv s.os dp un gd a cd A₀ h₀ L m' _ _ E B S13 X T hP.1 (g13 (g12 (G11 (g8 htl)))) hP.2.1 (g13 (g12 (G11 (g8 hul)))) hvs hxs hn8 hn0 hd hu (fun s14 n14 g14 S14 => ?_))
 exact hq m' n14 s14 S14
end
section
open PySem.Calls PySem.Spec
section
set_option maxHeartbeats 4000000
theorem post_true {M : Model} {A : Around} {cd : Code} {s s₁ : Shared} {cw : ClaimW} {cl : Str → Option Addr} {mean : ExcName → Option Value} {args : List WData} {tabs : List (Addr × Addr)} (hT : TabsAt tabs s₁.heap) (hr : ∀ a x, cw.raises a x = false) (hp : cw.post args (.bool true) args = true)
  (h : codeAny M A cd (fun r s' => r = .ok (.ret (.bool true)) ∧ (∀ b o, (ghostOf s₁.heap tabs).get? b = some o → s'.heap.get? b = some o) ∧ GrownAll tabs s'.heap ∧ s'.os = s₁.os ∧ AllBare s'.gens) s) : codeAny M A cd (GoodWG cw cl mean args s₁) s :=
 codeAny_mono h fun r s' ⟨hc, hk, hgr, hos, hg⟩ => by
  have keep : ∀ b o, b ∉ tabs.map (·.2) → s₁.heap.get? b = some o → s'.heap.get? b = some o := fun b o hb e => hk b o (ghost_ne e hb)
  have grown : ∀ b o, b ∈ tabs.map (·.2) → s₁.heap.get? b = some o → isCodeTable s₁.heap b ∧ o = tabObj #[] ∧ ∃ ps, s'.heap.get? b = some (tabObj ps) := fun b o hb e => by
   obtain ⟨q, hq, rfl⟩ := List.mem_map.mp hb
   have e2 := (hT q hq).2
   rw [e] at e2
   exact ⟨((hT q hq).1.tab (hT q hq).2).isCodeTable, Option.some.inj e2, hgr.get q hq⟩
  refine ⟨.inl ⟨.bool true, .bool true, [], hc, hr args, .bool true, hp, fun u' => ⟨.nil, fun a ha => by cases ha⟩⟩, ⟨fun b o e => ?_, fun b o e => ?_⟩, hos, hg⟩
  ·by_cases hb : b ∈ tabs.map (·.2)
   ·obtain ⟨ht, rfl, ps, hP⟩ := grown b o hb e
    exact .inr (.inl ⟨ht, rfl, #[], ps, rfl, by rw [Array.empty_append]; exact hP⟩)
   ·exact .inl (keep b o hb e)
  ·by_cases hb : b ∈ tabs.map (·.2)
   ·obtain ⟨_, _, ps, hP⟩ := grown b o hb e
    exact ⟨_, hP⟩
   ·exact ⟨o, keep b o hb e⟩
theorem frCong {h₀ h : Heap} {L : Addr} {m m' : Str → Option Value} (F : Fr h₀ L h m) (e : ∀ y, m y = m' y) : Fr h₀ L h m' := by
 rw [← show m = m' from funext e]; exact F
noncomputable def offTabs (P : Params) : Bool := (K P).all fun p => !(tabs3.map (·.2)).contains p.1
theorem off_tabs (P : Params) : offTabs P = true := by kernel_rfl
theorem ghost_K3 {w : World} {h : Heap} (Y : (KA w.params).In h) : (K w.params).In (ghostOf h tabs3) := fun a o e => by
 refine ghost_ne (inK_of Y a o e) fun q => ?_
 have h2 := List.all_eq_true.mp (off_tabs w.params) (a, o) (mem_of_lookupK e)
 have h3 : (tabs3.map (·.2)).contains a = true := by simpa using q
 dsimp only at h2
 rw [h3] at h2
 cases h2
theorem main : PySem.Challenge.rw_be0023_01.Holds := by
 refine head (by rfl) (by rfl) (by rfl) ?_
 intro w s₀ s₁ mg mb G Y fa o pm cd doc dV kV ho hd hcd hD hmg hg args vals as hpre hlay hrd hwl hlo
 have YA : (KA w.params).In s₁.heap := Y
 have X := (Ground.X G).1
 have V := (Ground.X G).2
 refine Ground.open G ?_
 intro T B D TE TW
 clear D
 clear hmg
 wrow_args hpre hlay hrd hwl hlo
 refine enter_call ?_
 w_top on
 have hT9 := tabs_at YA
 refine post_true hT9 (fun u' u' => rfl) (by first | with_unfolding_all rfl | kernel_rfl | (show (_ && _) = true; simp [WTm.holds]) ) ?_
 w_call any ho hd hcd hD T F
 clear hd
 rename IntsAre _ _ => hI
 rename Heap.IsList _ _ _ => hL
 rename ¬ _ < _ => hn
 rename News _ _ _ _ => N0
 rename _ = Data.cell _ => hcell
 have F' := ghost_fr hT9 F
 have N' := ghost_news hT9 F N0
 have L' := ghost_list hT9 hL
 have T' := ghost_topQ YA T
 have X' := ghost_K3 YA
 have B' := ghost_below hT9
 have hn63 : _ ≤ 63 := Nat.not_lt.mp (fun q => hn (by exact_mod_cast q))
 refine law_body (C := s₁.heap.objs.size + 1) _ _ _ _ _ _ _ _ _ _ _ _ _ _ _ B' (frCong F' (fun y => by with_unfolding_all rfl)) X' T' N' ⟨?_, ?_, ?_⟩ (hcell.trans (by kernel_rfl)) L' hI hn63 ?_ ?_ ?_ (fun m n s' S => ?_)
 ·have := Heap.lt_size (hT9 (535, 531) (by simp [tabs3])).2
  exact Nat.ne_of_gt (Nat.lt_succ_of_lt this)
 ·have := Heap.lt_size (hT9 (767, 763) (by simp [tabs3])).2
  exact Nat.ne_of_gt (Nat.lt_succ_of_lt this)
 ·have := Heap.lt_size (hT9 (819, 815) (by simp [tabs3])).2
  exact Nat.ne_of_gt (Nat.lt_succ_of_lt this)
 ·exact .of_eq hg
 ·decide
 ·decide
 ·obtain ⟨oA, oN, oO, N9, ⟨pA, rfl, _⟩, ⟨pN, rfl, _⟩, ⟨pO, rfl, _⟩⟩ := S.tabs
  exact ⟨rfl, S.fr.keep, ⟨⟨pA, (N9 _ (.head _)).1⟩, ⟨pN, (N9 _ (.tail _ (.head _))).1⟩, ⟨pO, (N9 _ (.tail _ (.tail _ (.head _)))).1⟩, trivial⟩, S.same, S.bare⟩
end
end
end Mine
theorem PySem.Challenge.cw_be0023_01_holds : PySem.Challenge.rw_be0023_01.Holds := by
 exact Mine.main
