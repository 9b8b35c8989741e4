import PyProof.Rows.All
import Wide.All
import OpenK.AllK
import Wide.FinOn
import PySem.Challenge.RW_rl0013_02
open PySem PySem.W PyProof.Rows PySem.Calls PySem.Spec
set_option Elab.async false
set_option maxRecDepth 100000
set_option maxHeartbeats 8000000
namespace Mine
open_top hd for PySem.Challenge.rw_rl0013_02
end Mine
namespace Mine
open PySem.StrLaws
theorem len_cps (x : Str) : x.length = x.cps.toList.length := by simp [Str.length]
theorem str_ext {x y : Str} (h : x.cps.toList = y.cps.toList) : x = y := Str.ext' (Array.toList_inj.mp h)
theorem cps_app (a b : Str) : (a ++ b).cps.toList = a.cps.toList ++ b.cps.toList := by rw [Str.cps_append]; simp
theorem slice_to {x : Str} {j : Nat} (h : j ≤ x.cps.toList.length) : Txt.slice x none (some (j : Int)) = ⟨(x.cps.toList.take j).toArray⟩ := by
  have := sliceText_to (x := x) (j := (j : Int)) ⟨by omega, by omega⟩
  show sliceText x none (some (j : Int)) = _
  simpa using this
theorem slice_mid {x : Str} {i j : Nat} (h : i ≤ j) (h2 : j ≤ x.cps.toList.length) : Txt.slice x (some (i : Int)) (some (j : Int)) = ⟨((x.cps.toList.drop i).take (j - i)).toArray⟩ := by
  have := sliceText_plain (x := x) (i := (i : Int)) (j := (j : Int)) ⟨by omega, by omega, by omega⟩
  have e : ((j : Int) - (i : Int)).toNat = j - i := by omega
  rw [e] at this
  show sliceText x (some (i : Int)) (some (j : Int)) = _
  simpa using this
theorem item_at {x : Str} {i : Nat} {c : Nat} (h : x.cps.toList[i]? = some c) : Txt.item x (i : Int) = ⟨#[c]⟩ := by
  have hi : i < x.length := by
    rw [len_cps]
    exact (List.getElem?_eq_some_iff.mp h).1
  unfold Txt.item Txt.charAt
  have h' : x.cps[i]? = some c := by rw [← Array.getElem?_toList]; exact h
  rw [seqIndex_nonneg (by omega) (by omega)]
  simp [h']
theorem find_at {x : Str} {c : Nat} {A B : List Nat} (h : x.cps.toList = A ++ c :: B) (hA : c ∉ A) : Txt.find x ⟨#[c]⟩ = (A.length : Int) := by
  have hc : x.cps.toList[A.length]? = some c := by rw [h]; simp
  have hlt : A.length < x.length := by rw [len_cps]; exact (List.getElem?_eq_some_iff.mp hc).1
  unfold Txt.find
  rcases occ_head x ⟨#[c]⟩ 1 (Nat.le_refl 1) with ⟨h0, hn⟩ | ⟨i, r, h0, hi, hn⟩
  · exact absurd ((subAt_one x c A.length).mpr hc) (hn A.length)
  · rw [h0]
    have hi' := (subAt_one x c i).mp hi
    have h1 : ¬ A.length < i := fun hl => hn _ hl ((subAt_one x c A.length).mpr hc)
    have h2 : ¬ i < A.length := fun hl => by
      rw [h, List.getElem?_append_left hl] at hi'
      exact hA (List.mem_of_getElem? hi')
    have : i = A.length := by omega
    subst this
    rfl
theorem find3_at {x : Str} {c : Nat} {A B : List Nat} {i : Nat} (h : x.cps.toList = A ++ c :: B) (hi : i ≤ A.length) (hA : c ∉ A.drop i) : Txt.find3 x ⟨#[c]⟩ (i : Int) = (A.length : Int) := by
  have hc : x.cps.toList[A.length]? = some c := by rw [h]; simp
  have hlt : A.length < x.length := by rw [len_cps]; exact (List.getElem?_eq_some_iff.mp hc).1
  have hf : fromIndex x.length (i : Int) = i := by unfold fromIndex; omega
  have gd := getD_of_getElem? hc
  rcases find3_spec x c (i : Int) with ⟨_, hn⟩ | ⟨k, h0, h1, h2, h3, h4⟩
  · exact absurd gd (hn A.length (by omega) hlt)
  · rw [h0]
    have h5 : ¬ A.length < k := fun hl => h4 A.length (by omega) hl gd
    have h6 : ¬ k < A.length := fun hl => by
      have h7 := getElem?_of_getD h2 h3
      rw [h, List.getElem?_append_left hl] at h7
      refine hA (List.mem_of_getElem? (i := k - i) ?_)
      rw [List.getElem?_drop, show i + (k - i) = k by omega]
      exact h7
    have : k = A.length := by omega
    rw [this]
theorem cons_mid_inj {c : Nat} : ∀ {a b : List Nat} {x y : List Nat}, c ∉ a → c ∉ b → a ++ c :: x = b ++ c :: y → a = b ∧ x = y
  | [], [], _, _, _, _, h => by simpa using h
  | [], b :: bs, _, _, _, hb, h => by
    simp at h
    exact absurd h.1 (by intro e; apply hb; rw [← e]; exact List.mem_cons_self ..)
  | a :: as, [], _, _, ha, _, h => by
    simp at h
    exact absurd h.1 (by intro e; apply ha; rw [e]; exact List.mem_cons_self ..)
  | a :: as, b :: bs, _, _, ha, hb, h => by
    simp at h
    obtain ⟨e1, e2⟩ := cons_mid_inj (a := as) (b := bs) (fun m => ha (List.mem_cons_of_mem _ m)) (fun m => hb (List.mem_cons_of_mem _ m)) h.2
    exact ⟨by rw [h.1, e1], e2⟩
def joinL (c : Nat) : List (List Nat) → List Nat
  | [] => []
  | [x] => x
  | x :: y :: r => x ++ c :: joinL c (y :: r)
theorem join_cps (c : Nat) : ∀ ps : List Str, (Str.join ⟨#[c]⟩ ps).cps.toList = joinL c (ps.map (·.cps.toList))
  | [] => rfl
  | [x] => rfl
  | x :: y :: r => by
    have := join_cps c (y :: r)
    show (x ++ ⟨#[c]⟩ ++ Str.join ⟨#[c]⟩ (y :: r)).cps.toList = _
    rw [cps_app, cps_app, this]
    simp [joinL]
theorem joinL_inj (c : Nat) : ∀ {ps qs : List (List Nat)}, ps ≠ [] → qs ≠ [] → (∀ p ∈ ps, c ∉ p) → (∀ q ∈ qs, c ∉ q) → joinL c ps = joinL c qs → ps = qs
  | [], _, h, _, _, _, _ => absurd rfl h
  | _, [], _, h, _, _, _ => absurd rfl h
  | [x], [y], _, _, _, _, h => by simpa [joinL] using h
  | [x], y :: z :: r, _, _, hp, _, h => by
    simp only [joinL] at h
    have := hp x (by simp)
    rw [h] at this
    exact absurd (by simp) this
  | x :: z :: r, [y], _, _, _, hq, h => by
    simp only [joinL] at h
    have := hq y (by simp)
    rw [← h] at this
    exact absurd (by simp) this
  | x :: z :: r, y :: u :: v, _, _, hp, hq, h => by
    simp only [joinL] at h
    obtain ⟨e1, e2⟩ := cons_mid_inj (hp x (by simp)) (hq y (by simp)) h
    have := joinL_inj c (ps := z :: r) (qs := u :: v) (by simp) (by simp) (fun p m => hp p (List.mem_cons_of_mem _ m)) (fun q m => hq q (List.mem_cons_of_mem _ m)) e2
    rw [e1, this]
theorem split_ne (x : Str) (c : Nat) : Txt.split x ⟨#[c]⟩ ≠ [] := by
  intro h
  have := join_split x ⟨#[c]⟩
  unfold Txt.split at h
  split at h
  · cases h
  · split at h
    · cases h
    · rw [partsBetween_eq] at h
      obtain ⟨p, r, e⟩ := partsFrom_ne x (⟨#[c]⟩ : Str).length 0 (Builtin.Str.occurrences x ⟨#[c]⟩ 0 x.length (x.length + 1))
      rw [e] at h
      cases h
theorem split_is {x : Str} {c : Nat} {qs : List Str} (hne : qs ≠ []) (h : x.cps.toList = joinL c (qs.map (·.cps.toList))) (hq : ∀ q ∈ qs, c ∉ q.cps.toList) : Txt.split x ⟨#[c]⟩ = qs := by
  have h1 := join_cps c (Txt.split x ⟨#[c]⟩)
  rw [join_split, h] at h1
  have h2 := joinL_inj c (by simpa using hne) (by simpa using split_ne x c) (by intro p hp; obtain ⟨q, m, rfl⟩ := List.mem_map.mp hp; exact hq q m)
    (by intro p hp; obtain ⟨q, m, rfl⟩ := List.mem_map.mp hp; exact split_free x c q m) h1
  have inj : ∀ {a b : List Str}, a.map (·.cps.toList) = b.map (·.cps.toList) → a = b := by
    intro a
    induction a with
    | nil => intro b h; cases b with | nil => rfl | cons _ _ => simp at h
    | cons x r ih =>
      intro b h
      cases b with
      | nil => simp at h
      | cons y t =>
        simp only [List.map_cons, List.cons.injEq] at h
        rw [str_ext h.1, ih h.2]
  exact (inj h2).symm
theorem int_signs (n : Int) : (Str.ofString (toString n)).cps.toList = (if n < 0 then [45] else []) ++ (Nat.toDigits 10 n.natAbs).map Char.toNat := by
  cases n with
  | ofNat m =>
    rw [if_neg (by simp)]
    exact KIN.signs_num m
  | negSucc m =>
    rw [if_pos (by omega), signs_ofString]
    show (("-" ++ Nat.repr (m + 1)).toList).map Char.toNat = _
    rw [String.toList_append, List.map_append, Nat.toList_repr]
    rfl
theorem digits_all (m : Nat) : NumText.AllDigits ((Nat.toDigits 10 m).map Char.toNat) := by
  intro c hc
  obtain ⟨ch, hch, e⟩ := List.mem_map.mp hc
  have r := digit_range (Nat.isDigit_of_mem_toDigits (by decide) (by decide) hch)
  rw [← e]
  exact r
theorem digits_ne (m : Nat) : (Nat.toDigits 10 m).map Char.toNat ≠ [] := by
  intro e
  have h := toDigits_len_ge 10 m
  rw [List.map_eq_nil_iff.mp e] at h
  exact absurd h (by decide)
theorem int_free {n : Int} {c : Nat} (h : c ∈ (Str.ofString (toString n)).cps.toList) : c = 45 ∨ (48 ≤ c ∧ c ≤ 57) := by
  rw [int_signs] at h
  rcases List.mem_append.mp h with h | h
  · split at h
    · exact .inl (by simpa using h)
    · cases h
  · exact .inr (digits_all _ c h)
theorem int_len {n : Int} (h1 : -10000000000 < n) (h2 : n < 10000000000) : (Str.ofString (toString n)).length ≤ 11 := by
  rw [len_cps, int_signs]
  have hd : ((Nat.toDigits 10 n.natAbs).map Char.toNat).length ≤ 10 := by
    have h0 : (0 : Int) ≤ (n.natAbs : Int) := by omega
    have := KT.len_num (n := (n.natAbs : Int)) h0 (by omega)
    rw [len_cps, KIN.signs_num] at this
    exact this
  split <;> simp only [List.length_append, List.length_cons, List.length_nil] <;> omega
theorem int_reads {n : Int} (h1 : -10000000000 < n) (h2 : n < 10000000000) : PySem.intText? (Str.ofString (toString n)) = some n := by
  have hl := int_len h1 h2
  have e := int_signs n
  by_cases hn : n < 0
  · rw [if_pos hn, List.cons_append, List.nil_append] at e
    rw [PySem.intText_neg e (digits_all _) (digits_ne _) (by omega), KIN.val_back]
    congr 1
    omega
  · rw [if_neg hn, List.nil_append] at e
    rw [PySem.intText_digits (by rw [e]; exact digits_all _) (by rw [e]; exact digits_ne _) (by omega), e, KIN.val_back]
    congr 1
    omega
/-- what the walk of parse229 asks of a reply -/
structure Reply (x : Str) (n : Int) (p0 p1 p2 p3 p4 : Str) : Prop where
  e1 : (Txt.slice x none (some 3) != Str.ofString "229") = false
  f1 : ¬ Txt.find x (Str.ofString "(") < 0
  f2 : ¬ Txt.find3 x (Str.ofString ")") (Txt.find x (Str.ofString "(") + 1) < 0
  f3 : Txt.find x (Str.ofString "(") + 1 < (x.length : Int)
  f4 : 0 ≤ Txt.find3 x (Str.ofString ")") (Txt.find x (Str.ofString "(") + 1) - 1
  f5 : Txt.find3 x (Str.ofString ")") (Txt.find x (Str.ofString "(") + 1) - 1 < (x.length : Int)
  e3 : (Txt.item x (Txt.find x (Str.ofString "(") + 1) != Txt.item x (Txt.find3 x (Str.ofString ")") (Txt.find x (Str.ofString "(") + 1) - 1)) = false
  e4 : Txt.split (Txt.slice x (some (Txt.find x (Str.ofString "(") + 1)) (some (Txt.find3 x (Str.ofString ")") (Txt.find x (Str.ofString "(") + 1)))) (Txt.item x (Txt.find x (Str.ofString "(") + 1)) = [p0, p1, p2, p3, p4]
  hn : PySem.intText? p3 = some n
  hnl : p3.length ≤ 640
theorem reply_is {x : Str} {A S : List Nat} {c : Nat} {K P : Str} {n : Int}
    (h : x.cps.toList = A ++ 40 :: c :: (K.cps.toList ++ c :: c :: (P.cps.toList ++ c :: 41 :: S))) (h3 : A.take 3 = [50, 50, 57])
    (hA : 40 ∉ A) (h40 : c ≠ 40) (h41 : c ≠ 41) (hK : c ∉ K.cps.toList) (hP : c ∉ P.cps.toList) (hK1 : 41 ∉ K.cps.toList) (hP1 : 41 ∉ P.cps.toList)
    (hn : PySem.intText? P = some n) (hl : P.length ≤ 640) : Reply x n ⟨#[]⟩ K ⟨#[]⟩ P ⟨#[]⟩ := by
  have o1 : Str.ofString "(" = ⟨#[40]⟩ := by decide
  have o2 : Str.ofString ")" = ⟨#[41]⟩ := by decide
  have hf : Txt.find x (Str.ofString "(") = (A.length : Int) := by rw [o1]; exact find_at h hA
  have hA3 : 3 ≤ A.length := by
    have := congrArg List.length h3
    simp only [List.length_take, List.length_cons, List.length_nil] at this
    omega
  let B := A ++ 40 :: c :: (K.cps.toList ++ c :: c :: (P.cps.toList ++ [c]))
  have hB : x.cps.toList = B ++ 41 :: S := by rw [h]; simp [B]
  have lB : B.length = A.length + 2 + K.cps.toList.length + 2 + P.cps.toList.length + 1 := by simp only [B, List.length_append, List.length_cons, List.length_nil]; omega
  have dB : B.drop (A.length + 1) = c :: (K.cps.toList ++ c :: c :: (P.cps.toList ++ [c])) := by
    simp [B, List.drop_append]
  have hf3 : Txt.find3 x (Str.ofString ")") (Txt.find x (Str.ofString "(") + 1) = (B.length : Int) := by
    rw [o2, hf, show ((A.length : Int) + 1) = ((A.length + 1 : Nat) : Int) by omega]
    refine find3_at hB (by omega) ?_
    rw [dB]
    simp only [List.mem_cons, List.mem_append, List.not_mem_nil, or_false, not_or]
    exact ⟨h41.symm, hK1, h41.symm, h41.symm, hP1, h41.symm⟩
  have lx : x.length = B.length + 1 + S.length := by rw [len_cps, hB]; simp; omega
  have i1 : Txt.item x (Txt.find x (Str.ofString "(") + 1) = ⟨#[c]⟩ := by
    rw [hf, show ((A.length : Int) + 1) = ((A.length + 1 : Nat) : Int) by omega]
    refine item_at ?_
    rw [h, List.getElem?_append_right (by omega), show A.length + 1 - A.length = 1 by omega]
    rfl
  have i2 : Txt.item x (Txt.find3 x (Str.ofString ")") (Txt.find x (Str.ofString "(") + 1) - 1) = ⟨#[c]⟩ := by
    rw [hf3, show ((B.length : Int) - 1) = ((B.length - 1 : Nat) : Int) by omega]
    refine item_at ?_
    rw [hB, List.getElem?_append_left (by omega)]
    have eB : B = (A ++ 40 :: c :: (K.cps.toList ++ c :: c :: P.cps.toList)) ++ [c] := by simp [B]
    have lB' : B.length - 1 = (A ++ 40 :: c :: (K.cps.toList ++ c :: c :: P.cps.toList)).length := by rw [eB]; simp only [List.length_append, List.length_cons, List.length_nil]; omega
    rw [lB', eB, List.getElem?_append_right (Nat.le_refl _)]
    simp
  have s1 : Txt.slice x (some (Txt.find x (Str.ofString "(") + 1)) (some (Txt.find3 x (Str.ofString ")") (Txt.find x (Str.ofString "(") + 1))) = ⟨(c :: (K.cps.toList ++ c :: c :: (P.cps.toList ++ [c]))).toArray⟩ := by
    rw [hf3, hf, show ((A.length : Int) + 1) = ((A.length + 1 : Nat) : Int) by omega]
    rw [slice_mid (by omega) (by rw [← len_cps]; omega)]
    congr 2
    rw [hB, List.drop_append, dB, List.take_append]
    have : (c :: (K.cps.toList ++ c :: c :: (P.cps.toList ++ [c]))).length = B.length - (A.length + 1) := by
      simp only [List.length_append, List.length_cons, List.length_nil]; omega
    rw [this, Nat.sub_self, List.take_zero, List.append_nil]
    exact List.take_of_length_le (by omega)
  refine ⟨?_, by omega, by omega, by omega, by omega, by omega, ?_, ?_, hn, hl⟩
  · have e : Txt.slice x none (some 3) = Str.ofString "229" := by
      have := slice_to (x := x) (j := 3) (by rw [← len_cps]; omega)
      refine Eq.trans this ?_
      rw [h, List.take_append_of_le_length (by omega), h3]
      decide
    rw [e]
    decide
  · rw [i1, i2]
    simp
  · rw [s1, i1]
    refine split_is (by simp) ?_ ?_
    · simp [joinL]
    · intro q hq
      simp only [List.mem_cons, List.not_mem_nil, or_false] at hq
      rcases hq with rfl | rfl | rfl | rfl | rfl <;> first | assumption | simp
end Mine
namespace Mine
open PySem.StrLaws
/-- what parse257 makes of the signs behind the first five -/
def dec : List Nat → List Nat
  | [] => []
  | c :: r => if c = 34 then (match r with
      | [] => []
      | d :: r' => if d = 34 then 34 :: dec r' else []) else c :: dec r
theorem dec_ne {c : Nat} {r : List Nat} (h : c ≠ 34) : dec (c :: r) = c :: dec r := by cases r <;> simp [dec, h]
def p257 (x : Str) : Str := ⟨(dec (x.cps.toList.drop 5)).toArray⟩
def Inv (x : Str) (i : Int) (d : Str) : Prop := d.cps.toList ++ dec (x.cps.toList.drop i.toNat) = dec (x.cps.toList.drop 5)
abbrev Word (x : Str) (i : Int) (d : Str) : Prop := Inv x i d ∧ 5 ≤ i ∧ i ≤ (x.length : Int) ∧ d.length ≤ i.toNat
theorem item_drop {x : Str} {i : Int} (h0 : 0 ≤ i) (h : i < (x.length : Int)) : ∃ c, Txt.item x i = ⟨#[c]⟩ ∧ x.cps.toList.drop i.toNat = c :: x.cps.toList.drop (i + 1).toNat := by
  have hi : i.toNat < x.cps.toList.length := by rw [← len_cps]; omega
  refine ⟨x.cps.toList[i.toNat], ?_, ?_⟩
  · have := item_at (x := x) (i := i.toNat) (List.getElem?_eq_getElem hi)
    rwa [Int.toNat_of_nonneg h0] at this
  · rw [List.drop_eq_getElem_cons hi, show (i + 1).toNat = i.toNat + 1 by omega]
theorem one_eq {c : Nat} : ((⟨#[c]⟩ : Str) == Str.ofString "\"") = decide (c = 34) := by
  have o : Str.ofString "\"" = ⟨#[34]⟩ := by decide
  rw [o, Bool.eq_iff_iff, beq_iff_eq, decide_eq_true_eq]
  constructor
  · intro h; injection h with h; injection h with h; injection h
  · rintro rfl; rfl
theorem inv_start {x : Str} (h : 5 ≤ x.length) : Word x 5 (Str.ofString "") := by
  refine ⟨?_, by omega, by omega, by decide⟩
  show ([] : List Nat) ++ _ = _
  rfl
theorem inv_two {x : Str} {i : Int} {d : Str} (I : Inv x i d) (h0 : 5 ≤ i) (h : i < (x.length : Int)) (hd : d.length ≤ i.toNat) (q : (Txt.item x i == Str.ofString "\"") = true)
    (h2 : ¬ (x.length : Int) ≤ i + 1) (q2 : (Txt.item x (i + 1) != Str.ofString "\"") = false) : Word x (i + 1 + 1) (d ++ Txt.item x i) := by
  obtain ⟨c, e, dr⟩ := item_drop (x := x) (i := i) (by omega) h
  obtain ⟨c2, e2, dr2⟩ := item_drop (x := x) (i := i + 1) (by omega) (by omega)
  rw [e, one_eq, decide_eq_true_eq] at q
  rw [bne, e2, one_eq, Bool.not_eq_false', decide_eq_true_eq] at q2
  subst q q2
  refine ⟨?_, by omega, by omega, ?_⟩
  · unfold Inv at I ⊢
    rw [dr, dr2] at I
    rw [cps_app, e, ← I]
    simp [dec]
  · rw [Str.length_append, e]
    show d.length + 1 ≤ _
    omega
theorem inv_one {x : Str} {i : Int} {d : Str} (I : Inv x i d) (h0 : 5 ≤ i) (h : i < (x.length : Int)) (hd : d.length ≤ i.toNat) (q : (Txt.item x i == Str.ofString "\"") = false) : Word x (i + 1) (d ++ Txt.item x i) := by
  obtain ⟨c, e, dr⟩ := item_drop (x := x) (i := i) (by omega) h
  rw [e, one_eq, decide_eq_false_iff_not] at q
  refine ⟨?_, by omega, by omega, ?_⟩
  · unfold Inv at I ⊢
    rw [dr] at I
    rw [cps_app, e, ← I, dec_ne q]
    simp
  · rw [Str.length_append, e]
    show d.length + 1 ≤ _
    omega
theorem p_of {x : Str} {d : Str} (h : d.cps.toList = dec (x.cps.toList.drop 5)) : d = p257 x := str_ext (by rw [h]; simp [p257])
theorem end_last {x : Str} {i : Int} {d : Str} (I : Inv x i d) (h0 : 5 ≤ i) (h : i < (x.length : Int)) (q : (Txt.item x i == Str.ofString "\"") = true) (h2 : (x.length : Int) ≤ i + 1) : d = p257 x := by
  obtain ⟨c, e, dr⟩ := item_drop (x := x) (i := i) (by omega) h
  rw [e, one_eq, decide_eq_true_eq] at q
  subst q
  refine p_of ?_
  unfold Inv at I
  rw [dr, List.drop_of_length_le (by rw [← len_cps]; omega)] at I
  rw [← I]
  simp [dec]
theorem end_odd {x : Str} {i : Int} {d : Str} (I : Inv x i d) (h0 : 5 ≤ i) (h : i < (x.length : Int)) (q : (Txt.item x i == Str.ofString "\"") = true) (h2 : ¬ (x.length : Int) ≤ i + 1) (q2 : (Txt.item x (i + 1) != Str.ofString "\"") = true) : d = p257 x := by
  obtain ⟨c, e, dr⟩ := item_drop (x := x) (i := i) (by omega) h
  obtain ⟨c2, e2, dr2⟩ := item_drop (x := x) (i := i + 1) (by omega) (by omega)
  rw [e, one_eq, decide_eq_true_eq] at q
  rw [bne, e2, one_eq, Bool.not_eq_true', decide_eq_false_iff_not] at q2
  subst q
  refine p_of ?_
  unfold Inv at I
  rw [dr, dr2] at I
  rw [← I]
  simp [dec, q2]
theorem end_all {x : Str} {i : Int} {d : Str} (I : Inv x i d) (h : ¬ i < (x.length : Int)) : d = p257 x := by
  refine p_of ?_
  unfold Inv at I
  rw [List.drop_of_length_le (by rw [← len_cps]; omega)] at I
  rw [← I]
  simp [dec]
/-- a 257 reply's head -/
def Head257 (x : Str) : Prop := x.cps.toList.take 5 = [50, 53, 55, 32, 34]
theorem head_len {x : Str} (h : Head257 x) : 5 ≤ x.length := by
  have := congrArg List.length h
  simp only [List.length_take, List.length_cons, List.length_nil] at this
  rw [len_cps]
  omega
theorem head_a {x : Str} (h : Head257 x) : (Txt.slice x none (some 3) != Str.ofString "257") = false := by
  have e : Txt.slice x none (some 3) = Str.ofString "257" := by
    have l := head_len h
    refine Eq.trans (slice_to (x := x) (j := 3) (by rw [← len_cps]; omega)) ?_
    have : x.cps.toList.take 3 = (x.cps.toList.take 5).take 3 := by rw [List.take_take]; rfl
    rw [this, h]
    decide
  rw [e]
  decide
theorem head_b {x : Str} (h : Head257 x) : (Txt.slice x (some 3) (some 5) != Str.ofString " \"") = false := by
  have e : Txt.slice x (some 3) (some 5) = Str.ofString " \"" := by
    have l := head_len h
    refine Eq.trans (slice_mid (x := x) (i := 3) (j := 5) (by omega) (by rw [← len_cps]; omega)) ?_
    have : (x.cps.toList.drop 3).take (5 - 3) = (x.cps.toList.take 5).drop 3 := by rw [List.drop_take]
    rw [this, h]
    decide
  rw [e]
  decide
end Mine
namespace Mine
open PySem.StrLaws
theorem mul_two (c : Nat) : (Txt.mul (⟨#[c]⟩ : Str) 2).cps.toList = [c, c] := by
  unfold Txt.mul
  rw [if_neg (by decide), if_neg (by simp [Str.length])]
  rfl
def marks (c : Nat) : Prop := c = 124 ∨ c = 33 ∨ c = 120 ∨ c = 47
theorem marks_free {c : Nat} {n : Int} (h : marks c) : c ∉ (Str.ofString (toString n)).cps.toList := by
  intro hm
  have := int_free hm
  unfold marks at h
  omega
theorem mark_at {r : Int} (h0 : 0 ≤ r) (h1 : r < 4) : ∃ c, Txt.item (Str.ofString "|!x/") r = ⟨#[c]⟩ ∧ marks c := by
  have : r = 0 ∨ r = 1 ∨ r = 2 ∨ r = 3 := by omega
  rcases this with rfl | rfl | rfl | rfl
  · exact ⟨124, by decide, .inl rfl⟩
  · exact ⟨33, by decide, .inr (.inl rfl)⟩
  · exact ⟨120, by decide, .inr (.inr (.inl rfl))⟩
  · exact ⟨47, by decide, .inr (.inr (.inr rfl))⟩
theorem reply_core {x : Str} {A S : List Nat} {c : Nat} {k p : Int} (h : x.cps.toList = A ++ 40 :: c :: ((Str.ofString (toString k)).cps.toList ++ c :: c :: ((Str.ofString (toString p)).cps.toList ++ c :: 41 :: S))) (h3 : A.take 3 = [50, 50, 57]) (hA : 40 ∉ A) (hc : marks c)
    (hp1 : -10000000000 < p) (hp2 : p < 10000000000) : Reply x p ⟨#[]⟩ (Str.ofString (toString k)) ⟨#[]⟩ (Str.ofString (toString p)) ⟨#[]⟩ := by
  have n41 : ∀ n : Int, 41 ∉ (Str.ofString (toString n)).cps.toList := by
    intro n hm
    have := int_free hm
    omega
  refine reply_is h h3 hA ?_ ?_ (marks_free hc) (marks_free hc) (n41 k) (n41 p) (int_reads hp1 hp2) (Nat.le_trans (int_len hp1 hp2) (by decide))
  · rcases hc with rfl | rfl | rfl | rfl <;> decide
  · rcases hc with rfl | rfl | rfl | rfl <;> decide
theorem reply_plain {mark : Str} {c : Nat} {k p : Int} (hm : mark = ⟨#[c]⟩) (hc : marks c) (hp1 : -10000000000 < p) (hp2 : p < 10000000000) :
    Reply (Str.ofString "229 (" ++ mark ++ Str.ofString (toString k) ++ Txt.mul mark 2 ++ Str.ofString (toString p) ++ mark ++ Str.ofString ")") p ⟨#[]⟩ (Str.ofString (toString k)) ⟨#[]⟩ (Str.ofString (toString p)) ⟨#[]⟩ := by
  have o1 : (Str.ofString "229 (").cps.toList = [50, 50, 57, 32, 40] := by decide
  have o3 : (Str.ofString ")").cps.toList = [41] := by decide
  subst hm
  refine reply_core (A := [50, 50, 57, 32]) (S := []) (c := c) ?_ rfl (by decide) hc hp1 hp2
  simp only [cps_app, o1, o3, mul_two, List.append_assoc, List.cons_append, List.nil_append]
end Mine
namespace Mine
def pairD (p : Int) : PyData := .tuple [.str (Str.ofString "mirror"), .int p]
theorem log_small {p : Int} (h1 : -10000000000 < p) (h2 : p < 10000000000) : p.natAbs.log2 < 1920 := by
  by_cases h : p.natAbs = 0
  · rw [h]; decide
  · have : p.natAbs.log2 < 40 := (Nat.log2_lt h).mpr (by omega)
    omega
theorem pair_len {p : Int} (h1 : -10000000000 < p) (h2 : p < 10000000000) : (pairD p).shown.length ≤ 30 := by
  unfold pairD
  simp only [PyData.shown, PyData.shownAll]
  have e : reprText (Str.ofString "mirror") = Str.ofString "'mirror'" := by decide +kernel
  rw [e]
  have hl := int_len h1 h2
  show (("(" : Str) ++ (Str.ofString "'mirror'" ++ (", " : Str) ++ Str.ofString (toString p)) ++ (")" : Str)).length ≤ 30
  simp only [Str.length_append]
  have a1 : (("(" : Str)).length = 1 := by decide
  have a2 : ((Str.ofString "'mirror'")).length = 8 := by decide
  have a3 : ((", " : Str)).length = 2 := by decide
  have a4 : ((")" : Str)).length = 1 := by decide
  omega
theorem pair_show {p : Int} (h1 : -10000000000 < p) (h2 : p < 10000000000) : (pairD p).showable = true := by
  unfold pairD
  simp only [PyData.showable, PyData.showableAll, Bool.true_and, Bool.and_true, decide_eq_true_eq]
  exact log_small h1 h2
abbrev tupOf (vs : List Value) : Obj := { cls := .type "tuple", data := .seq vs.toArray 0 }
theorem pair_via {h₀ : Heap} {news : List (Addr × Obj)} {a : Addr} {p : Int} {t1 t3 : Tok} (hm : (a, tupOf [.str (Str.ofString "mirror") t1, .int p t3]) ∈ news) : ReadsVia h₀ news (.ref a) (pairD p) :=
  ReadsVia.tuple hm (.cons (.str _ _) (.cons (.int _ _) .nil))
end Mine
namespace Mine
abbrev RP : Program := Challenge.rw_rl0013_02.row.prog
theorem fill : Challenge.rw_rl0013_02 = Challenge.rw_rl0013_02 ∧ hd.heap_39 = hd.heap_39 := by
  k_fill
  exact ⟨rfl, rfl⟩
def singleF (n : Int) : Bool := if n = 0 then false else Builtin.bitAnd n (n - 1) == 0
def highF (n : Int) : Int := ((Builtin.Int.intBits n : Nat) : Int) - 1
/-- where a call of a def stands: the frames below, the frame at hand, the written part, the ledger, the top -/
structure At (r : Nat) (w : World) (mean : ExcName → Option Value) (mg mb : Str → Option Value) (dp un : Nat) (cs : Scope) (outer : List Env) (A₀ : Around) (base h₀ : Heap) (L : Addr) (m : Str → Option Value) (news : List (Addr × Obj)) (h : Heap) : Prop where
  B : Below A₀ base outer h₀
  F : Fr h₀ L h m
  X : (hd.heap_39 w.params).In h₀
  N : News h₀ L h news
  T : Top hd.view_39 (looseW hd.view_39 []) mean mg mb h₀
  hk : cs.kind = .function
  hd : dp + r < recursionLimit
  hu : un + 10 * r < cLine
section
variable {w : World} {mean : ExcName → Option Value} {mg mb : Str → Option Value} {dp un : Nat} {gd : Option (List Code)} {cn : Str} {cs : Scope} {a : Addr} {ccd : Value} {cl : List (Str × Addr)} {outer : List Env} {A₀ : Around} {base h₀ : Heap} {L : Addr} {m : Str → Option Value} {news : List (Addr × Obj)} {s : Shared} {Q E : Value → Shared → Prop}
theorem c257 {x : Str} {t : Tok} (Z : At 2 w mean mg mb dp un cs outer A₀ base h₀ L m news s.heap) (hx : Head257 x) (hxl : x.length ≤ 1000)
    (hret : ∀ (t : Tok) (h' : Heap) (tk' : Nat), Fr h₀ L h' m → News h₀ L h' news → Q (.str (p257 x) t) { s with heap := h', toks := tk' }) :
    wpAny (model RP w) (ktrTop dp un gd cn cs L a ccd cl outer) (call (.ref 65) [.str x t]) Q E s := by
  obtain ⟨B, F, X, N, T, hk, hd, hu⟩ := Z
  have e1 := head_a hx
  have e2 := head_b hx
  have hx5 := head_len hx
  (k_with "exec While Compare cons nil" => k_while (fun _ i d => Word x i d) (fun _ i _ => x.length - i.toNat) "i" "dirname")
  (k_with "state" => first | exact inv_start hx5 | exact inv_two (by assumption) (by assumption) (by assumption) (by assumption) (by assumption) (by assumption) (by assumption) | exact inv_one (by assumption) (by assumption) (by assumption) (by assumption) (by assumption))
  w_top off
  refine wpAny_call ?_
  k_dflt cell_enter
  k_steps
  all_goals k_with_none
  · obtain rfl := end_last (x := x) (by assumption) (by assumption) (by assumption) (by assumption) (by assumption)
    exact hret _ _ _ (by k_asm) (by k_asm)
  · obtain rfl := end_odd (x := x) (by assumption) (by assumption) (by assumption) (by assumption) (by assumption) (by assumption)
    exact hret _ _ _ (by k_asm) (by k_asm)
  · obtain rfl := end_all (x := x) (by assumption) (by assumption)
    exact hret _ _ _ (by k_asm) (by k_asm)
theorem c229 {x : Str} {t : Tok} {l : Addr} {k : Int} {t1 t2 : Tok} {nn : Nat} {p0 p1 p2 p3 p4 : Str} {n : Int} (Z : At 2 w mean mg mb dp un cs outer A₀ base h₀ L m ((l, listOf [.str (Str.ofString "mirror") t1, .int k t2].toArray nn) :: news) s.heap)
    (hx : Reply x n p0 p1 p2 p3 p4) (hxl : x.length ≤ 1000)
    (hret : ∀ (D : Addr) (t3 : Tok) (h' : Heap) (tk' : Nat), Fr h₀ L h' m → News h₀ L h' ((D, tupOf [.str (Str.ofString "mirror") t1, .int n t3]) :: (l, listOf [.str (Str.ofString "mirror") t1, .int k t2].toArray nn) :: news) → l < D → AllLt D news → Q (.ref D) { s with heap := h', toks := tk' }) :
    wpAny (model RP w) (ktrTop dp un gd cn cs L a ccd cl outer) (call (.ref 58) [.str x t, .ref l]) Q E s := by
  obtain ⟨B, F, X, N, T, hk, hd, hu⟩ := Z
  obtain ⟨e1, f1, f2, f3, f4, f5, e3, e4, hn, hnl⟩ := hx
  (k_with "call type:int" => ((rename List.map _ _ = Txt.split _ _ => hq); (rename (List.map _ _)[Int.toNat 3]? = some _ => hy); rw [hq, e4] at hy; (replace hy := Option.some.inj hy); subst hy; refine KIN.call_text hn hnl ?_))
  w_top off
  refine wpAny_call ?_
  k_dflt cell_enter
  k_steps
  all_goals k_with_none
  · exfalso
    (rename List.map _ _ = Txt.split _ _ => hq)
    (rename ((_ : Nat) : Int) ≠ 5 => h5)
    have hq' := congrArg List.length hq
    rw [e4, List.length_map] at hq'
    simp only [List.length_cons, List.length_nil] at hq'
    omega
  · rename _ ∧ _ ∧ AllLt _ news => hlt
    rename News h₀ L _ _ => kN
    exact hret _ _ _ _ (by k_asm) (fun p hp => kN p (by
      rcases List.mem_cons.mp hp with rfl | hp
      · exact List.mem_cons_self ..
      · exact List.mem_cons_of_mem _ (List.mem_cons_of_mem _ hp))) hlt.2.1 hlt.2.2
theorem csingle {n : Int} {t : Tok} (Z : At 2 w mean mg mb dp un cs outer A₀ base h₀ L m news s.heap)
    (hret : ∀ (h' : Heap) (tk' : Nat), Fr h₀ L h' m → News h₀ L h' news → Q (.bool (singleF n)) { s with heap := h', toks := tk' }) :
    wpAny (model RP w) (ktrTop dp un gd cn cs L a ccd cl outer) (call (.ref 72) [.int n t]) Q E s := by
  obtain ⟨B, F, X, N, T, hk, hd, hu⟩ := Z
  w_top off
  refine wpAny_call ?_
  k_dflt cell_enter
  k_steps
  · rename n = 0 => h0
    have e : singleF n = false := by unfold singleF; rw [if_pos h0]
    rw [e] at hret
    exact hret _ _ (by k_asm) (by k_asm)
  · rename n ≠ 0 => h0
    have e : singleF n = (Builtin.bitAnd n (n - 1) == 0) := by unfold singleF; rw [if_neg h0]
    rw [e] at hret
    exact hret _ _ (by k_asm) (by k_asm)
theorem chigh {n : Int} {t : Tok} (Z : At 2 w mean mg mb dp un cs outer A₀ base h₀ L m news s.heap)
    (hret : ∀ (t : Tok) (h' : Heap) (tk' : Nat), Fr h₀ L h' m → News h₀ L h' news → Q (.int (highF n) t) { s with heap := h', toks := tk' }) :
    wpAny (model RP w) (ktrTop dp un gd cn cs L a ccd cl outer) (call (.ref 79) [.int n t]) Q E s := by
  obtain ⟨B, F, X, N, T, hk, hd, hu⟩ := Z
  w_top off
  refine wpAny_call ?_
  k_dflt cell_enter
  k_steps
  exact hret _ _ _ (by k_asm) (by k_asm)
end
end Mine
namespace Mine
theorem two_cases (n : Nat) : Int.fmod (n : Int) 2 = 0 ∨ Int.fmod (n : Int) 2 = 1 := by
  have h3 : 0 ≤ Int.fmod (n : Int) 2 := Int.fmod_nonneg_of_pos _ (by decide)
  have h4 : Int.fmod (n : Int) 2 < 2 := Int.fmod_lt_of_pos _ (by decide)
  omega
structure Park (P : Prop) : Prop where
  out : P
def normF (n : Int) : Int := (n + 1000000).fmod 2000001 - 1000000
theorem norm_lo (n : Int) : -1000000 ≤ normF n := by
  have h3 : 0 ≤ Int.fmod (n + 1000000) 2000001 := Int.fmod_nonneg_of_pos _ (by decide)
  unfold normF; omega
theorem norm_hi (n : Int) : normF n ≤ 1000000 := by
  have h4 : Int.fmod (n + 1000000) 2000001 < 2000001 := Int.fmod_lt_of_pos _ (by decide)
  unfold normF; omega
theorem row_len (w : List Int) (k : Nat) (h : k ≤ 16) : (List.map (fun k' => (k' + 1000000).fmod 2000001 - 1000000) (List.take k (List.take 16 w ++ [3, -1, 4, 1, -5, 9, 2, 6, -5, 3, 5, 8, -9, 7, 9, 3]))).length = k := by
  rw [List.length_map, List.length_take, List.length_append]
  simp only [List.length_cons, List.length_nil]
  omega
theorem row_in (w : List Int) (k : Nat) : ∀ n ∈ (List.map (fun k' => (k' + 1000000).fmod 2000001 - 1000000) (List.take k (List.take 16 w ++ [3, -1, 4, 1, -5, 9, 2, 6, -5, 3, 5, 8, -9, 7, 9, 3]))), -1000000 ≤ n ∧ n ≤ 1000000 := by
  intro n hn
  obtain ⟨x, _, rfl⟩ := List.mem_map.mp hn
  exact ⟨norm_lo x, norm_hi x⟩
end Mine
namespace Mine
open PyProof.V
/-- a loop's turn whose ledger may change: the state, what is bound, what holds -/
def VJ {σ : Type} (Led : σ → List (Addr × Obj)) (ps : σ → List (Str × Value)) (x : Str) (stored : List Str) (m₀ : Str → Option Value) (P : List Int → σ → Prop) (pre : List Int) (m : Str → Option Value) (nx : List (Addr × Obj)) : Prop :=
  ∃ c : σ, nx = Led c ∧ (∀ p ∈ ps c, m p.1 = some p.2) ∧ (∀ z, z ≠ x → (∀ p ∈ ps c, z ≠ p.1) → stored.contains z = false → m z = m₀ z) ∧ P pre c
def VEnd (h₀ : Heap) (L : Addr) (J : (Str → Option Value) → List (Addr × Obj) → Prop) (I : Addr) (o : Obj) (s₁ s₂ : Shared) : Prop :=
  ∃ h' tk m' nx, s₂ = { s₁ with heap := h', toks := tk } ∧ Fr h₀ L h' m' ∧ News h₀ L h' ((I, o) :: nx) ∧ (∀ p ∈ nx, p.1 ≠ I) ∧ J m' nx
def VPost (h₀ : Heap) (L : Addr) (J : (Str → Option Value) → List (Addr × Obj) → Prop) (I : Addr) (o : Obj) (s₁ : Shared) (Q : Flow → Shared → Prop) (f : Flow) (s₂ : Shared) : Prop :=
  match f with
  | .ret v => Q (.ret v) s₂
  | .brk => Q .next s₂
  | _ => VEnd h₀ L J I o s₁ s₂
theorem VEnd.intro {σ : Type} {Led : σ → List (Addr × Obj)} {ps : σ → List (Str × Value)} {x : Str} {stored : List Str} {m₀ : Str → Option Value} {P : List Int → σ → Prop} {pre : List Int} {h₀ : Heap} {L I : Addr} {o : Obj} {m' : Str → Option Value} {news' : List (Addr × Obj)} {s₁ : Shared} {h' : Heap} {tk : Nat} (c : σ)
    (F : Fr h₀ L h' m') (N : News h₀ L h' news') (hn : ∀ p ∈ (I, o) :: Led c, p ∈ news') (ho : ∀ p ∈ Led c, p.1 ≠ I) (hk : ∀ p ∈ ps c, m' p.1 = some p.2) (hr : ∀ z, z ≠ x → (∀ p ∈ ps c, z ≠ p.1) → stored.contains z = false → m' z = m₀ z) (hp : P pre c) :
    VEnd h₀ L (VJ Led ps x stored m₀ P pre) I o s₁ { s₁ with heap := h', toks := tk } :=
  ⟨h', tk, m', Led c, rfl, F, fun p hp => N p (hn p hp), ho, c, rfl, hk, hr, hp⟩
section
variable {prog : Program} {w : World} {A : Around} {E : Value → Shared → Prop} {s : Shared} {env : Env} {h₀ : Heap} {x : Str} {body : List Stmt} {Q : Flow → Shared → Prop}
theorem vary_range {σ : Type} {r : Addr} {a₀ b₀ : Int} {t₀ u₀ v₀ : Tok} {n : Nat} {m₀ : Str → Option Value} (Led : σ → List (Addr × Obj)) (ps : σ → List (Str × Value)) (stored : List Str) (P : List Int → σ → Prop) (c₀ : σ)
    (hh : A.handled = none) (hr : IsRange s.heap r a₀ b₀ 1 t₀ u₀ v₀) (hsmall : Builtin.Range.small a₀ b₀ 1 = true) (hn : Builtin.Range.rangeSize a₀ b₀ 1 = (n : Int)) (F : Fr h₀ env.locals s.heap m₀) (N : News h₀ env.locals s.heap (Led c₀)) (hk : ∀ p ∈ ps c₀, m₀ p.1 = some p.2) (hp : P [] c₀)
    (turn : ∀ (c : σ) (pre : List Int) (k : Int) t (u : Str → Option Value) h tk I o, k = a₀ + (pre.length : Int) → pre.length < n → P pre c →
      Fr h₀ env.locals h (fun y => if y = x then some (.int k t) else kstB (fun z => if stored.contains z then u z else m₀ z) (ps c) y) → News h₀ env.locals h ((I, o) :: Led c) → (∀ p ∈ Led c, p.1 ≠ I) →
      wpAny (model prog w) A (execs body env) (VPost h₀ env.locals (VJ Led ps x stored m₀ P (pre ++ [k])) I o { s with heap := h, toks := tk } Q) E { s with heap := h, toks := tk })
    (done : ∀ (c : σ) (u : Str → Option Value) h tk, P (rangeKs a₀ n) c → Fr h₀ env.locals h (fun y => if y = x then u y else kstB (fun z => if stored.contains z then u z else m₀ z) (ps c) y) → News h₀ env.locals h (Led c) → Q .next { s with heap := h, toks := tk }) :
    wpAny (model prog w) A (pyIter (.ref r)) (fun it s₂ => LoopAtV prog w A h₀ env x body Q E it s₂) E s := by
  refine wpAny_pyIter_range hr hsmall ?_
  have W : Walks prog w A s.heap.objs.size [s.heap.objs.size] [s.heap.objs.size] n (fun i v => i < n ∧ ∃ t, v = .int (a₀ + i * 1) t)
      (fun i h => IsRangeIter h s.heap.objs.size (a₀ + (i : Nat) * 1) ((n : Int) - (i : Nat)) 1) := (Walks.range hh _ a₀ 1 n).bound
  refine ⟨_, _, _, _, _, _, m₀, Led c₀, fun i m nx => VJ Led ps x stored m₀ P ((rangeKs a₀ n).take i) m nx, rfl, W, ?_, ?_, ?_, (by show IsRangeIter _ _ _ _ _; rw [hn]; simpa using Heap.get?_push_size _ rfl), F.push _, (fun p hp => ⟨Heap.get?_push_of_some _ (N p hp).1, (N p hp).2⟩), ⟨c₀, rfl, hk, fun _ _ _ _ => rfl, by simpa using hp⟩, ?_, ?_⟩
  · intro hm
    exact absurd F.ns.lt ((List.mem_singleton.mp hm) ▸ Nat.lt_irrefl _)
  · intro b hb
    rw [List.mem_singleton.mp hb]
    exact next_is_new F
  · intro p hp hI
    exact absurd (Heap.lt_size (N p hp).1) ((List.mem_singleton.mp hI) ▸ Nat.lt_irrefl _)
  · rintro i v m₁ news₁ s₁ own ⟨hh', tk', rfl⟩ hi ⟨_, t, rfl⟩ ⟨c, rfl, h1, h2, hp'⟩ hoff hown hget hall hst F₁ N₁
    have e1 : a₀ + (i : Int) * 1 = a₀ + (i : Int) := by omega
    rw [e1] at F₁
    have hk' : (rangeKs a₀ n)[i]? = some (a₀ + (i : Int)) := by simp [rangeKs, hi]
    have hs : (rangeKs a₀ n).take (i + 1) = (rangeKs a₀ n).take i ++ [a₀ + (i : Int)] := by simp [List.take_add_one, hk']
    have hlen : ((rangeKs a₀ n).take i).length = i := by rw [List.length_take, rangeKs_length]; omega
    dsimp only
    rw [hs]
    obtain ⟨o, ho⟩ : ∃ o, hh'.get? s.heap.objs.size = some o := ⟨_, hst⟩
    have hin := hall _ (List.mem_singleton.mpr rfl) (next_is_new F) _ ho
    have hone : ∀ p ∈ own, p = (s.heap.objs.size, o) := fun p hp => by
      have e := List.mem_singleton.mp (hown p hp)
      have g := hget p hp
      rw [e] at g
      have e2 := Option.some.inj (g.symm.trans ho)
      exact Prod.ext e e2
    have hne : ∀ p ∈ Led c, p.1 ≠ s.heap.objs.size := fun p hp e => hoff p hp (List.mem_singleton.mpr e)
    refine wpAny_mono (turn c _ _ t m₁ hh' tk' s.heap.objs.size o (by rw [hlen]) (by rw [hlen]; exact hi) hp' (kst_fr h1 h2 F₁) (fun p hp => N₁ p (by
      rcases List.mem_cons.mp hp with rfl | hp
      · exact List.mem_append_left _ hin
      · exact List.mem_append_right _ hp)) hne) (fun f s₂ p => ?_) fun _ _ e => e
    have fin : VEnd h₀ env.locals (VJ Led ps x stored m₀ P ((rangeKs a₀ n).take i ++ [a₀ + (i : Int)])) s.heap.objs.size o { s with heap := hh', toks := tk' } s₂ →
        LoopStepU h₀ env.locals [s.heap.objs.size] own (VJ Led ps x stored m₀ P ((rangeKs a₀ n).take i ++ [a₀ + (i : Int)])) { s with heap := hh', toks := tk' } .next s₂ := by
      rintro ⟨h', tk, m', nx, e, F', N', hn', hJ⟩
      refine ⟨rfl, h', tk, m', nx, e, F', fun p hp => ?_, fun p hp hq => hn' p hp (List.mem_singleton.mp hq), hJ⟩
      rcases List.mem_append.mp hp with hp | hp
      · rw [hone p hp]
        exact N' _ (List.mem_cons_self ..)
      · exact N' p (List.mem_cons_of_mem _ hp)
    cases f with
    | ret v => exact .ret p
    | brk => exact .brk p
    | next => exact .next (fin p)
    | cont => exact .cont (fin p)
  · rintro h' tk m' news' F' N' _ ⟨c, rfl, h1, h2, hp'⟩
    have hl : (rangeKs a₀ n).take n = rangeKs a₀ n := List.take_of_length_le (Nat.le_of_eq (rangeKs_length _ _))
    rw [hl] at hp'
    exact done c m' h' tk hp' (kst_frOut h1 h2 F') N'
end
end Mine
namespace Mine
open PyProof.V
/-- the values are tuples ('mirror', n) that stand on the ledger's tail -/
inductive TupsAre (tl : List (Addr × Obj)) : List Value → List Int → Prop
  | nil : TupsAre tl [] []
  | cons {a : Addr} {t1 t3 : Tok} {n : Int} {vs : List Value} {ns : List Int} (h : (a, tupOf [.str (Str.ofString "mirror") t1, .int n t3]) ∈ tl) (r : TupsAre tl vs ns) : TupsAre tl (.ref a :: vs) (n :: ns)
theorem TupsAre.mono {tl tl' : List (Addr × Obj)} (hs : ∀ p ∈ tl, p ∈ tl') : ∀ {vs : List Value} {ns : List Int}, TupsAre tl vs ns → TupsAre tl' vs ns
  | _, _, .nil => .nil
  | _, _, .cons h r => .cons (hs _ h) (TupsAre.mono hs r)
theorem TupsAre.snoc {tl : List (Addr × Obj)} {a : Addr} {t1 t3 : Tok} {n : Int} (h : (a, tupOf [.str (Str.ofString "mirror") t1, .int n t3]) ∈ tl) : ∀ {vs : List Value} {ns : List Int}, TupsAre tl vs ns → TupsAre tl (vs ++ [.ref a]) (ns ++ [n])
  | _, _, .nil => .cons h .nil
  | _, _, .cons h' r => .cons h' (TupsAre.snoc h r)
theorem TupsAre.length {tl : List (Addr × Obj)} : ∀ {vs : List Value} {ns : List Int}, TupsAre tl vs ns → vs.length = ns.length
  | _, _, .nil => rfl
  | _, _, .cons _ r => by simp [TupsAre.length r]
theorem TupsAre.get {tl : List (Addr × Obj)} : ∀ {vs : List Value} {ns : List Int}, TupsAre tl vs ns → ∀ (i : Nat) (n : Int), ns[i]? = some n → ∃ a t1 t3, vs[i]? = some (.ref a) ∧ (a, tupOf [.str (Str.ofString "mirror") t1, .int n t3]) ∈ tl
  | _, _, .nil, i, n, h => by simp at h
  | _, _, .cons h' r, 0, n, h => by
    simp at h; subst h
    exact ⟨_, _, _, rfl, h'⟩
  | _, _, .cons _ r, i + 1, n, h => by
    simp at h
    obtain ⟨a, t1, t3, e, hm⟩ := TupsAre.get r i n h
    exact ⟨a, t1, t3, by simpa using e, hm⟩
theorem take_next {ns : List Int} {i : Nat} (h : i < ns.length) : ns.take (i + 1) = ns.take i ++ [ns.getD i 0] := by
  rw [List.take_add_one, List.getElem?_eq_getElem h, List.getD_eq_getElem?_getD, List.getElem?_eq_getElem h]
  rfl
section
variable {prog : Program} {w : World} {A : Around} {E : Value → Shared → Prop} {s : Shared} {env : Env} {h₀ : Heap} {body : List Stmt} {Q : Flow → Shared → Prop}
abbrev ToldLed (tA rA : Addr) (rO : Obj) (p1 p2 p3 p4 p5 p6 : Addr × Obj) (c : List Value × Nat × List (Addr × Obj)) : List (Addr × Obj) := (tA, listOf c.1.toArray c.2.1) :: (rA, rO) :: p1 :: p2 :: p3 :: p4 :: p5 :: p6 :: c.2.2
abbrev ToldP (ns : List Int) (ads : List Addr) (pre : List Int) (c : List Value × Nat × List (Addr × Obj)) : Prop := TupsAre c.2.2 c.1 (ns.take pre.length) ∧ OwnOff c.2.2 ads
abbrev ToldJ (ns : List Int) (m₀ : Str → Option Value) (tA rA : Addr) (rO : Obj) (p1 p2 p3 p4 p5 p6 : Addr × Obj) (pre : List Int) : (Str → Option Value) → List (Addr × Obj) → Prop :=
  VJ (ToldLed tA rA rO p1 p2 p3 p4 p5 p6) (fun _ => []) (Str.ofString "k") [Str.ofString "mark"] m₀ (ToldP ns [tA, rA, p1.1, p2.1, p3.1, p4.1, p5.1, p6.1]) pre
theorem told_loop {r L : Addr} {b₀ : Int} {t₀ u₀ v₀ : Tok} {m₀ : Str → Option Value} {tA rA : Addr} {rO : Obj} {p1 p2 p3 p4 p5 p6 x2 x3 x4 x5 : Addr × Obj} (n : Nat) (ns : List Int)
    (hL : L = env.locals) (hh : A.handled = none) (hr : IsRange s.heap r 0 b₀ 1 t₀ u₀ v₀) (hsmall : Builtin.Range.small 0 b₀ 1 = true) (hn : Builtin.Range.rangeSize 0 b₀ 1 = (n : Int)) (F : Fr h₀ L s.heap m₀)
    (N : News h₀ L s.heap [(tA, listOf #[] 0), (rA, rO), x2, x3, x4, x5, p1, p2, p3, p4, p5, p6]) (hl : ns.length = n)
    (turn : ∀ (vs : List Value) (nn : Nat) (tl : List (Addr × Obj)) (pre : List Int) (k : Int) t (u : Str → Option Value) h tk I o, k = (pre.length : Int) → pre.length < n → vs.length = pre.length → ToldP ns [tA, rA, p1.1, p2.1, p3.1, p4.1, p5.1, p6.1] pre (vs, nn, tl) →
      Fr h₀ L h (fun y => if y = Str.ofString "k" then some (.int k t) else if y = Str.ofString "mark" then u y else m₀ y) → News h₀ L h ((tA, listOf vs.toArray nn) :: (I, o) :: (rA, rO) :: p1 :: p2 :: p3 :: p4 :: p5 :: p6 :: tl) →
      OwnOff tl [tA, rA, p1.1, p2.1, p3.1, p4.1, p5.1, p6.1, I] → (@Ne Nat tA I ∧ @Ne Nat rA I ∧ @Ne Nat p1.1 I ∧ @Ne Nat p2.1 I ∧ @Ne Nat p3.1 I ∧ @Ne Nat p4.1 I ∧ @Ne Nat p5.1 I ∧ @Ne Nat p6.1 I) →
      wpAny (model prog w) A (execs body env) (VPost h₀ L (ToldJ ns m₀ tA rA rO p1 p2 p3 p4 p5 p6 (pre ++ [k])) I o { s with heap := h, toks := tk } Q) E { s with heap := h, toks := tk })
    (done : ∀ (vs : List Value) (nn : Nat) (tl : List (Addr × Obj)) (u : Str → Option Value) h tk, vs.length = n → TupsAre tl vs ns → OwnOff tl [tA, rA, p1.1, p2.1, p3.1, p4.1, p5.1, p6.1] →
      Fr h₀ L h (fun y => if y = Str.ofString "k" then u y else if y = Str.ofString "mark" then u y else m₀ y) → News h₀ L h ((tA, listOf vs.toArray nn) :: (rA, rO) :: p1 :: p2 :: p3 :: p4 :: p5 :: p6 :: tl) → Q .next { s with heap := h, toks := tk }) :
    wpAny (model prog w) A (pyIter (.ref r)) (fun it s₂ => LoopAtV prog w A h₀ env (Str.ofString "k") body Q E it s₂) E s := by
  subst hL
  have em : ∀ (u : Str → Option Value) (v : Str → Option Value), (fun y => if y = Str.ofString "k" then v y else kstB (fun z => if [Str.ofString "mark"].contains z then u z else m₀ z) [] y) = fun y => if y = Str.ofString "k" then v y else if y = Str.ofString "mark" then u y else m₀ y := by
    intro u v
    funext y
    by_cases h : y = Str.ofString "k"
    · simp only [if_pos h]
    · simp only [if_neg h, kstB, List.contains_cons, List.contains_nil, Bool.or_false, beq_iff_eq]
  refine vary_range (ToldLed tA rA rO p1 p2 p3 p4 p5 p6) (fun _ => []) [Str.ofString "mark"] (ToldP ns [tA, rA, p1.1, p2.1, p3.1, p4.1, p5.1, p6.1]) ([], 0, []) hh hr hsmall hn F (fun p hp => N p (by
      simp only [ToldLed, List.mem_cons, List.not_mem_nil, or_false] at hp ⊢
      rcases hp with h | h | h | h | h | h | h | h <;> simp [h])) (fun _ hp => nomatch hp) ⟨by simpa using TupsAre.nil, fun _ hp => nomatch hp⟩ ?_ ?_
  · rintro ⟨vs, nn, tl⟩ pre k t u h tk I o hk hlt hP F₁ N₁ hne
    rw [Int.zero_add] at hk
    rw [em u (fun _ => some (.int k t))] at F₁
    refine turn vs nn tl pre k t u h tk I o hk hlt ?_ hP F₁ (fun p hp => N₁ p (by
      simp only [ToldLed, List.mem_cons] at hp ⊢
      rcases hp with h | h | h | h | h | h | h | h | h | h <;> simp [h])) ?_ ?_
    · have := hP.1.length
      rw [List.length_take] at this
      simp only at this
      omega
    · intro p hp b hb
      by_cases hbI : b = I
      · rw [hbI]
        exact hne p (by simp only [ToldLed, List.mem_cons]; simp [hp])
      · refine hP.2 p hp b ?_
        simp only [List.mem_cons, List.not_mem_nil, or_false] at hb ⊢
        rcases hb with h | h | h | h | h | h | h | h | h
        all_goals first | exact absurd h hbI | simp [h]
    · refine ⟨hne (tA, listOf vs.toArray nn) (List.mem_cons_self ..), hne (rA, rO) (List.mem_cons_of_mem _ (List.mem_cons_self ..)), hne _ (by simp [ToldLed]), hne _ (by simp [ToldLed]), hne _ (by simp [ToldLed]), hne _ (by simp [ToldLed]), hne _ (by simp [ToldLed]), hne _ (by simp [ToldLed])⟩
  · rintro ⟨vs, nn, tl⟩ u h tk hP F₁ N₁
    rw [em u u] at F₁
    have hp1 := hP.1
    rw [rangeKs_length, List.take_of_length_le (by omega)] at hp1
    exact done vs nn tl u h tk (by rw [hp1.length]; exact hl) hp1 hP.2 F₁ N₁
theorem told_end {ns : List Int} {m₀ m' : Str → Option Value} {tA rA I D L : Addr} {rO o : Obj} {p1 p2 p3 p4 p5 p6 : Addr × Obj} {q : Addr × Obj} {vs : List Value} {nn nn' : Nat} {tl : List (Addr × Obj)} {pre : List Int} {k n : Int} {t1 t3 : Tok} {h' : Heap} {tk : Nat} {s₁ : Shared}
    (F : Fr h₀ L h' m') (N : News h₀ L h' ((D, tupOf [.str (Str.ofString "mirror") t1, .int n t3]) :: q :: (tA, listOf (vs.toArray.push (.ref D)) nn') :: (I, o) :: (rA, rO) :: p1 :: p2 :: p3 :: p4 :: p5 :: p6 :: tl))
    (hP : ToldP ns [tA, rA, p1.1, p2.1, p3.1, p4.1, p5.1, p6.1] pre (vs, nn, tl)) (hlt : pre.length < ns.length) (hn : ns.getD pre.length 0 = n) (hO : OwnOff tl [tA, rA, p1.1, p2.1, p3.1, p4.1, p5.1, p6.1, I])
    (hI : @Ne Nat tA I ∧ @Ne Nat rA I ∧ @Ne Nat p1.1 I ∧ @Ne Nat p2.1 I ∧ @Ne Nat p3.1 I ∧ @Ne Nat p4.1 I ∧ @Ne Nat p5.1 I ∧ @Ne Nat p6.1 I) (hD : @Ne Nat tA D ∧ @Ne Nat rA D ∧ @Ne Nat p1.1 D ∧ @Ne Nat p2.1 D ∧ @Ne Nat p3.1 D ∧ @Ne Nat p4.1 D ∧ @Ne Nat p5.1 D ∧ @Ne Nat p6.1 D ∧ @Ne Nat I D)
    (hm : ∀ z, z ≠ Str.ofString "k" → z ≠ Str.ofString "mark" → m' z = m₀ z) :
    VEnd h₀ L (ToldJ ns m₀ tA rA rO p1 p2 p3 p4 p5 p6 (pre ++ [k])) I o s₁ { s₁ with heap := h', toks := tk } := by
  refine VEnd.intro (vs ++ [.ref D], nn', (D, tupOf [.str (Str.ofString "mirror") t1, .int n t3]) :: tl) F N ?_ ?_ (fun _ hp => nomatch hp) ?_ ⟨?_, ?_⟩
  · intro p hp
    simp only [ToldLed, List.mem_cons] at hp ⊢
    rcases hp with h | h | h | h | h | h | h | h | h | h | h
    all_goals first | (rw [h]; simp) | simp [h]
  · intro p hp
    simp only [ToldLed, List.mem_cons] at hp
    obtain ⟨i1, i2, i3, i4, i5, i6, i7, i8⟩ := hI
    rcases hp with h | h | h | h | h | h | h | h | h | h
    all_goals first | (rw [h]; first | assumption | exact fun e => hD.2.2.2.2.2.2.2.2 e.symm) | exact hO p h I (by simp)
  · intro z h1 _ h3
    refine hm z h1 fun e => ?_
    rw [e] at h3
    simp at h3
  · rw [List.length_append, List.length_singleton, take_next hlt, hn]
    exact (hP.1.mono fun p hp => List.mem_cons_of_mem _ hp).snoc (List.mem_cons_self ..)
  · intro p hp b hb
    obtain ⟨d1, d2, d3, d4, d5, d6, d7, d8, _⟩ := hD
    rcases List.mem_cons.mp hp with rfl | hp
    · simp only [List.mem_cons, List.not_mem_nil, or_false] at hb
      rcases hb with rfl | rfl | rfl | rfl | rfl | rfl | rfl | rfl
      all_goals (apply Ne.symm; assumption)
    · exact hP.2 p hp b hb
end
end Mine
namespace Mine
open PyProof.V
def toldD (ns : List Int) : PyData := .list (ns.map pairD)
theorem told_all {h₀ : Heap} {news tl : List (Addr × Obj)} (hs : ∀ p ∈ tl, p ∈ news) : ∀ {vs : List Value} {ns : List Int}, TupsAre tl vs ns → ReadsViaAll h₀ news vs (ns.map pairD)
  | _, _, .nil => ReadsViaAll.nil
  | _, _, .cons h r => ReadsViaAll.cons (pair_via (hs _ h)) (told_all hs r)
theorem told_via {h₀ : Heap} {news tl : List (Addr × Obj)} {tA : Addr} {vs : List Value} {nn : Nat} {ns : List Int} (hm : (tA, listOf vs.toArray nn) ∈ news) (hs : ∀ p ∈ tl, p ∈ news) (T : TupsAre tl vs ns) : ReadsVia h₀ news (.ref tA) (toldD ns) := fun h hk hn => by
  obtain ⟨as, r⟩ := told_all hs T h hk hn
  exact ⟨_, .list (hn _ hm) rfl rfl (by rw [List.toList_toArray]; exact r)⟩
theorem from_len (b : Nat) : ∀ (ts : List Str) (k : Nat) (acc : Str), (∀ t ∈ ts, t.length ≤ b) → (textFrom k acc ts).length ≤ acc.length + ts.length * (b + 2)
  | [], k, acc, _ => by show acc.length ≤ _; omega
  | t :: r, k, acc, h => by
    have h1 := h t (by simp)
    have ih := from_len b r (k + 1) (acc ++ (if k > 0 then ", " else "" : String) ++ t) (fun z hz => h z (List.mem_cons_of_mem _ hz))
    have e : (t :: r).length = r.length + 1 := rfl
    have h2 : (Str.ofString (if k > 0 then ", " else "" : String)).length ≤ 2 := by split <;> decide
    rw [Str.length_append, Str.length_append] at ih
    rw [e, Nat.add_mul]
    show (textFrom (k + 1) (acc ++ (if k > 0 then ", " else "" : String) ++ t) r).length ≤ _
    omega
theorem shown_all : ∀ (ds : List PyData), PyData.shownAll ds = ds.map PyData.shown
  | [] => rfl
  | d :: r => by simp [PyData.shownAll, shown_all r]
theorem told_len {ns : List Int} (hl : ns.length ≤ 16) (hb : ∀ n ∈ ns, -1000000 ≤ n ∧ n ≤ 1000000) : (toldD ns).shown.length ≤ 1000 := by
  unfold toldD
  simp only [PyData.shown]
  rw [shown_all]
  have h2 : ∀ x ∈ (List.map PyData.shown (List.map pairD ns)), x.length ≤ 30 := by
    intro x hx
    obtain ⟨d, hd, rfl⟩ := List.mem_map.mp hx
    obtain ⟨n, hn, rfl⟩ := List.mem_map.mp hd
    have := hb n hn
    exact pair_len (by omega) (by omega)
  have h3 := from_len 30 _ 0 ("[" : Str) h2
  rw [List.length_map, List.length_map] at h3
  have a1 : (("[" : Str)).length = 1 := by decide
  have a2 : (("]" : Str)).length = 1 := by decide
  unfold listText
  rw [Str.length_append, a2]
  rw [a1] at h3
  omega
theorem showable_all : ∀ {ns : List Int}, (∀ n ∈ ns, -1000000 ≤ n ∧ n ≤ 1000000) → PyData.showableAll (ns.map pairD) = true
  | [], _ => rfl
  | n :: r, h => by
    have h1 := h n (by simp)
    simp only [List.map_cons, PyData.showableAll, Bool.and_eq_true]
    exact ⟨pair_show (by omega) (by omega), showable_all fun m hm => h m (List.mem_cons_of_mem _ hm)⟩
theorem nodict_all : ∀ (ns : List Int), PyData.hasDictAll (ns.map pairD) = false
  | [] => rfl
  | n :: r => by
    simp only [List.map_cons, PyData.hasDictAll, nodict_all r, Bool.or_false]
    rfl
theorem depth_all : ∀ (ns : List Int), PyData.depthAll (ns.map pairD) ≤ 1
  | [] => by decide
  | n :: r => by
    have h2 := depth_all r
    have h1 : (pairD n).depth = 1 := rfl
    simp only [List.map_cons, PyData.depthAll, h1]
    omega
theorem str_told {prog : Program} {w : World} {A : Around} {E : Value → Shared → Prop} {s : Shared} {h₀ : Heap} {L a : Addr} {m : Str → Option Value} {news : List (Addr × Obj)} {ns : List Int} {Q : Value → Shared → Prop}
    (F : Fr h₀ L s.heap m) (N : News h₀ L s.heap news) (r : ReadsVia h₀ news (.ref a) (toldD ns)) (hl : ns.length ≤ 16) (hb : ∀ n ∈ ns, -1000000 ≤ n ∧ n ≤ 1000000) (hg : A.guards = some []) (hu : A.units + 10 < cLine)
    (hQ : ∀ h' u tk, Fr h₀ L h' m → News h₀ L h' news → Q (.str (toldD ns).shown u) { s with heap := h', toks := tk }) : wpAny (model prog w) A (call (.type "str") [.ref a]) Q E s := by
  refine str_via r F N ?_ ?_ rfl hg ?_ hQ (Nat.le_trans (told_len hl hb) (by rw [sizeLine_eq]; decide))
  · exact showable_all hb
  · exact nodict_all ns
  · have h1 := depth_all ns
    have : (toldD ns).depth = PyData.depthAll (ns.map pairD) + 1 := by simp [toldD, PyData.depth, Nat.add_comm]
    omega
theorem ne_strs {prog : Program} {w : World} {A : Around} {E : Value → Shared → Prop} {s : Shared} {Q : Value → Shared → Prop} {x : Str} {t u : Tok} (h : Q (.bool false) s) : wpAny (model prog w) A (compareOp .NotEq (.str x t) (.str x u)) Q E s := by
  refine PySem.P.ne_str ?_
  rw [bne_self_eq_false]
  exact h
end Mine
namespace Mine
open PyProof.V
section
variable {prog : Program} {w : World} {A : Around} {h₀ : Heap} {L : Addr} {m : Str → Option Value} {env : Env} {x : Str} {scope : Scope} {cl : List (Str × Addr)} {s : Shared} {S : List (Addr × Obj) → Prop} {Fin : List Value → List (Addr × Obj) → Prop}
/-- what a turn leaves: a fresh tuple ahead of the tail -/
def TupEl (fx tl : List (Addr × Obj)) (k : Int) (y : Value) (news' : List (Addr × Obj)) : Prop := ∃ T t1 t3, y = .ref T ∧ news' = fx ++ (T, tupOf [.str (Str.ofString "mirror") t1, .int k t3]) :: tl
theorem tup_rest {es : List PySem.Expr} {tp : Pos} {kk : Nat} {vs : List Value} {ns : List Int} {tl : List (Addr × Obj)} (fx : List (Addr × Obj)) (hi : IntsAre vs ns)
    (turn : ∀ k t I oI C oC D m₂ ys tl' h tk (E' : Value → Shared → Prop), k ∈ ns → LCg.NsObj oC m₂ → m₂ x = some (.int k t) → Fr h₀ L h m → News h₀ L h ((I, oI) :: (C, oC) :: (D, LCg.lst ys) :: (fx ++ tl')) → LCg.Off3 I C D (fx ++ tl') → ((@Ne Nat I C) ∧ (@Ne Nat I D) ∧ (@Ne Nat C D)) →
      wpAny (model prog w) A (eval (.Tuple es kk tp) (compEnvC scope cl C env)) (LCg.CompEnd h₀ L m { s with heap := h, toks := tk } I oI C oC D (LCg.lst ys) S (fun y news' => TupEl fx tl' k y news')) E' { s with heap := h, toks := tk })
    (fin : ∀ ys tl', TupsAre tl' ys ns → (∀ p ∈ tl, p ∈ tl') → Fin ys (fx ++ tl')) : LCg.CompRest prog w A h₀ L m env (.Tuple es kk tp) x scope cl s S (fun i v => vs.toArray[i]? = some v) Fin vs.toArray.size 0 [] (fx ++ tl) := by
  have hsz : vs.toArray.size = ns.length := by rw [List.size_toArray]; exact hi.length
  rw [hsz]
  have key : ∀ (j i : Nat) (ys : List Value) (tl' : List (Addr × Obj)), i + j = ns.length → TupsAre tl' ys (ns.take i) → (∀ p ∈ tl, p ∈ tl') → LCg.CompRest prog w A h₀ L m env (.Tuple es kk tp) x scope cl s S (fun i v => vs.toArray[i]? = some v) Fin j i ys (fx ++ tl') := by
    intro j
    induction j with
    | zero =>
      intro i ys tl' hi' hT hs
      have e : i = ns.length := by omega
      subst e
      rw [List.take_length] at hT
      exact LCg.CompRest.zero (fin ys tl' hT hs)
    | succ j ih =>
      intro i ys tl' hi' hT hs
      refine LCg.CompRest.succ ?_
      intro v I oI C oC D m₂ h tk E' hv hC hx F N off ne
      have hlt : i < ns.length := by omega
      obtain ⟨t, ht⟩ := hi.get i ns[i] (by simp [hlt])
      have hv' : v = .int ns[i] t := by
        have : vs[i]? = some v := by simpa using hv
        rw [ht] at this
        exact (Option.some.inj this).symm
      rw [hv'] at hx
      refine wpAny_mono (turn ns[i] t I oI C oC D m₂ ys tl' h tk E' (List.getElem_mem _) hC hx F N off ne) (fun y s₂ hq => ?_) fun _ _ e => e
      obtain ⟨h', tk', nw, e, F', N', off', hS, T, t1, t3, rfl, rfl⟩ := hq
      refine ⟨h', tk', _, e, F', N', off', hS, ih (i + 1) _ _ (by omega) ?_ (fun p hp => List.mem_cons_of_mem _ (hs p hp))⟩
      have : ns.take (i + 1) = ns.take i ++ [ns[i]] := by rw [List.take_add_one, List.getElem?_eq_getElem hlt]; rfl
      rw [this]
      exact (hT.mono fun p hp => List.mem_cons_of_mem _ hp).snoc (List.mem_cons_self ..)
  exact key ns.length 0 [] tl (by omega) (by simpa using TupsAre.nil) fun _ hp => hp
theorem tup_end {fx tl' : List (Addr × Obj)} {I C D T : Addr} {oI oC oD : Obj} {k : Int} {t1 t3 : Tok} {h' : Heap} {tk : Nat} (F : Fr h₀ L h' m)
    (N : News h₀ L h' ((T, tupOf [.str (Str.ofString "mirror") t1, .int k t3]) :: (I, oI) :: (C, oC) :: (D, oD) :: (fx ++ tl'))) (off : LCg.Off3 I C D (fx ++ tl')) (hT : (@Ne Nat T I) ∧ (@Ne Nat T C) ∧ (@Ne Nat T D))
    (hS : S (fx ++ (T, tupOf [.str (Str.ofString "mirror") t1, .int k t3]) :: tl')) :
    LCg.CompEnd h₀ L m s I oI C oC D oD S (fun y news' => TupEl fx tl' k y news') (.ref T) { s with heap := h', toks := tk } := by
  refine LCg.CompEnd.intro F N (fx ++ (T, tupOf [.str (Str.ofString "mirror") t1, .int k t3]) :: tl') ?_ ?_ hS ⟨T, t1, t3, rfl, rfl⟩
  · intro p hp
    simp only [List.mem_cons, List.mem_append] at hp ⊢
    rcases hp with h | h | h | h | h | h
    all_goals simp [h]
  · refine LCg.Off3.of fun p hp => ?_
    rcases List.mem_append.mp hp with h | h
    · exact off.mem p (List.mem_append_left _ h)
    · rcases List.mem_cons.mp h with rfl | h
      · exact hT
      · exact off.mem p (List.mem_append_right _ h)
end
end Mine
namespace Mine
open PyProof.V
/-- the environment of a comprehension whose target is a cell -/
abbrev envXC (scope : Scope) (x : Str) (cl : List (Str × Addr)) (C K : Addr) (env : Env) : Env := compEnvC scope ((x, K) :: cl) C env
abbrev emptyCell : Obj := { cls := .type "cell", data := .cell none }
section
variable {M : Model} {A : Around} {E : Value → Shared → Prop} {s : Shared}
theorem newEnv_cell {scope : Scope} {globals : Addr} {cl : List (Str × Addr)} {qual : Str} {env : Env} {x : Str} {Q : Env → Shared → Prop}
    (hcf : ∀ n, cellsFrom n scope.names cl = (x, n) :: cl) (hpc : ∀ h, pushCells h scope.names = h.push emptyCell)
    (h : Q { scope, locals := s.heap.objs.size, globals, cells := (x, s.heap.objs.size + 1) :: cl, qual, func := none, code := env.code, frame := env.frame, builtins := env.builtins }
      { s with heap := (s.heap.push { cls := .type "dict", data := .dict #[] }).push emptyCell }) :
    wpAny M A (newFunctionEnv scope globals cl [] qual none .none (some env)) Q E s := by
  simp only [newFunctionEnv, Option.isSome_some, if_true]
  refine wpAny_bind (wpAny_alloc ?_)
  refine wpAny_bind (wpAny_layCells _ (fun name kind cells => by cases hkc : kind == NameKind.cell <;> simp [hkc]) _ _ _ _ ?_)
  rw [hcf, hpc]
  rw [show ({ s with heap := s.heap.push { cls := .type "dict", data := .dict #[] } } : Shared).heap.objs.size = s.heap.objs.size + 1 from Heap.size_push ..]
  simp only [List.forIn_nil]
  exact wpAny_bind (wpAny_pure (wpAny_pure h))
end
def Off4 (I C K D : Addr) : List (Addr × Obj) → Prop
  | [] => True
  | p :: r => ((@Ne Nat p.1 I) ∧ (@Ne Nat p.1 C) ∧ (@Ne Nat p.1 K) ∧ (@Ne Nat p.1 D)) ∧ Off4 I C K D r
theorem Off4.mem {I C K D : Addr} : ∀ {l : List (Addr × Obj)}, Off4 I C K D l → ∀ p ∈ l, p.1 ≠ I ∧ p.1 ≠ C ∧ p.1 ≠ K ∧ p.1 ≠ D
  | [], _, _, h => nomatch h
  | _ :: _, x, p, h => by
    rcases List.mem_cons.mp h with rfl | h
    · exact x.1
    · exact Off4.mem x.2 p h
theorem Off4.of {I C K D : Addr} : ∀ {l : List (Addr × Obj)}, (∀ p ∈ l, p.1 ≠ I ∧ p.1 ≠ C ∧ p.1 ≠ K ∧ p.1 ≠ D) → Off4 I C K D l
  | [], _ => trivial
  | _ :: _, h => ⟨h _ List.mem_cons_self, Off4.of fun p hp => h p (List.mem_cons_of_mem _ hp)⟩
theorem off1_of {D : Addr} : ∀ {l : List (Addr × Obj)}, (∀ p ∈ l, p.1 ≠ D) → LCg.Off1 D l
  | [], _ => trivial
  | _ :: _, h => ⟨h _ List.mem_cons_self, off1_of fun p hp => h p (List.mem_cons_of_mem _ hp)⟩
def EndX (h₀ : Heap) (L : Addr) (m : Str → Option Value) (s₁ : Shared) (I : Addr) (oI : Obj) (C : Addr) (oC : Obj) (K : Addr) (oK : Obj) (D : Addr) (oD : Obj) (S : List (Addr × Obj) → Prop) (rest : Value → List (Addr × Obj) → Prop) (y : Value) (s₂ : Shared) : Prop :=
  ∃ h' tk news', s₂ = { s₁ with heap := h', toks := tk } ∧ Fr h₀ L h' m ∧ News h₀ L h' ((I, oI) :: (C, oC) :: (K, oK) :: (D, oD) :: news') ∧ Off4 I C K D news' ∧ S news' ∧ rest y news'
theorem EndX.intro {h₀ : Heap} {L I C K D : Addr} {m : Str → Option Value} {s₁ : Shared} {oI oC oK oD : Obj} {S : List (Addr × Obj) → Prop} {rest : Value → List (Addr × Obj) → Prop} {y : Value} {h' : Heap} {tk : Nat} {all : List (Addr × Obj)}
    (F : Fr h₀ L h' m) (N : News h₀ L h' all) (news' : List (Addr × Obj)) (sub : ∀ p ∈ (I, oI) :: (C, oC) :: (K, oK) :: (D, oD) :: news', p ∈ all) (off : Off4 I C K D news') (hS : S news') (r : rest y news') :
    EndX h₀ L m s₁ I oI C oC K oK D oD S rest y { s₁ with heap := h', toks := tk } := ⟨h', tk, news', rfl, F, fun p hp => N p (sub p hp), off, hS, r⟩
abbrev Apart4 (I C K D : Addr) : Prop := (@Ne Nat I C) ∧ (@Ne Nat I K) ∧ (@Ne Nat I D) ∧ (@Ne Nat C K) ∧ (@Ne Nat C D) ∧ (@Ne Nat K D)
def RestX (prog : Program) (w : World) (A : Around) (h₀ : Heap) (L : Addr) (m : Str → Option Value) (env : Env) (elt : Expr) (x : Str) (scope : Scope) (cl : List (Str × Addr)) (s : Shared) (S : List (Addr × Obj) → Prop) (P : Nat → Value → Prop)
    (Fin : List Value → List (Addr × Obj) → Prop) : Nat → Nat → List Value → List (Addr × Obj) → Prop
  | 0, _, ys, news => Fin ys news
  | k + 1, i, ys, news => ∀ v I oI C oC K oK D h tk (E' : Value → Shared → Prop), P i v → oK.data = .cell (some v) → Fr h₀ L h m → News h₀ L h ((I, oI) :: (C, oC) :: (K, oK) :: (D, LCg.lst ys) :: news) → Off4 I C K D news → Apart4 I C K D →
      wpAny (model prog w) A (eval elt (envXC scope x cl C K env)) (EndX h₀ L m { s with heap := h, toks := tk } I oI C oC K oK D (LCg.lst ys) S (fun y news' => RestX prog w A h₀ L m env elt x scope cl s S P Fin k (i + 1) (ys ++ [y]) news')) E' { s with heap := h, toks := tk }
section
variable {prog : Program} {w : World} {A : Around} {E : Value → Shared → Prop} {s : Shared} {h₀ : Heap} {L : Addr} {m : Str → Option Value} {env : Env}
theorem RestX.zero {elt : Expr} {x : Str} {scope : Scope} {cl : List (Str × Addr)} {S : List (Addr × Obj) → Prop} {P : Nat → Value → Prop} {Fin : List Value → List (Addr × Obj) → Prop} {i : Nat} {ys : List Value} {news : List (Addr × Obj)} (h : Fin ys news) :
    RestX prog w A h₀ L m env elt x scope cl s S P Fin 0 i ys news := h
theorem block_X {elt iter : Expr} {x : Str} {px : Pos} {scope : Scope} {cl : List (Str × Addr)} {pos : Pos} {s₂ : Shared} {I : Addr} {fp : List Addr} {n : Nat} {P : Nat → Value → Prop} {St : Nat → Heap → Prop} {S : List (Addr × Obj) → Prop} {news : List (Addr × Obj)}
    {Fin : List Value → List (Addr × Obj) → Prop} {RR : Value → Addr → Result → Shared → Prop}
    (W : Walks prog w A I fp [I] n P St) (hsz : n ≤ sizeLine) (hIo : ∀ i h, St i h → ∃ o, h.get? I = some o)
    (hSt : ∀ i h h' o nw, St i h → h.get? I = some o → h'.get? I = some o → (∀ b o, h₀.get? b = some o → h'.get? b = some o) → News h₀ L h' nw → S nw → St i h')
    (hcf : ∀ n, cellsFrom n scope.names cl = (x, n) :: cl) (hpc : ∀ h, pushCells h scope.names = h.push emptyCell) (hkind : scope.kind = .function) (hx : (relabel scope env).names.lookup x = some .cell) (hst : St 0 s₂.heap) (hfp : ∀ b ∈ fp, b < s₂.heap.objs.size)
    (F : Fr h₀ L s₂.heap m) (N : News h₀ L s₂.heap news) (hIL : L ≠ I) (hI₀ : h₀.get? I = none) (off : ∀ p ∈ news, p.1 ≠ I) (hS : S news)
    (R : RestX prog w A h₀ L m env elt x scope cl s₂ S P Fin n 0 [] news)
    (hRR : ∀ D C h tk m' ys news', Fr h₀ L h m → News h₀ L h ((D, LCg.lst ys) :: news') → LCg.Off1 D news' → h.Ns C m' → h₀.get? C = none → h₀.get? D = none → C ≠ L → D ≠ L → C ≠ D → (∀ p ∈ news', p.1 ≠ C) → Fin ys news' → RR (.ref D) C (.ok .next) { s₂ with heap := h, toks := tk }) :
    wpAny (model prog w) A (newList []) (fun acc s₃ => wpAny (model prog w) A (newFunctionEnv scope env.globals cl [] env.qual none .none (some env)) (fun cenv s₄ =>
      codeAny (model prog w) A (.compStart (.ListComp elt [⟨.Name x px, iter, [], 0⟩] scope pos) 0 (.ref I) acc { cenv with scope := relabel scope env }) (RR acc cenv.locals) s₄) E s₃) E s₂ := by
  refine wpAny_newObj_type (newEnv_cell hcf hpc ?_)
  dsimp only
  generalize hH2 : s₂.heap.push { cls := .type "list", dict := none, data := .seq ([] : List Value).toArray } = H2
  have hC : H2.objs.size = s₂.heap.objs.size + 1 := by rw [← hH2, Heap.size_push]
  generalize hH1 : (H2.push { cls := .type "dict", data := .dict #[] }).push emptyCell = h₁
  have hns₁ : h₁.Ns H2.objs.size (fun _ => none) := by
    rw [← hH1]
    exact (Heap.Ns.new H2 (.type "dict")).keeps fun b o e => Heap.get?_push_of_some _ e
  have hK : h₁.get? (H2.objs.size + 1) = some emptyCell := by
    rw [← hH1]
    have := Heap.get?_push_size (H2.push { cls := .type "dict", data := .dict #[] }) (o := emptyCell) rfl
    rwa [Heap.size_push] at this
  have up : ∀ b o, H2.get? b = some o → h₁.get? b = some o := fun b o e => by
    rw [← hH1]
    exact Heap.get?_push_of_some _ (Heap.get?_push_of_some _ e)
  have below : ∀ b, b < s₂.heap.objs.size → b ≠ H2.objs.size ∧ b ≠ s₂.heap.objs.size ∧ b ≠ H2.objs.size + 1 := fun b hb => by
    have hb' : @LT.lt Nat _ b s₂.heap.objs.size := hb
    refine ⟨fun e => ?_, fun e => ?_, fun e => ?_⟩
    · have e' : @Eq Nat b H2.objs.size := e
      omega
    · have e' : @Eq Nat b s₂.heap.objs.size := e
      omega
    · have e' : @Eq Nat b (H2.objs.size + 1) := e
      omega
  have hDC : s₂.heap.objs.size ≠ H2.objs.size := by rw [hC]; exact Nat.ne_of_lt (Nat.lt_succ_self _)
  have hDK : s₂.heap.objs.size ≠ H2.objs.size + 1 := by rw [hC]; omega
  have hCK : H2.objs.size ≠ H2.objs.size + 1 := by omega
  have hDf : s₂.heap.objs.size ∉ fp := fun hm => Nat.lt_irrefl _ (hfp _ hm)
  have hCf : H2.objs.size ∉ fp := fun hm => by have := hfp _ hm; rw [hC] at this; exact Nat.lt_irrefl _ (Nat.lt_of_succ_lt this)
  have hKf : H2.objs.size + 1 ∉ fp := fun hm => by have : @LT.lt Nat _ _ _ := hfp _ hm; omega
  have hIf : I ∈ fp := W.sub I (List.mem_singleton.mpr rfl)
  have hIlt : I < s₂.heap.objs.size := hfp I hIf
  have old : ∀ b o, s₂.heap.get? b = some o → h₁.get? b = some o := fun b o e => up b o (hH2 ▸ Heap.get?_push_of_some _ e)
  have hacc : h₁.get? s₂.heap.objs.size = some (LCg.lst []) := up _ _ (hH2 ▸ Heap.get?_push_size _ rfl)
  have hst₁ : St 0 h₁ := W.frame _ _ _ hst fun b _ o e => old b o e
  have fresh : ∀ a, s₂.heap.objs.size ≤ a → s₂.heap.get? a = none := fun a ha => by
    cases e : s₂.heap.get? a with
    | none => rfl
    | some o' => exact absurd (Heap.lt_size e) (Nat.not_lt.mpr ha)
  have fresh₀ : ∀ a, s₂.heap.objs.size ≤ a → h₀.get? a = none := fun a ha => by
    cases e : h₀.get? a with
    | none => rfl
    | some o' => have := F.keep a o' e; rw [fresh a ha] at this; cases this
  have hD₀ : h₀.get? s₂.heap.objs.size = none := fresh₀ _ (Nat.le_refl _)
  have hC₀ : h₀.get? H2.objs.size = none := fresh₀ _ (by rw [hC]; exact Nat.le_succ _)
  have hK₀ : h₀.get? (H2.objs.size + 1) = none := fresh₀ _ (by rw [hC]; exact Nat.le_succ_of_le (Nat.le_succ _))
  have hLlt : L < s₂.heap.objs.size := F.ns.lt
  have hDL : s₂.heap.objs.size ≠ L := Ne.symm (below L hLlt).2.1
  have hCL : H2.objs.size ≠ L := Ne.symm (below L hLlt).1
  have hKL : H2.objs.size + 1 ≠ L := Ne.symm (below L hLlt).2.2
  have hCI : I ≠ H2.objs.size := (below I hIlt).1
  have hDI : I ≠ s₂.heap.objs.size := (below I hIlt).2.1
  have hKI : I ≠ H2.objs.size + 1 := (below I hIlt).2.2
  have off₀ : Off4 I H2.objs.size (H2.objs.size + 1) s₂.heap.objs.size news := Off4.of fun p hp => ⟨off p hp, (below _ (Heap.lt_size (N p hp).1)).1, (below _ (Heap.lt_size (N p hp).1)).2.2, (below _ (Heap.lt_size (N p hp).1)).2.1⟩
  have loop : ∀ s₃ : Shared, s₃ = { s₂ with heap := h₁ } →
      codeAny (model prog w) A (.compLoop (.ListComp elt [⟨.Name x px, iter, [], 0⟩] scope pos) 0 (.ref I) (.ref s₂.heap.objs.size) (envXC scope x cl H2.objs.size (H2.objs.size + 1) env))
        (RR (.ref s₂.heap.objs.size) H2.objs.size) s₃ := by
    rintro s₃ rfl
    refine codeAny_compLoop_tests
      (fun k s' => ∃ h' tk i ys m' oK v₀ news', s' = { s₂ with heap := h', toks := tk } ∧ i ≤ n ∧ k = n + 1 - i ∧ ys.length = i ∧ St i h' ∧ Fr h₀ L h' m ∧ h'.Ns H2.objs.size m' ∧ h'.get? (H2.objs.size + 1) = some oK ∧ oK.data = .cell v₀ ∧
        News h₀ L h' ((s₂.heap.objs.size, LCg.lst ys) :: news') ∧ Off4 I H2.objs.size (H2.objs.size + 1) s₂.heap.objs.size news' ∧ S news' ∧ RestX prog w A h₀ L m env elt x scope cl s₂ S P Fin (n - i) i ys news') ?_ (n + 1)
      ⟨h₁, _, 0, [], _, emptyCell, none, news, rfl, Nat.zero_le _, rfl, rfl, hst₁, F.keeps old, hns₁, hK, rfl, fun p hp => ?_, off₀, hS, R⟩
    · rintro k s' ⟨h', tk, i, ys, m', oK, v₀, news', rfl, hi, rfl, hyl, hst', F', hn', hK', hKd, N', off', hS', R'⟩
      have off4 := off'.mem
      by_cases hlt : i < n
      · obtain ⟨j, hj⟩ : ∃ j, n - i = j + 1 := ⟨n - i - 1, by omega⟩
        rw [hj] at R'
        refine W.item i _ _ _ hlt hst' fun v h₂ tk₂ hPv hst₂ hk₂ => ?_
        have hn₂ : h₂.Ns H2.objs.size m' := hn'.at' fun o e => hk₂ _ o (by simpa using Ne.symm hCI) e
        have hK₂ : h₂.get? (H2.objs.size + 1) = some oK := hk₂ _ _ (by simpa using Ne.symm hKI) hK'
        refine wpAny_assign_Name (wpAny_storeName_cell (c := H2.objs.size + 1) (v₀ := v₀) hkind hx (by simp [compEnvC, List.lookup_cons]) ⟨oK, hK₂, hKd⟩ (fun h₃ hc₃ hs₃ => ?_))
        obtain ⟨oK₃, hK₃, hKd₃⟩ := hc₃
        refine wpAny_tests_nil ?_
        simp only [if_true]
        have hst₃ : St (i + 1) h₃ := W.frame _ _ _ hst₂ fun b hb o e => hs₃.extBut b o (fun q => hKf (by have q' : b = H2.objs.size + 1 := q; rw [← q']; exact hb)) e
        obtain ⟨oI, heI⟩ := hIo _ _ hst₃
        have hn₃ : h₃.Ns H2.objs.size m' := hn₂.sameBut hs₃ hCK
        obtain ⟨oC, heC, hoC⟩ := LCg.ns_obj hn₃
        have F₃ : Fr h₀ L h₃ m := (LCg.fr_but F' hk₂ hIL hI₀).change hs₃ hKL hK₀
        have N₂ : News h₀ L h₂ ((s₂.heap.objs.size, LCg.lst ys) :: news') := LCg.news_but N' hk₂ fun p hp => by
          rcases List.mem_cons.mp hp with rfl | hp
          · exact Ne.symm hDI
          · exact (off4 p hp).1
        have N₃ : News h₀ L h₃ ((I, oI) :: (H2.objs.size, oC) :: (H2.objs.size + 1, oK₃) :: (s₂.heap.objs.size, LCg.lst ys) :: news') := fun p hp => by
          rcases List.mem_cons.mp hp with rfl | hp
          · exact ⟨heI, Ne.symm hIL, hI₀⟩
          · rcases List.mem_cons.mp hp with rfl | hp
            · exact ⟨heC, hCL, hC₀⟩
            · rcases List.mem_cons.mp hp with rfl | hp
              · exact ⟨hK₃, hKL, hK₀⟩
              · have z := N₂ p hp
                refine ⟨hs₃.extBut _ _ ?_ z.1, z.2⟩
                rcases List.mem_cons.mp hp with rfl | hp
                · exact hDK
                · exact (off4 p hp).2.2.1
        refine wpAny_mono (R' v I oI H2.objs.size oC (H2.objs.size + 1) oK₃ s₂.heap.objs.size h₃ _ _ hPv hKd₃ F₃ N₃ off' ⟨hCI, hKI, hDI, hCK, Ne.symm hDC, Ne.symm hDK⟩) (fun y s₄ h₄ => ?_) fun _ _ e => e
        obtain ⟨h₄, tk₄, news₄, rfl, F₄, N₄, off₄, hS₄, R₄⟩ := h₄
        have zI := (N₄ (I, oI) List.mem_cons_self).1
        have zC := (N₄ (H2.objs.size, oC) (List.mem_cons_of_mem _ List.mem_cons_self)).1
        have zK := (N₄ (H2.objs.size + 1, oK₃) (List.mem_cons_of_mem _ (List.mem_cons_of_mem _ List.mem_cons_self))).1
        have zD := (N₄ (s₂.heap.objs.size, LCg.lst ys) (List.mem_cons_of_mem _ (List.mem_cons_of_mem _ (List.mem_cons_of_mem _ List.mem_cons_self)))).1
        have N₄' : News h₀ L h₄ news₄ := fun p hp => N₄ p (List.mem_cons_of_mem _ (List.mem_cons_of_mem _ (List.mem_cons_of_mem _ (List.mem_cons_of_mem _ hp))))
        have hst₄ : St (i + 1) h₄ := hSt _ _ _ _ _ hst₃ heI zI F₄.keep N₄' hS₄
        refine append_at (hsz := by show ys.toArray.size ≤ sizeLine; rw [List.size_toArray, hyl]; exact Nat.le_trans hi hsz) zD fun h₅ hs₅ hD₅ => ?_
        have off5 := off₄.mem
        refine ⟨n + 1 - (i + 1), by omega, h₅, tk₄, i + 1, ys ++ [y], _, oK₃, _, news₄, rfl, hlt, rfl, by rw [List.length_append, List.length_singleton, hyl], W.frame _ _ _ hst₄ fun b hb o e => hs₅.extBut b o (fun q => hDf (q ▸ hb)) e, F₄.change hs₅ hDL hD₀,
          (hoC.ns zC).sameBut hs₅ (Ne.symm hDC), hs₅.extBut _ _ (Ne.symm hDK) zK, hKd₃, fun p hp => ?_, off₄, hS₄, ?_⟩
        · rcases List.mem_cons.mp hp with rfl | hp
          · exact ⟨hD₅.trans (congrArg some (LCg.lst_snoc ys y)), hDL, hD₀⟩
          · exact ⟨hs₅.extBut _ _ (off5 p hp).2.2.2 (N₄' p hp).1, (N₄' p hp).2⟩
        · rw [show n - (i + 1) = j by omega]
          exact R₄
      · obtain rfl : i = n := Nat.le_antisymm hi (Nat.not_lt.mp hlt)
        rw [Nat.sub_self] at R'
        refine W.done _ _ _ hst' fun h₂ tk₂ hk₂ => ?_
        exact hRR _ _ h₂ tk₂ _ ys news' (LCg.fr_but F' hk₂ hIL hI₀) (LCg.news_but N' hk₂ fun p hp => by
          rcases List.mem_cons.mp hp with rfl | hp
          · exact Ne.symm hDI
          · exact (off4 p hp).1) (off1_of fun p hp => (off4 p hp).2.2.2) (hn'.at' fun o e => hk₂ _ o (by simpa using Ne.symm hCI) e) hC₀ hD₀ hCL hDL (Ne.symm hDC) (fun p hp => (off4 p hp).2.1) R'
    · rcases List.mem_cons.mp hp with rfl | hp
      · exact ⟨hacc, hDL, hD₀⟩
      · exact ⟨old _ _ (N p hp).1, (N p hp).2⟩
  exact codeAny_compStart_list (loop _ rfl) (W.self 0 _ _ _ hst₁ (loop _ rfl))
def SrcXL (prog : Program) (w : World) (A : Around) (h₀ : Heap) (L : Addr) (m : Str → Option Value) (env : Env) (elt : Expr) (x : Str) (scope : Scope) (cl : List (Str × Addr)) (Fin : Shared → List Value → List (Addr × Obj) → Prop) (xv : Value) (s₁ : Shared) : Prop :=
  ∃ ax its news, xv = .ref ax ∧ A.handled = none ∧ Fr h₀ L s₁.heap m ∧ News h₀ L s₁.heap news ∧ LCg.SrcAt h₀ ax its news ∧ its.size ≤ sizeLine ∧
    ∀ s₂ : Shared, (∃ h, s₂ = { s₁ with heap := h }) → RestX prog w A h₀ L m env elt x scope cl s₂ (LCg.SrcAt h₀ ax its) (fun i v => its[i]? = some v) (Fin s₂) its.size 0 [] news
def SrcXR (prog : Program) (w : World) (A : Around) (h₀ : Heap) (L : Addr) (m : Str → Option Value) (env : Env) (elt : Expr) (x : Str) (scope : Scope) (cl : List (Str × Addr)) (Fin : Shared → List Value → List (Addr × Obj) → Prop) (xv : Value) (s₁ : Shared) : Prop :=
  ∃ r a b t u v n news, xv = .ref r ∧ A.handled = none ∧ Fr h₀ L s₁.heap m ∧ News h₀ L s₁.heap news ∧ IsRange s₁.heap r a b 1 t u v ∧ Builtin.Range.small a b 1 = true ∧ Builtin.Range.rangeSize a b 1 = ((n : Nat) : Int) ∧ n ≤ sizeLine ∧
    ∀ s₂ : Shared, (∃ h, s₂ = { s₁ with heap := h }) → RestX prog w A h₀ L m env elt x scope cl s₂ (fun _ => True) (fun i v => ∃ t, v = .int (a + (i : Int)) t) (Fin s₂) n 0 [] news
def SrcX (prog : Program) (w : World) (A : Around) (h₀ : Heap) (L : Addr) (m : Str → Option Value) (env : Env) (elt : Expr) (x : Str) (scope : Scope) (cl : List (Str × Addr)) (Fin : Shared → List Value → List (Addr × Obj) → Prop) (xv : Value) (s₁ : Shared) : Prop :=
  SrcXL prog w A h₀ L m env elt x scope cl Fin xv s₁ ∨ SrcXR prog w A h₀ L m env elt x scope cl Fin xv s₁
theorem SrcX.ledger {elt : Expr} {x : Str} {scope : Scope} {cl : List (Str × Addr)} {Fin : Shared → List Value → List (Addr × Obj) → Prop} {ax : Addr} {its : Array Value} {k : Nat} {news : List (Addr × Obj)} {s₁ : Shared}
    (hh : A.handled = none) (F : Fr h₀ L s₁.heap m) (N : News h₀ L s₁.heap news) (hm : (ax, ({ cls := .type "list", data := .seq its k } : Obj)) ∈ news) (hsz : its.size ≤ sizeLine)
    (h : ∀ g, RestX prog w A h₀ L m env elt x scope cl { s₁ with heap := g } (LCg.SrcAt h₀ ax its) (fun i v => its[i]? = some v) (Fin { s₁ with heap := g }) its.size 0 [] news) :
    SrcX prog w A h₀ L m env elt x scope cl Fin (.ref ax) s₁ := .inl ⟨ax, its, news, rfl, hh, F, N, .inr ⟨_, hm, rfl, _, rfl⟩, hsz, fun _ ⟨g, e⟩ => e ▸ h g⟩
theorem SrcX.range {elt : Expr} {x : Str} {scope : Scope} {cl : List (Str × Addr)} {Fin : Shared → List Value → List (Addr × Obj) → Prop} {r : Addr} {a b : Int} {t u v : Tok} {n : Nat} {news : List (Addr × Obj)} {s₁ : Shared}
    (hh : A.handled = none) (F : Fr h₀ L s₁.heap m) (N : News h₀ L s₁.heap news) (hr : IsRange s₁.heap r a b 1 t u v) (hsm : Builtin.Range.small a b 1 = true) (hn : Builtin.Range.rangeSize a b 1 = ((n : Nat) : Int)) (hsz : n ≤ sizeLine)
    (h : ∀ g, RestX prog w A h₀ L m env elt x scope cl { s₁ with heap := g } (fun _ => True) (fun i v => ∃ t, v = .int (a + (i : Int)) t) (Fin { s₁ with heap := g }) n 0 [] news) :
    SrcX prog w A h₀ L m env elt x scope cl Fin (.ref r) s₁ := .inr ⟨r, a, b, t, u, v, n, news, rfl, hh, F, N, hr, hsm, hn, hsz, fun _ ⟨g, e⟩ => e ▸ h g⟩
theorem ListComp_X {elt iter : Expr} {x : Str} {px : Pos} {scope : Scope} {cl : List (Str × Addr)} {pos : Pos} {Q : Value → Shared → Prop} (hF₀ : Fr h₀ L s.heap m)
    (hclos : closureFor scope env = pure cl) (hcf : ∀ n, cellsFrom n scope.names cl = (x, n) :: cl) (hpc : ∀ h, pushCells h scope.names = h.push emptyCell) (hkind : scope.kind = .function)
    (hnames : ∀ y ∈ scope.names, y.2 = .local → scope.names.lookup y.1 = some .local) (hx : (relabel scope env).names.lookup x = some .cell)
    (h : wpAny (model prog w) A (eval iter env) (SrcX prog w A h₀ L m env elt x scope cl (fun s₂ => LCg.FinE h₀ L m s₂ Q)) E s)
    (hs : ∀ x, foldedSetIterable iter env x = pure x := by intro _; rfl) :
    wpAny (model prog w) A (eval (.ListComp elt [⟨.Name x px, iter, [], 0⟩] scope pos) env) Q E s := by
  rw [eval_ListComp]
  refine wpAny_comprehension_free (use := none) rfl hs hclos hkind hnames (wpAny_mono h (fun xv s₁ h₁ => ?_) fun _ _ e => e)
  rcases h₁ with ⟨ax, its, news, rfl, hh, F, N, S, hsz, R⟩ | ⟨r, a, b, t, u, v, n, news, rfl, hh, F, N, hr, hsm, hn, hsz, R⟩
  · have hl := S.list F.keep N
    have hlt : ax < s₁.heap.objs.size := by obtain ⟨_, e, _⟩ := hl; exact Heap.lt_size e
    refine wpAny_pyIter_list hl ?_
    have up : ∀ b o, s₁.heap.get? b = some o → (s₁.heap.push { cls := .type "list_iterator", data := .fields #[.ref ax, .int 0 0] }).get? b = some o := fun b o e => Heap.get?_push_of_some _ e
    refine block_X (Walks.list hh s₁.heap.objs.size ax (Nat.ne_of_lt hlt) its) hsz (fun i h st => by obtain ⟨o, e, _⟩ := st.1; exact ⟨o, e⟩) LCg.list_st hcf hpc hkind hx ⟨⟨_, Heap.get?_push_size _ rfl, rfl, rfl⟩, hl.push _⟩ (fun b hb => ?_)
      (F.keeps up) (N.grown up) (Nat.ne_of_lt F.ns.lt) (next_is_new F) (fun p hp => Nat.ne_of_lt (Heap.lt_size (N p hp).1)) S (R _ ⟨_, rfl⟩) ?_
    · show b < (s₁.heap.push _).objs.size
      rw [Heap.size_push]
      rcases List.mem_cons.mp hb with rfl | hb
      · exact Nat.lt_succ_self _
      · rw [List.mem_singleton.mp hb]; exact Nat.lt_succ_of_lt hlt
    · intro D C h tk m' ys news' F' N' o1 hn hC₀ hD₀ hCL hDL hCD offC fin
      refine ⟨m', hn, fun h'' hs'' => fin D h'' tk (F'.change hs'' hCL hC₀) (fun p hp => ?_) o1⟩
      refine ⟨hs''.extBut _ _ ?_ (N' p hp).1, (N' p hp).2⟩
      rcases List.mem_cons.mp hp with rfl | hp
      · exact Ne.symm hCD
      · exact offC p hp
  · refine wpAny_pyIter_range hr hsm ?_
    refine block_X (LCg.range_walks hh a n) hsz (fun i h st => ⟨_, st⟩) LCg.range_st hcf hpc hkind hx (by show IsRangeIter _ _ _ _ _; rw [hn]; simpa using Heap.get?_push_size _ rfl) (fun b hb => ?_)
      (F.keeps fun _ _ e => Heap.get?_push_of_some _ e) (N.grown fun _ _ e => Heap.get?_push_of_some _ e) (Nat.ne_of_lt F.ns.lt) (next_is_new F) (fun p hp => Nat.ne_of_lt (Heap.lt_size (N p hp).1)) trivial (R _ ⟨_, rfl⟩) ?_
    · rw [List.mem_singleton.mp hb]
      show s₁.heap.objs.size < (s₁.heap.push _).objs.size
      rw [Heap.size_push]; exact Nat.lt_succ_self _
    · intro D C h tk m' ys news' F' N' o1 hn hC₀ hD₀ hCL hDL hCD offC fin
      refine ⟨m', hn, fun h'' hs'' => fin D h'' tk (F'.change hs'' hCL hC₀) (fun p hp => ?_) o1⟩
      refine ⟨hs''.extBut _ _ ?_ (N' p hp).1, (N' p hp).2⟩
      rcases List.mem_cons.mp hp with rfl | hp
      · exact Ne.symm hCD
      · exact offC p hp
end
end Mine
namespace Mine
open PyProof.V
section
variable {prog : Program} {w : World} {A : Around} {E : Value → Shared → Prop} {s : Shared} {h₀ : Heap} {L : Addr} {news : List (Addr × Obj)} {u : Tok} {value slice : PySem.Expr} {Q : Value → Shared → Prop}
theorem told_item {l : Addr} {vs : List Value} {ns : List Int} {n : Nat} {tl : List (Addr × Obj)} {k : Int} (N : News h₀ L s.heap news) (hm : (l, listOf vs.toArray n) ∈ news) (hs' : ∀ p ∈ tl, p ∈ news) (T : TupsAre tl vs ns) (h0 : 0 ≤ k) (h1 : k < (ns.length : Int)) (h2 : ns.length ≤ 16)
    (h : ∀ a t1 t3, (a, tupOf [.str (Str.ofString "mirror") t1, .int (ns.getD k.toNat 0) t3]) ∈ news → Q (.ref a) s)
    (hs : subscripted slice false (.ref l) (.int k u) = operate [.ref l, .int k u] (getItem (.ref l) (.int k u)) := by with_unfolding_all rfl) :
    wpAny (model prog w) A (subscriptTail value slice (.ref l) (.int k u)) Q E s := by
  have hl : s.heap.IsList l vs.toArray := News.isList N hm
  have hlt : k.toNat < ns.length := by omega
  obtain ⟨a, t1, t3, e, hmem⟩ := T.get k.toNat (ns.getD k.toNat 0) (by rw [List.getD_eq_getElem?_getD, List.getElem?_eq_getElem hlt]; rfl)
  exact tail_any hl.typeIs slot_list_getitem.lookup (wpAny_getItem_list hl h0 (by omega) (by simpa using e) (h a t1 t3 (hs' _ hmem))) hs
theorem tup_one {a : Addr} {x : Value} {n : Int} {t : Tok} (N : News h₀ L s.heap news) (hm : (a, tupOf [x, .int n t]) ∈ news) (h : Q (.int n t) s)
    (hs : subscripted slice false (.ref a) (.int 1 u) = operate [.ref a, .int 1 u] (getItem (.ref a) (.int 1 u)) := by with_unfolding_all rfl) :
    wpAny (model prog w) A (subscriptTail value slice (.ref a) (.int 1 u)) Q E s :=
  item_tupleT (l := [x, .int n t]) (j := 1) (News.isTup N hm) (by decide) (by decide) (by rfl) rfl h hs
theorem endx_one {m : Str → Option Value} {s₁ : Shared} {I C K D T : Addr} {oI oC oK oD oT : Obj} {S : List (Addr × Obj) → Prop} {restf : Value → List (Addr × Obj) → Prop} {y : Value} {h' : Heap} {tk : Nat} {rest : List (Addr × Obj)}
    (F : Fr h₀ L h' m) (N : News h₀ L h' ((T, oT) :: (I, oI) :: (C, oC) :: (K, oK) :: (D, oD) :: rest)) (off : Off4 I C K D rest) (o1 : LCg.Off1 T ((I, oI) :: (C, oC) :: (K, oK) :: (D, oD) :: rest)) (hS : S ((T, oT) :: rest)) (r : restf y ((T, oT) :: rest)) :
    EndX h₀ L m s₁ I oI C oC K oK D oD S restf y { s₁ with heap := h', toks := tk } := by
  refine EndX.intro F N ((T, oT) :: rest) ?_ ⟨⟨Ne.symm o1.1, Ne.symm o1.2.1, Ne.symm o1.2.2.1, Ne.symm o1.2.2.2.1⟩, off⟩ hS r
  intro p hp
  simp only [List.mem_cons] at hp ⊢
  rcases hp with h | h | h | h | h | h <;> simp [h]
theorem cend_same {m : Str → Option Value} {s₁ : Shared} {I C D : Addr} {oI oC oD : Obj} {S : List (Addr × Obj) → Prop} {restf : Value → List (Addr × Obj) → Prop} {y : Value} {h' : Heap} {tk : Nat} {rest : List (Addr × Obj)}
    (F : Fr h₀ L h' m) (N : News h₀ L h' ((I, oI) :: (C, oC) :: (D, oD) :: rest)) (off : LCg.Off3 I C D rest) (hS : S rest) (r : restf y rest) :
    LCg.CompEnd h₀ L m s₁ I oI C oC D oD S restf y { s₁ with heap := h', toks := tk } := LCg.CompEnd.intro F N rest (fun _ hp => hp) off hS r
end
end Mine
namespace Mine
open PyProof.V
/-- the law's own def, out of the given program -/
def lastOf : List Stmt → Stmt
  | [] => .Pass ⟨0, 0, 0, 0⟩
  | [x] => x
  | _ :: y :: r => lastOf (y :: r)
def lawBody : List Stmt := match lastOf Challenge.pw_rl0013_02.main.body with
  | .FunctionDef _ _ b _ _ _ _ _ _ _ => b
  | _ => []
def lawScope : Scope := match lastOf Challenge.pw_rl0013_02.main.body with
  | .FunctionDef _ _ _ _ _ _ sc _ _ _ => sc
  | _ => default
def rest7 : List Stmt := match lawBody with
  | _ :: _ :: _ :: _ :: _ :: _ :: _ :: r => r
  | _ => []
abbrev lawEnv (L fa : Addr) (cd : Value) : Env := envOfC (Str.ofString "law") lawScope L fa cd
end Mine
namespace Mine
open PyProof.V
def gray (t : Int) : Int := Builtin.bitXor t (Int.fdiv t 2)
def turnF (t : Int) : Int := Builtin.bitXor (Builtin.bitXor (gray (t - 1)) t) (Int.fdiv t 2)
def colF (t : Int) : Int := highF (turnF t)
def moreF (t : Int) : Int := if Builtin.bitAnd (gray t) (turnF t) = turnF t then 1 else -1
def lackF (c : Int) : Nat → Int
  | 0 => c
  | n + 1 => lackF c n - moreF ((n : Int) + 1)
def sumsF (rs : List (List Int)) : Nat → List Int
  | 0 => rs.map fun _ => 0
  | n + 1 => List.zipWith (fun s r => s + moreF ((n : Int) + 1) * r.getD (colF ((n : Int) + 1)).toNat 0) (sumsF rs n) rs
def prodF (l : List Int) : Int := l.foldl (· * ·) 1
def totF (c : Int) (rs : List (List Int)) : Nat → Int
  | 0 => 0
  | n + 1 => totF c rs n + (if lackF c (n + 1) % 2 = 1 then -prodF (sumsF rs (n + 1)) else prodF (sumsF rs (n + 1)))
abbrev TurnFacts (c : Int) (n : Nat) : Prop := singleF (turnF ((n : Int) + 1)) = true ∧ 0 ≤ colF ((n : Int) + 1) ∧ colF ((n : Int) + 1) < c ∧ singleF (gray ((n : Int) + 1)) = decide (lackF c (n + 1) = c - 1) ∧ 0 ≤ highF (gray ((n : Int) + 1)) ∧ highF (gray ((n : Int) + 1)) < 4 ∧
  Int.fdiv (gray ((n : Int) + 1)) (2 ^ (highF (gray ((n : Int) + 1))).toNat) = 1 ∧ 0 ≤ lackF c (n + 1) ∧ lackF c (n + 1) < c
theorem turn_facts3 : ∀ n : Fin 7, TurnFacts 3 n.val := by decide +kernel
theorem turn_facts4 : ∀ n : Fin 15, TurnFacts 4 n.val := by decide +kernel
theorem ryser3 (a0 a1 a2 b0 b1 b2 c0 c1 c2 : Int) : totF 3 [[a0, a1, a2], [b0, b1, b2], [c0, c1, c2]] 7 =
    a0 * b1 * c2 + a0 * b2 * c1 + a1 * b0 * c2 + a1 * b2 * c0 + a2 * b0 * c1 + a2 * b1 * c0 := by
  have e1 : moreF 1 = 1 ∧ moreF 2 = 1 ∧ moreF 3 = -1 ∧ moreF 4 = 1 ∧ moreF 5 = 1 ∧ moreF 6 = -1 ∧ moreF 7 = -1 := by decide +kernel
  have e2 : colF 1 = 0 ∧ colF 2 = 1 ∧ colF 3 = 0 ∧ colF 4 = 2 ∧ colF 5 = 0 ∧ colF 6 = 1 ∧ colF 7 = 0 := by decide +kernel
  obtain ⟨m1, m2, m3, m4, m5, m6, m7⟩ := e1
  obtain ⟨k1, k2, k3, k4, k5, k6, k7⟩ := e2
  simp [totF, lackF, sumsF, prodF, m1, m2, m3, m4, m5, m6, m7, k1, k2, k3, k4, k5, k6, k7]
  grind
end Mine
namespace Mine
open PyProof.V
def stepO (k : Int) (qs : List (List Int)) : List (List Int) := qs.flatMap fun q => (rangeKs 0 (k + 1).toNat).map fun i => q.take i.toNat ++ [k] ++ q.drop i.toNat
def ordersF : Nat → List (List Int)
  | 0 => [[]]
  | n + 1 => stepO (n : Int) (ordersF n)
def permF (c : Nat) (rs : List (List Int)) (q : List Int) : Int := prodF ((rangeKs 0 c).map fun i => (rs.getD i.toNat []).getD (q.getD i.toNat 0).toNat 0)
theorem orders3 : ordersF 3 = [[2, 1, 0], [1, 2, 0], [1, 0, 2], [2, 0, 1], [0, 2, 1], [0, 1, 2]] := by decide +kernel
theorem rk3 : rangeKs 0 3 = [0, 1, 2] := by decide
theorem rk4 : rangeKs 0 4 = [0, 1, 2, 3] := by decide
theorem perm3 (a0 a1 a2 b0 b1 b2 c0 c1 c2 : Int) : totF 3 [[a0, a1, a2], [b0, b1, b2], [c0, c1, c2]] 7 = ((ordersF 3).map (permF 3 [[a0, a1, a2], [b0, b1, b2], [c0, c1, c2]])).sum := by
  rw [ryser3, orders3]
  simp [permF, prodF, rk3]
  grind
def rowS (r : List Int) : Nat → Int
  | 0 => 0
  | n + 1 => rowS r n + moreF ((n : Int) + 1) * r.getD (colF ((n : Int) + 1)).toNat 0
theorem sums_rows (rs : List (List Int)) : ∀ n, sumsF rs n = rs.map fun r => rowS r n
  | 0 => rfl
  | n + 1 => by
    rw [sumsF, sums_rows rs n]
    induction rs with
    | nil => rfl
    | cons r t ih => simp only [List.map_cons, List.zipWith_cons_cons, ih, rowS]
theorem row4 (r0 r1 r2 r3 : Int) : rowS [r0, r1, r2, r3] 1 = r0 ∧ rowS [r0, r1, r2, r3] 2 = r0 + r1 ∧ rowS [r0, r1, r2, r3] 3 = r1 ∧ rowS [r0, r1, r2, r3] 4 = r1 + r2 ∧ rowS [r0, r1, r2, r3] 5 = r0 + r1 + r2 ∧ rowS [r0, r1, r2, r3] 6 = r0 + r2 ∧ rowS [r0, r1, r2, r3] 7 = r2 ∧
    rowS [r0, r1, r2, r3] 8 = r2 + r3 ∧ rowS [r0, r1, r2, r3] 9 = r0 + r2 + r3 ∧ rowS [r0, r1, r2, r3] 10 = r0 + r1 + r2 + r3 ∧ rowS [r0, r1, r2, r3] 11 = r1 + r2 + r3 ∧ rowS [r0, r1, r2, r3] 12 = r1 + r3 ∧ rowS [r0, r1, r2, r3] 13 = r0 + r1 + r3 ∧ rowS [r0, r1, r2, r3] 14 = r0 + r3 ∧ rowS [r0, r1, r2, r3] 15 = r3 := by
  have e1 : moreF 1 = 1 ∧ moreF 2 = 1 ∧ moreF 3 = -1 ∧ moreF 4 = 1 ∧ moreF 5 = 1 ∧ moreF 6 = -1 ∧ moreF 7 = -1 ∧ moreF 8 = 1 ∧ moreF 9 = 1 ∧ moreF 10 = 1 ∧ moreF 11 = -1 ∧ moreF 12 = -1 ∧ moreF 13 = 1 ∧ moreF 14 = -1 ∧ moreF 15 = -1 := by decide +kernel
  have e2 : colF 1 = 0 ∧ colF 2 = 1 ∧ colF 3 = 0 ∧ colF 4 = 2 ∧ colF 5 = 0 ∧ colF 6 = 1 ∧ colF 7 = 0 ∧ colF 8 = 3 ∧ colF 9 = 0 ∧ colF 10 = 1 ∧ colF 11 = 0 ∧ colF 12 = 2 ∧ colF 13 = 0 ∧ colF 14 = 1 ∧ colF 15 = 0 := by decide +kernel
  obtain ⟨m1, m2, m3, m4, m5, m6, m7, m8, m9, m10, m11, m12, m13, m14, m15⟩ := e1
  obtain ⟨k1, k2, k3, k4, k5, k6, k7, k8, k9, k10, k11, k12, k13, k14, k15⟩ := e2
  simp [rowS, m1, m2, m3, m4, m5, m6, m7, m8, m9, m10, m11, m12, m13, m14, m15, k1, k2, k3, k4, k5, k6, k7, k8, k9, k10, k11, k12, k13, k14, k15]
  repeat' apply And.intro
  all_goals omega
theorem lack4 : lackF 4 1 % 2 = 1 ∧ lackF 4 2 % 2 = 0 ∧ lackF 4 3 % 2 = 1 ∧ lackF 4 4 % 2 = 0 ∧ lackF 4 5 % 2 = 1 ∧ lackF 4 6 % 2 = 0 ∧ lackF 4 7 % 2 = 1 ∧ lackF 4 8 % 2 = 0 ∧ lackF 4 9 % 2 = 1 ∧ lackF 4 10 % 2 = 0 ∧ lackF 4 11 % 2 = 1 ∧ lackF 4 12 % 2 = 0 ∧ lackF 4 13 % 2 = 1 ∧ lackF 4 14 % 2 = 0 ∧ lackF 4 15 % 2 = 1 := by decide +kernel
theorem orders4 : ordersF 4 = [[3, 2, 1, 0], [2, 3, 1, 0], [2, 1, 3, 0], [2, 1, 0, 3], [3, 1, 2, 0], [1, 3, 2, 0], [1, 2, 3, 0], [1, 2, 0, 3], [3, 1, 0, 2], [1, 3, 0, 2], [1, 0, 3, 2], [1, 0, 2, 3], [3, 2, 0, 1], [2, 3, 0, 1], [2, 0, 3, 1], [2, 0, 1, 3], [3, 0, 2, 1], [0, 3, 2, 1], [0, 2, 3, 1], [0, 2, 1, 3], [3, 0, 1, 2], [0, 3, 1, 2], [0, 1, 3, 2], [0, 1, 2, 3]] := by decide +kernel
set_option maxHeartbeats 8000000 in
theorem perm4 (a0 a1 a2 a3 b0 b1 b2 b3 c0 c1 c2 c3 d0 d1 d2 d3 : Int) : totF 4 [[a0, a1, a2, a3], [b0, b1, b2, b3], [c0, c1, c2, c3], [d0, d1, d2, d3]] 15 = ((ordersF 4).map (permF 4 [[a0, a1, a2, a3], [b0, b1, b2, b3], [c0, c1, c2, c3], [d0, d1, d2, d3]])).sum := by
  rw [orders4]
  obtain ⟨l1, l2, l3, l4, l5, l6, l7, l8, l9, l10, l11, l12, l13, l14, l15⟩ := lack4
  obtain ⟨p1, p2, p3, p4, p5, p6, p7, p8, p9, p10, p11, p12, p13, p14, p15⟩ := row4 a0 a1 a2 a3
  obtain ⟨q1, q2, q3, q4, q5, q6, q7, q8, q9, q10, q11, q12, q13, q14, q15⟩ := row4 b0 b1 b2 b3
  obtain ⟨r1, r2, r3, r4, r5, r6, r7, r8, r9, r10, r11, r12, r13, r14, r15⟩ := row4 c0 c1 c2 c3
  obtain ⟨s1, s2, s3, s4, s5, s6, s7, s8, s9, s10, s11, s12, s13, s14, s15⟩ := row4 d0 d1 d2 d3
  have ev : ∀ w x y z : Int, prodF [w, x, y, z] = w * x * y * z := by intro w x y z; simp [prodF]
  simp only [totF, sums_rows, List.map_cons, List.map_nil, l1, l2, l3, l4, l5, l6, l7, l8, l9, l10, l11, l12, l13, l14, l15, p1, p2, p3, p4, p5, p6, p7, p8, p9, p10, p11, p12, p13, p14, p15, q1, q2, q3, q4, q5, q6, q7, q8, q9, q10, q11, q12, q13, q14, q15, r1, r2, r3, r4, r5, r6, r7, r8, r9, r10, r11, r12, r13, r14, r15, s1, s2, s3, s4, s5, s6, s7, s8, s9, s10, s11, s12, s13, s14, s15, permF, rk4, ev, Nat.reduceAdd]
  simp
  clear l1 l2 l3 l4 l5 l6 l7 l8 l9 l10 l11 l12 l13 l14 l15 p1 p2 p3 p4 p5 p6 p7 p8 p9 p10 p11 p12 p13 p14 p15 q1 q2 q3 q4 q5 q6 q7 q8 q9 q10 q11 q12 q13 q14 q15 r1 r2 r3 r4 r5 r6 r7 r8 r9 r10 r11 r12 r13 r14 r15 s1 s2 s3 s4 s5 s6 s7 s8 s9 s10 s11 s12 s13 s14 s15 ev
  grind (ringSteps := 10000000)
end Mine
namespace Mine
open PyProof.V
theorem fillQ : Challenge.rw_rl0013_02 = Challenge.rw_rl0013_02 ∧ hd.heap_39 = hd.heap_39 := by
  k_fill
  exact ⟨rfl, rfl⟩
section
variable {w : World} {mean : ExcName → Option Value} {mg mb : Str → Option Value} {dp un : Nat} {gd : Option (List Code)} {cn : Str} {cs : Scope} {a : Addr} {ccd : Value} {cl : List (Str × Addr)} {outer : List Env} {A₀ : Around} {base h₀ : Heap} {L : Addr} {m : Str → Option Value} {news : List (Addr × Obj)} {s : Shared} {Q E : Value → Shared → Prop}
theorem cprod3 {l : Addr} {x0 x1 x2 : Int} {u0 u1 u2 : Tok} {n : Nat} (Z : At 3 w mean mg mb dp un cs outer A₀ base h₀ L m ((l, listOf #[.int x0 u0, .int x1 u1, .int x2 u2] n) :: news) s.heap)
    (b0 : -20000000 ≤ x0 ∧ x0 ≤ 20000000) (b1 : -20000000 ≤ x1 ∧ x1 ≤ 20000000) (b2 : -20000000 ≤ x2 ∧ x2 ≤ 20000000)
    (hret : ∀ (t : Tok) (h' : Heap) (tk' : Nat), Fr h₀ L h' m → News h₀ L h' ((l, listOf #[.int x0 u0, .int x1 u1, .int x2 u2] n) :: news) → Q (.int (1 * x0 * x1 * x2) t) { s with heap := h', toks := tk' }) :
    wpAny (model RP w) (ktrTop dp un gd cn cs L a ccd cl outer) (call (.ref 91) [.ref l]) Q E s := by
  obtain ⟨B, F, X, N, T, hk, hd, hu⟩ := Z
  w_top off
  refine wpAny_call ?_
  k_dflt cell_enter
  k_steps
  exact hret _ _ _ (by k_asm) (by k_asm)
theorem cprod4 {l : Addr} {x0 x1 x2 x3 : Int} {u0 u1 u2 u3 : Tok} {n : Nat} (Z : At 3 w mean mg mb dp un cs outer A₀ base h₀ L m ((l, listOf #[.int x0 u0, .int x1 u1, .int x2 u2, .int x3 u3] n) :: news) s.heap)
    (b0 : -20000000 ≤ x0 ∧ x0 ≤ 20000000) (b1 : -20000000 ≤ x1 ∧ x1 ≤ 20000000) (b2 : -20000000 ≤ x2 ∧ x2 ≤ 20000000) (b3 : -20000000 ≤ x3 ∧ x3 ≤ 20000000)
    (hret : ∀ (t : Tok) (h' : Heap) (tk' : Nat), Fr h₀ L h' m → News h₀ L h' ((l, listOf #[.int x0 u0, .int x1 u1, .int x2 u2, .int x3 u3] n) :: news) → Q (.int (1 * x0 * x1 * x2 * x3) t) { s with heap := h', toks := tk' }) :
    wpAny (model RP w) (ktrTop dp un gd cn cs L a ccd cl outer) (call (.ref 91) [.ref l]) Q E s := by
  obtain ⟨B, F, X, N, T, hk, hd, hu⟩ := Z
  w_top off
  refine wpAny_call ?_
  k_dflt cell_enter
  k_steps
  exact hret _ _ _ (by k_asm) (by k_asm)
end
end Mine
namespace Mine
open PyProof.V
section
variable {prog : Program} {w : World} {A : Around} {E : Value → Shared → Prop} {s : Shared} {h₀ : Heap} {L l : Addr} {m : Str → Option Value} {news : List (Addr × Obj)} {Q : Value → Shared → Prop} {x y z : Str} {t1 t2 t3 : Tok} {n : Nat}
theorem two_via (hm : (l, listOf #[.str x t1, .str y t2] n) ∈ news) : ReadsVia h₀ news (.ref l) (.list [.str x, .str y]) := fun h _ hn =>
  ⟨[l], .list (hn _ hm) rfl rfl (.cons (as := []) (.str x t1) (.cons (as := []) (.str y t2) .nil))⟩
theorem notin_two (F : Fr h₀ L s.heap m) (N : News h₀ L s.heap news) (hm : (l, listOf #[.str x t1, .str y t2] n) ∈ news) (hu : A.units + 2 < cLine) (hx : (PyData.str x).canLay0 = true) (hy : (PyData.str y).canLay0 = true) (hz : z = x ∨ z = y) (h : Q (.bool false) s) : wpAny (model prog w) A (compareOp .NotIn (.str z t3) (.ref l)) Q E s := by
  refine notIn_list_via (two_via hm) (ReadsVia.str z t3) F N (by simp only [PyData.canLayAll0, hx, hy, Bool.and_true]) (by rcases hz with rfl | rfl <;> assumption) ?_ ?_
  · have : min (PyData.depthAll [.str x, .str y]) (PyData.str z).depth = 0 := by simp [PyData.depth]
    omega
  · have : (!([PyData.str x, .str y].any fun q => PyData.eqv q (.str z))) = false := by
      rcases hz with rfl | rfl <;> simp [PyData.eqv]
    rw [this]
    exact h
theorem eqs_same {t u : Tok} (h : Q (.bool true) s) : wpAny (model prog w) A (compareOp .Eq (.str x t) (.str x u)) Q E s := by
  refine PySem.P.eq_str ?_
  rw [show (x.cps.toList == x.cps.toList) = true by simp]
  exact h
theorem eqs_diff {t u : Tok} (hne : x.length ≠ y.length) (h : Q (.bool false) s) : wpAny (model prog w) A (compareOp .Eq (.str x t) (.str y u)) Q E s := by
  refine PySem.P.eq_str ?_
  rw [show (x.cps.toList == y.cps.toList) = false by
    rw [beq_eq_false_iff_ne]
    intro e
    exact hne (by simpa [Str.length] using congrArg List.length e)]
  exact h
end
theorem marks_ok {k : Int} (h0 : 0 ≤ k) (h1 : k < 30) : (PyData.str (Txt.mul (Str.ofString "\"") k)).canLay0 = true := by
  have : ∀ n : Fin 30, (PyData.str (Txt.mul (Str.ofString "\"") (n.val : Int))).canLay0 = true := by decide +kernel
  obtain ⟨n, rfl⟩ := Int.eq_ofNat_of_zero_le h0
  exact this ⟨n, by omega⟩
theorem marksz_ok {k : Int} (h0 : 0 ≤ k) (h1 : k < 30) : (PyData.str (Txt.mul (Str.ofString "\"") k ++ Str.ofString "z")).canLay0 = true := by
  have : ∀ n : Fin 30, (PyData.str (Txt.mul (Str.ofString "\"") (n.val : Int) ++ Str.ofString "z")).canLay0 = true := by decide +kernel
  obtain ⟨n, rfl⟩ := Int.eq_ofNat_of_zero_le h0
  exact this ⟨n, by omega⟩
theorem lenz_ne (x : Str) : (x ++ Str.ofString "z").length ≠ x.length := by
  rw [Str.length_append, show (Str.ofString "z").length = 1 by decide]
  omega
end Mine
namespace Mine
open PyProof.V
def turnBody : List Stmt := match rest7 with
  | _ :: _ :: _ :: _ :: _ :: .For _ _ b _ _ :: _ => b
  | _ => []
theorem eq_same {prog : Program} {w : World} {A : Around} {E : Value → Shared → Prop} {s : Shared} {Q : Value → Shared → Prop} {a b : Int} {t u : Tok} (e : a = b) (h : Q (.bool true) s) : wpAny (model prog w) A (compareOp .Eq (.int a t) (.int b u)) Q E s := by
  refine PyProof.Rows.eq_int ?_
  rw [show (a == b) = true by rw [e]; exact beq_self_eq_true b]
  exact h
theorem eq_diff {prog : Program} {w : World} {A : Around} {E : Value → Shared → Prop} {s : Shared} {Q : Value → Shared → Prop} {a b : Int} {t u : Tok} (e : ¬ a = b) (h : Q (.bool false) s) : wpAny (model prog w) A (compareOp .Eq (.int a t) (.int b u)) Q E s := by
  refine PyProof.Rows.eq_int ?_
  rw [show (a == b) = false by simpa using e]
  exact h
theorem ne_same {prog : Program} {w : World} {A : Around} {E : Value → Shared → Prop} {s : Shared} {Q : Value → Shared → Prop} {a b : Int} {t u : Tok} (e : a = b) (h : Q (.bool false) s) : wpAny (model prog w) A (compareOp .NotEq (.int a t) (.int b u)) Q E s := by
  refine PyProof.Rows.ne_int ?_
  subst e
  rw [bne_self_eq_false]
  exact h
theorem isnot_same {M : Model} {A : Around} {E : Value → Shared → Prop} {s : Shared} {Q : Value → Shared → Prop} {c d : Bool} (e : c = d) (h : Q (.bool false) s) : wpAny M A (compareOp .IsNot (.bool c) (.bool d)) Q E s := by
  refine isnot_bool ?_
  subst e
  cases c <;> exact h
theorem lq3 : (Str.ofString "\"").length = 1 := by decide
theorem lz3 : (Str.ofString "z").length = 1 := by decide
theorem l257c : (Str.ofString "257 \"").length = 5 := by decide
theorem head_cat2 (y z : Str) : Head257 (Str.ofString "257 \"" ++ y ++ z) := by
  unfold Head257
  rw [cps_app, cps_app]
  have : (Str.ofString "257 \"").cps.toList = [50, 53, 55, 32, 34] := by decide
  rw [this]
  rfl
theorem p257_even {k : Int} (h0 : 0 ≤ k) (h1 : k < 30) (h2 : k % 2 = 0) : p257 (Str.ofString "257 \"" ++ Txt.mul (Str.ofString "\"") k ++ Str.ofString "z") = Txt.mul (Str.ofString "\"") (k / 2) ++ Str.ofString "z" := by
  have : ∀ n : Fin 30, (n.val : Int) % 2 = 0 → p257 (Str.ofString "257 \"" ++ Txt.mul (Str.ofString "\"") (n.val : Int) ++ Str.ofString "z") = Txt.mul (Str.ofString "\"") ((n.val : Int) / 2) ++ Str.ofString "z" := by decide +kernel
  obtain ⟨n, rfl⟩ := Int.eq_ofNat_of_zero_le h0
  exact this ⟨n, by omega⟩ h2
theorem p257_odd {k : Int} (h0 : 0 ≤ k) (h1 : k < 30) (h2 : k % 2 = 1) : p257 (Str.ofString "257 \"" ++ Txt.mul (Str.ofString "\"") k ++ Str.ofString "z") = Txt.mul (Str.ofString "\"") (k / 2) := by
  have : ∀ n : Fin 30, (n.val : Int) % 2 = 1 → p257 (Str.ofString "257 \"" ++ Txt.mul (Str.ofString "\"") (n.val : Int) ++ Str.ofString "z") = Txt.mul (Str.ofString "\"") ((n.val : Int) / 2) := by decide +kernel
  obtain ⟨n, rfl⟩ := Int.eq_ofNat_of_zero_le h0
  exact this ⟨n, by omega⟩ h2
theorem mul_le2 (x : Str) (n : Int) : (Txt.mul x n).length ≤ x.length * n.toNat := by
  unfold Txt.mul
  split
  · exact Nat.zero_le _
  · split
    · rename_i h1 h2
      simp only [Bool.or_eq_true, beq_iff_eq] at h2
      rcases h2 with h2 | h2
      · subst h2; simp
      · rw [h2]; simp
    · have : ∀ (n : Nat) (acc : Array Nat), ((List.replicate n x.cps).foldl (· ++ ·) acc).size = acc.size + x.length * n := by
        intro n
        induction n with
        | zero => intro acc; simp
        | succ n ih => intro acc; rw [List.replicate_succ, List.foldl_cons, ih, Array.size_append, Nat.mul_succ]; simp only [Str.length]; omega
      show ((List.replicate n.toNat x.cps).foldl (· ++ ·) #[]).size ≤ _
      rw [this]
      simp
theorem short257 {k : Int} (h : k ≤ 900) : (Str.ofString "257 \"" ++ Txt.mul (Str.ofString "\"") k ++ Str.ofString "z").length ≤ 1000 := by
  have h1 := mul_le2 (Str.ofString "\"") k
  rw [lq3] at h1
  simp only [Str.length_append, l257c, lz3]
  omega
theorem news_dup {h₀ : Heap} {L : Addr} {h : Heap} {p : Addr × Obj} {news : List (Addr × Obj)} (N : News h₀ L h news) (hp : p ∈ news) : News h₀ L h (p :: news) := fun q hq => by
  rcases List.mem_cons.mp hq with rfl | hq
  · exact N _ hp
  · exact N q hq
theorem news_tail {h₀ : Heap} {L : Addr} {h : Heap} {p : Addr × Obj} {news : List (Addr × Obj)} (N : News h₀ L h (p :: news)) : News h₀ L h news := fun q hq => N q (List.mem_cons_of_mem _ hq)
/-- what parse257 tells of k marks and a z, k = 2 w + l: the half, with the z or without -/
theorem name_two {w l : Int} (hw0 : 0 ≤ w) (hw1 : w < 9) (hl0 : 0 ≤ l) (hl1 : l < 4) : ∃ nm, p257 (Str.ofString "257 \"" ++ Txt.mul (Str.ofString "\"") (2 * w + l) ++ Str.ofString "z") = nm ∧
    (nm = Txt.mul (Str.ofString "\"") (w + Int.fdiv l 2) ∧ l % 2 = 1 ∨ nm = Txt.mul (Str.ofString "\"") (w + Int.fdiv l 2) ++ Str.ofString "z" ∧ ¬ l % 2 = 1) := by
  have e : (2 * w + l) / 2 = w + Int.fdiv l 2 := by rw [Int.fdiv_eq_ediv_of_nonneg _ (by decide)]; omega
  refine ⟨_, rfl, ?_⟩
  by_cases h : l % 2 = 1
  · exact .inl ⟨by rw [p257_odd (by omega) (by omega) (by omega), e], h⟩
  · exact .inr ⟨by rw [p257_even (by omega) (by omega) (by omega), e], h⟩
theorem more_two (t : Int) : moreF t = 1 ∨ moreF t = -1 := by
  unfold moreF
  split
  · exact .inl rfl
  · exact .inr rfl
theorem mulok_two {m : Int} (h : m = 1 ∨ m = -1) : ∀ x, IntMulOk m x := by
  intro x
  rcases h with rfl | rfl
  · exact .of_left (by decide)
  · exact .of_left (by decide)
section
variable {M : Model} {A : Around} {E : Value → Shared → Prop} {s : Shared} {Q : Value → Shared → Prop} {test body orelse : PySem.Expr} {pos : Pos} {env : Env}
def IntOf (v : Int) (s : Shared) (x : Value) (s' : Shared) : Prop := ∃ t tk, x = .int v t ∧ s' = { s with toks := tk }
theorem ifexp_int {v : Int} (h : wpAny M A (isTrue test env (eval test env)) (fun c s₂ => if c then wpAny M A (eval body env) (IntOf v s) E s₂ else wpAny M A (eval orelse env) (IntOf v s) E s₂) E s)
    (hQ : ∀ t tk, Q (.int v t) { s with toks := tk }) : wpAny M A (eval (.IfExp test body orelse pos) env) Q E s :=
  wpAny_mono (IfExp_ h) (fun x s' ⟨t, tk, e1, e2⟩ => by subst e1; subst e2; exact hQ t tk) fun _ _ e => e
def IntIn (h₀ : Heap) (L : Addr) (m : Str → Option Value) (news : List (Addr × Obj)) (v : Int) (s : Shared) (x : Value) (s' : Shared) : Prop := ∃ t h' tk, x = .int v t ∧ s' = { s with heap := h', toks := tk } ∧ Fr h₀ L h' m ∧ News h₀ L h' news
theorem ifexp_in {h₀ : Heap} {L : Addr} {m : Str → Option Value} {news : List (Addr × Obj)} {v : Int} (hF₁ : Fr h₀ L s.heap m) (hN₁ : News h₀ L s.heap news)
    (h : wpAny M A (isTrue test env (eval test env)) (fun c s₂ => if c then wpAny M A (eval body env) (IntIn h₀ L m news v s) E s₂ else wpAny M A (eval orelse env) (IntIn h₀ L m news v s) E s₂) E s)
    (hQ : ∀ t h' tk, Fr h₀ L h' m → News h₀ L h' news → Q (.int v t) { s with heap := h', toks := tk }) : wpAny M A (eval (.IfExp test body orelse pos) env) Q E s :=
  wpAny_mono (IfExp_ h) (fun x s' ⟨t, h', tk, e1, e2, F', N'⟩ => by subst e1; subst e2; exact hQ t h' tk F' N') fun _ _ e => e
end
end Mine
namespace Mine
open PyProof.V
local macro_rules | `(tactic| walk_at "pyIter ref") => `(tactic| k_dflt (k_extra "my pyIter"))
local macro_rules | `(tactic| walk_at "call ref") => `(tactic| k_dflt (k_extra "my call"))
local macro_rules | `(tactic| walk_at "compareOp IsNot bool bool") => `(tactic| (k_here; k_dflt (k_extra "my isnot")))
local macro_rules | `(tactic| walk_at "VPost") => `(tactic| dsimp only [VPost])
local macro_rules | `(tactic| walk_at "CompSrc") => `(tactic| (k_here; k_dflt (k_extra "my src")))
local macro_rules | `(tactic| walk_at "CompEnd") => `(tactic| (k_here; k_dflt (k_extra "my cend")))
local macro_rules | `(tactic| walk_at "eval ListComp BinOp") => `(tactic| (k_here; k_dflt (refine LCg.ListComp_U (F₀ := by k_asm) (by with_unfolding_all rfl) (by decide) (by rfl) (by decide) (by rfl) ?_)))
local macro_rules | `(tactic| walk_at "compareOp Eq int int") => `(tactic| (k_here; k_dflt (k_extra "my eq")))
local macro_rules | `(tactic| walk_at "compareOp NotEq int int") => `(tactic| (k_here; k_dflt (k_extra "my ne")))
local macro_rules | `(tactic| walk_at "compareOp NotIn str ref") => `(tactic| (k_here; k_dflt (k_extra "my notin")))
local macro_rules | `(tactic| walk_at "compareOp Eq str str") => `(tactic| (k_here; k_dflt (k_extra "my eqs")))
local macro_rules | `(tactic| walk_at "eval IfExp") => `(tactic| (k_here; k_dflt (k_extra "my ifexp")))
local macro_rules | `(tactic| walk_at "binaryOp Mult int int") => `(tactic| (k_here; k_dflt (k_extra "my mul")))
local macro_rules | `(tactic| walk_at "storeName ref") => `(tactic| k_dflt (k_extra "my sref"))
local macro_rules | `(tactic| k_ne) => `(tactic| (refine neN ?_; (try dsimp only); first | assumption | exact Ne.symm (by assumption) | omega))

theorem fillT3 : Challenge.rw_rl0013_02 = Challenge.rw_rl0013_02 ∧ hd.heap_39 = hd.heap_39 := by
  k_fill
  exact ⟨rfl, rfl⟩
section
variable {w : World} {mean : ExcName → Option Value} {mg mb : Str → Option Value} {h₀ : Heap} {L fa : Addr} {cd : Value} {m : Str → Option Value} {s : Shared} {Q : Flow → Shared → Prop} {E : Value → Shared → Prop}
theorem turn3 {D R0 R1 R2 I sA : Addr} {oI : Obj} {y0 y1 y2 sv : List Value} {sn : Nat} {a0 a1 a2 b0 b1 b2 c0 c1 c2 s0 s1 s2 tot : Int} {o1 o3 o4 o5 o6 : Obj} {v5 v6 : Option Value} {t1 t2 tc tl tt : Tok} {n : Nat} {u : Str → Option Value}
    (B : Below callerA h₀ [] h₀) (X : (hd.heap_39 w.params).In h₀) (T : Top hd.view_39 (looseW hd.view_39 []) mean mg mb h₀)
    (F : Fr h₀ L s.heap (fun y => if y = Str.ofString "t" then some (.int ((n : Int) + 1) t2) else if y = Str.ofString "code" then some (.int (gray n) tc) else if y = Str.ofString "lacking" then some (.int (lackF 3 n) tl) else if y = Str.ofString "total" then some (.int tot tt) else u y))
    (N : News h₀ L s.heap [(I, oI), (sA, listOf sv.toArray sn), (D, LCg.lst [.ref R0, .ref R1, .ref R2]), (R0, LCg.lst y0), (R1, LCg.lst y1), (R2, LCg.lst y2), (L + 1 + 1 + 1 + 1 + 1 + 1, o6), (L + 1 + 1 + 1 + 1 + 1, o5), (L + 1 + 1 + 1 + 1, o4), (L + 1 + 1 + 1, o3), (L + 1, o1)])
    (d1 : o1.data = .cell (some (.int 3 t1))) (d3 : o3.data = .cell (some (.ref D))) (d4 : o4.data = .cell (some (.ref sA))) (d5 : o5.data = .cell v5) (d6 : o6.data = .cell v6)
    (neD : (@Ne Nat (L + 1 + 1 + 1 + 1 + 1 + 1) D) ∧ (@Ne Nat (L + 1 + 1 + 1 + 1 + 1) D) ∧ (@Ne Nat (L + 1 + 1 + 1 + 1) D) ∧ (@Ne Nat (L + 1 + 1 + 1) D) ∧ (@Ne Nat (L + 1) D)) (neR0 : (@Ne Nat (L + 1 + 1 + 1 + 1 + 1 + 1) R0) ∧ (@Ne Nat (L + 1 + 1 + 1 + 1 + 1) R0) ∧ (@Ne Nat (L + 1 + 1 + 1 + 1) R0) ∧ (@Ne Nat (L + 1 + 1 + 1) R0) ∧ (@Ne Nat (L + 1) R0)) (neR1 : (@Ne Nat (L + 1 + 1 + 1 + 1 + 1 + 1) R1) ∧ (@Ne Nat (L + 1 + 1 + 1 + 1 + 1) R1) ∧ (@Ne Nat (L + 1 + 1 + 1 + 1) R1) ∧ (@Ne Nat (L + 1 + 1 + 1) R1) ∧ (@Ne Nat (L + 1) R1)) (neR2 : (@Ne Nat (L + 1 + 1 + 1 + 1 + 1 + 1) R2) ∧ (@Ne Nat (L + 1 + 1 + 1 + 1 + 1) R2) ∧ (@Ne Nat (L + 1 + 1 + 1 + 1) R2) ∧ (@Ne Nat (L + 1 + 1 + 1) R2) ∧ (@Ne Nat (L + 1) R2))
    (neA : (@Ne Nat (L + 1 + 1 + 1 + 1 + 1 + 1) sA) ∧ (@Ne Nat (L + 1 + 1 + 1 + 1 + 1) sA) ∧ (@Ne Nat (L + 1 + 1 + 1 + 1) sA) ∧ (@Ne Nat (L + 1 + 1 + 1) sA) ∧ (@Ne Nat (L + 1) sA) ∧ (@Ne Nat I sA))
    (neI : (@Ne Nat (L + 1 + 1 + 1 + 1 + 1 + 1) I) ∧ (@Ne Nat (L + 1 + 1 + 1 + 1 + 1) I) ∧ (@Ne Nat (L + 1 + 1 + 1 + 1) I) ∧ (@Ne Nat (L + 1 + 1 + 1) I) ∧ (@Ne Nat (L + 1) I))
    (i0 : IntsAre y0 [a0, a1, a2]) (i1 : IntsAre y1 [b0, b1, b2]) (i2 : IntsAre y2 [c0, c1, c2]) (iS : IntsAre sv [s0, s1, s2])
    (hn : n < 7) (hB : -20000000 ≤ s0 + moreF ((n : Int) + 1) * [a0, a1, a2].getD (colF ((n : Int) + 1)).toNat 0 ∧ s0 + moreF ((n : Int) + 1) * [a0, a1, a2].getD (colF ((n : Int) + 1)).toNat 0 ≤ 20000000 ∧ -20000000 ≤ s1 + moreF ((n : Int) + 1) * [b0, b1, b2].getD (colF ((n : Int) + 1)).toNat 0 ∧ s1 + moreF ((n : Int) + 1) * [b0, b1, b2].getD (colF ((n : Int) + 1)).toNat 0 ≤ 20000000 ∧ -20000000 ≤ s2 + moreF ((n : Int) + 1) * [c0, c1, c2].getD (colF ((n : Int) + 1)).toNat 0 ∧ s2 + moreF ((n : Int) + 1) * [c0, c1, c2].getD (colF ((n : Int) + 1)).toNat 0 ≤ 20000000)
    (hQ : ∀ (sB : Addr) (zv : List Value) (z0 z1 z2 : Int) (oM oC oS : Obj) (vM vC : Option Value) (tc' tl' tt' : Tok) (h' : Heap) (tk' : Nat) (m' : Str → Option Value), Fr h₀ L h' m' → m' (Str.ofString "code") = some (.int (gray ((n : Int) + 1)) tc') → m' (Str.ofString "lacking") = some (.int (lackF 3 (n + 1)) tl') →
      m' (Str.ofString "total") = some (.int (tot + (if lackF 3 (n + 1) % 2 = 1 then -(1 * z0 * z1 * z2) else 1 * z0 * z1 * z2)) tt') →
      News h₀ L h' [(I, oI), (sB, LCg.lst zv), (D, LCg.lst [.ref R0, .ref R1, .ref R2]), (R0, LCg.lst y0), (R1, LCg.lst y1), (R2, LCg.lst y2), (L + 1 + 1 + 1 + 1 + 1 + 1, oM), (L + 1 + 1 + 1 + 1 + 1, oC), (L + 1 + 1 + 1 + 1, oS), (L + 1 + 1 + 1, o3), (L + 1, o1)] → IntsAre zv [z0, z1, z2] →
      oS.data = .cell (some (.ref sB)) → oM.data = .cell vM → oC.data = .cell vC → z0 = s0 + moreF ((n : Int) + 1) * [a0, a1, a2].getD (colF ((n : Int) + 1)).toNat 0 → z1 = s1 + moreF ((n : Int) + 1) * [b0, b1, b2].getD (colF ((n : Int) + 1)).toNat 0 → z2 = s2 + moreF ((n : Int) + 1) * [c0, c1, c2].getD (colF ((n : Int) + 1)).toNat 0 →
      (@Ne Nat (L + 1 + 1 + 1 + 1 + 1 + 1) sB) ∧ (@Ne Nat (L + 1 + 1 + 1 + 1 + 1) sB) ∧ (@Ne Nat (L + 1 + 1 + 1 + 1) sB) ∧ (@Ne Nat (L + 1 + 1 + 1) sB) ∧ (@Ne Nat (L + 1) sB) ∧ (@Ne Nat I sB) → Q .next { s with heap := h', toks := tk' }) :
    wpAny (model RP w) (callerA.deeper (lawEnv L fa cd)) (execs turnBody (lawEnv L fa cd)) Q E s := by
  dsimp only [turnBody, rest7, lawBody, lastOf, Challenge.pw_rl0013_02, lawEnv, lawScope]
  w_top on
  obtain ⟨na1, na2, na3, na4, na5, na6⟩ := neA
  obtain ⟨ni1, ni2, ni3, ni4, ni5⟩ := neI
  obtain ⟨nd1, nd2, nd3, nd4, nd5⟩ := neD
  obtain ⟨nr01, nr02, nr03, nr04, nr05⟩ := neR0
  obtain ⟨nr11, nr12, nr13, nr14, nr15⟩ := neR1
  obtain ⟨nr21, nr22, nr23, nr24, nr25⟩ := neR2
  obtain ⟨f1, f2, f3, f4, f5, f6, f7, f8, f9⟩ := turn_facts3 ⟨n, hn⟩
  have e0 : turnF ((n : Int) + 1) = Builtin.bitXor (Builtin.bitXor (gray n) ((n : Int) + 1)) (Int.fdiv ((n : Int) + 1) 2) := by
    unfold turnF
    rw [show (n : Int) + 1 - 1 = n by omega]
  have hL : lackF 3 (n + 1) = lackF 3 n - moreF ((n : Int) + 1) := rfl
  rw [hL] at hQ f4 f8 f9
  dsimp only [colF] at f1 f2 f3 f4 f5 f6 f7 f8 f9 hQ hB
  rw [e0] at f1 f2 f3 hQ hB
  unfold gray at f4 f5 f6 f7
  rw [show gray ((n : Int) + 1) = Builtin.bitXor ((n : Int) + 1) (Int.fdiv ((n : Int) + 1) 2) from rfl] at hQ
  have hM : moreF ((n : Int) + 1) = if Builtin.bitAnd (Builtin.bitXor ((n : Int) + 1) (Int.fdiv ((n : Int) + 1) 2)) (Builtin.bitXor (Builtin.bitXor (gray n) ((n : Int) + 1)) (Int.fdiv ((n : Int) + 1) 2)) = Builtin.bitXor (Builtin.bitXor (gray n) ((n : Int) + 1)) (Int.fdiv ((n : Int) + 1) 2) then 1 else -1 := by
    unfold moreF
    rw [e0]
    rfl
  clear e0 hL
  have hM2 := more_two ((n : Int) + 1)
  generalize moreF ((n : Int) + 1) = mo at *
  have hmul := mulok_two hM2
  generalize hLm : lackF 3 n = la at *
  (k_with "my call" => first | (refine csingle ⟨by k_asm, by k_asm, by k_asm, by k_asm, by k_asm, by first | rfl | assumption, by ktr_room, by ktr_units⟩ ?_; intro h5 tk5 F5 N5) | (refine chigh ⟨by k_asm, by k_asm, by k_asm, by k_asm, by k_asm, by first | rfl | assumption, by ktr_room, by ktr_units⟩ ?_; intro t8 h8 tk8 F8 N8))
  (k_with "my isnot" => refine isnot_same (by assumption) ?_)
  (k_with "my src" => (refine LCg.CompSrc.range (by rfl) (by k_asm) (by k_asm) (by assumption) (by decide) (n := 3) (by rfl) (by rw [sizeLine_eq]; decide) ?_; intro g'; (intro v' I' oI' C' oC' D' m' h' tk' E' hv' hC' hx' F' N' off0 ne'); (obtain ⟨tv', rfl⟩ := hv')))
  (k_with "my cend" => (refine cend_same (by k_asm) (by k_asm) off0 trivial ?_; clear off0; first | (show LCg.FinE _ _ _ _ _ _ _) | (intro v' I' oI' C' oC' D' m' h' tk' E' hv' hC' hx' F' N' off0 ne'; (obtain ⟨tv', rfl⟩ := hv'))))
  (k_with "my ifexp" => refine Park.out ?_)
  have g4 : singleF (Builtin.bitXor ((n : Int) + 1) (Int.fdiv ((n : Int) + 1) 2)) = (la - mo == 3 - 1) := f4
  clear f4
  k_steps
  refine ⟨?_⟩
  refine ifexp_int (v := mo) ?_ ?_
  · rw [hM]
    by_cases hb : Builtin.bitAnd (Builtin.bitXor ((n : Int) + 1) (Int.fdiv ((n : Int) + 1) 2)) (Builtin.bitXor (Builtin.bitXor (gray n) ((n : Int) + 1)) (Int.fdiv ((n : Int) + 1) 2)) = Builtin.bitXor (Builtin.bitXor (gray n) ((n : Int) + 1)) (Int.fdiv ((n : Int) + 1) 2)
    · rw [if_pos hb]
      (k_with "my eq" => refine eq_same hb ?_)
      k_steps
      exact ⟨_, _, rfl, rfl⟩
    · rw [if_neg hb]
      (k_with "my eq" => refine eq_diff hb ?_)
      k_steps
      exact ⟨_, _, rfl, rfl⟩
  intro t9 tk9
  clear hM hM2
  (k_with "my mul" => refine PyProof.Rows.mul_int ?_ (hm := hmul _))
  (k_with "my ne" => refine ne_same (by assumption) ?_)
  (k_with "my sref" => refine Park.out ?_)
  k_steps
  refine ⟨?_⟩
  k_with_none
  generalize hz0 : [s0, s1, s2].getD (0 + ((0 : Nat) : Int)).toNat 0 + mo * [a0, a1, a2].getD (highF (Builtin.bitXor (Builtin.bitXor (gray n) ((n : Int) + 1)) (Int.fdiv ((n : Int) + 1) 2))).toNat 0 = z0 at *
  generalize hz1 : [s0, s1, s2].getD (0 + ((0 + 1 : Nat) : Int)).toNat 0 + mo * [b0, b1, b2].getD (highF (Builtin.bitXor (Builtin.bitXor (gray n) ((n : Int) + 1)) (Int.fdiv ((n : Int) + 1) 2))).toNat 0 = z1 at *
  generalize hz2 : [s0, s1, s2].getD (0 + ((0 + 1 + 1 : Nat) : Int)).toNat 0 + mo * [c0, c1, c2].getD (highF (Builtin.bitXor (Builtin.bitXor (gray n) ((n : Int) + 1)) (Int.fdiv ((n : Int) + 1) 2))).toNat 0 = z2 at *
  obtain ⟨hB0, hB1, hB2⟩ : (-20000000 ≤ z0 ∧ z0 ≤ 20000000) ∧ (-20000000 ≤ z1 ∧ z1 ≤ 20000000) ∧ (-20000000 ≤ z2 ∧ z2 ≤ 20000000) := by
    rw [show s0 + mo * [a0, a1, a2].getD (highF (Builtin.bitXor (Builtin.bitXor (gray n) ((n : Int) + 1)) (Int.fdiv ((n : Int) + 1) 2))).toNat 0 = z0 from hz0] at hB; rw [show s1 + mo * [b0, b1, b2].getD (highF (Builtin.bitXor (Builtin.bitXor (gray n) ((n : Int) + 1)) (Int.fdiv ((n : Int) + 1) 2))).toNat 0 = z1 from hz1] at hB; rw [show s2 + mo * [c0, c1, c2].getD (highF (Builtin.bitXor (Builtin.bitXor (gray n) ((n : Int) + 1)) (Int.fdiv ((n : Int) + 1) 2))).toNat 0 = z2 from hz2] at hB
    obtain ⟨l0, u0, l1, u1, l2, u2⟩ := hB
    exact ⟨⟨l0, u0⟩, ⟨l1, u1⟩, ⟨l2, u2⟩⟩
  have hw1 : 0 ≤ Int.fmod ([z0, z1, z2].getD (Int.toNat 0) 0) 9 := Int.fmod_nonneg_of_pos _ (by decide)
  have hw2 : Int.fmod ([z0, z1, z2].getD (Int.toNat 0) 0) 9 < 9 := Int.fmod_lt_of_pos _ (by decide)
  obtain ⟨nm, hnm, hor⟩ := name_two hw1 hw2 f8 (show la - mo < 4 by omega)
  have hk1 : 2 * Int.fmod ([z0, z1, z2].getD (Int.toNat 0) 0) 9 + (la - mo) < 30 := by omega
  have hh0 : 0 ≤ Int.fmod ([z0, z1, z2].getD (Int.toNat 0) 0) 9 + Int.fdiv (la - mo) 2 := by rw [Int.fdiv_eq_ediv_of_nonneg _ (by decide)]; omega
  have hh1 : Int.fmod ([z0, z1, z2].getD (Int.toNat 0) 0) 9 + Int.fdiv (la - mo) 2 < 30 := by rw [Int.fdiv_eq_ediv_of_nonneg _ (by decide)]; omega
  (k_with "my call" => first | (refine csingle ⟨by k_asm, by k_asm, by k_asm, by k_asm, by k_asm, by first | rfl | assumption, by ktr_room, by ktr_units⟩ ?_; intro h5 tk5 F5 N5) | (refine chigh ⟨by k_asm, by k_asm, by k_asm, by k_asm, by k_asm, by first | rfl | assumption, by ktr_room, by ktr_units⟩ ?_; intro t8 h8 tk8 F8 N8))
  (k_with "my isnot" => refine isnot_same (by assumption) ?_)
  (k_with "my call" => (refine c257 ⟨by k_asm, by k_asm, by k_asm, by k_asm, by k_asm, by first | rfl | assumption, by ktr_room, by ktr_units⟩ (head_cat2 _ _) (short257 (Int.le_trans (Int.le_of_lt hk1) (by decide))) ?_; intro t4 h4 tk4 F4 N4; rw [hnm]))
  (k_with "my notin" => (refine notin_two (by k_asm) (by k_asm) (by k_mem) (by ktr_units) (marks_ok hh0 hh1) (marksz_ok hh0 hh1) (hor.elim (fun e => .inl e.1) (fun e => .inr e.1)) ?_))
  (k_with "my ifexp" => refine Park.out ?_)
  (k_with "my ne" => refine ne_same (by assumption) ?_)
  k_steps
  refine ⟨?_⟩
  k_with_none
  refine ifexp_in (v := if (la - mo) % 2 = 1 then -(1 * z0 * z1 * z2) else 1 * z0 * z1 * z2) (by k_asm) (by k_asm) ?_ ?_
  · clear hQ
    (k_with "my call" => (refine cprod3 ⟨by k_asm, by k_asm, by k_asm, news_dup (by k_asm) (by k_mem), by k_asm, by first | rfl | assumption, by ktr_room, by ktr_units⟩ hB0 hB1 hB2 ?_; intro t3 h3 tk3 F3 N3'; (obtain N3 := news_tail N3'); clear N3'))
    rcases hor with ⟨rfl, hp⟩ | ⟨rfl, hp⟩
    · rw [if_pos hp]
      (k_with "my eqs" => refine eqs_same ?_)
      k_steps
      exact ⟨_, _, _, rfl, rfl, by k_asm, by k_asm⟩
    · rw [if_neg hp]
      (k_with "my eqs" => refine eqs_diff (lenz_ne _) ?_)
      k_steps
      exact ⟨_, _, _, rfl, rfl, by k_asm, by k_asm⟩
  intro t6 h6 tk6 F6 N6
  k_with_none
  k_steps
  rename News _ _ _ _ => N9
  refine hQ _ _ z0 z1 z2 _ _ _ _ _ _ _ _ _ _ _ (by k_asm) (by rfl) (by rfl) (by rfl) (kst_newsOf N9 (by k_allIn)) ?_ (by assumption) (by assumption) (by assumption) hz0.symm hz1.symm hz2.symm ?_
  · exact .cons _ _ (.cons _ _ (.cons _ _ (.nil)))
  · rename (@Ne Nat I _) ∧ _ => o9
    obtain ⟨w0, _, _, _, _, _, w6, w5, w4, w3, w1⟩ := o9
    exact ⟨w6, w5, w4, w3, w1, w0⟩
end
end Mine
namespace Mine
open PyProof.V
local macro_rules | `(tactic| walk_at "pyIter ref") => `(tactic| k_dflt (k_extra "my pyIter"))
local macro_rules | `(tactic| walk_at "call ref") => `(tactic| k_dflt (k_extra "my call"))
local macro_rules | `(tactic| walk_at "compareOp IsNot bool bool") => `(tactic| (k_here; k_dflt (k_extra "my isnot")))
local macro_rules | `(tactic| walk_at "VPost") => `(tactic| dsimp only [VPost])
local macro_rules | `(tactic| walk_at "CompSrc") => `(tactic| (k_here; k_dflt (k_extra "my src")))
local macro_rules | `(tactic| walk_at "CompEnd") => `(tactic| (k_here; k_dflt (k_extra "my cend")))
local macro_rules | `(tactic| walk_at "eval ListComp BinOp") => `(tactic| (k_here; k_dflt (refine LCg.ListComp_U (F₀ := by k_asm) (by with_unfolding_all rfl) (by decide) (by rfl) (by decide) (by rfl) ?_)))
local macro_rules | `(tactic| walk_at "compareOp Eq int int") => `(tactic| (k_here; k_dflt (k_extra "my eq")))
local macro_rules | `(tactic| walk_at "compareOp NotEq int int") => `(tactic| (k_here; k_dflt (k_extra "my ne")))
local macro_rules | `(tactic| walk_at "compareOp NotIn str ref") => `(tactic| (k_here; k_dflt (k_extra "my notin")))
local macro_rules | `(tactic| walk_at "compareOp Eq str str") => `(tactic| (k_here; k_dflt (k_extra "my eqs")))
local macro_rules | `(tactic| walk_at "eval IfExp") => `(tactic| (k_here; k_dflt (k_extra "my ifexp")))
local macro_rules | `(tactic| walk_at "binaryOp Mult int int") => `(tactic| (k_here; k_dflt (k_extra "my mul")))
local macro_rules | `(tactic| walk_at "storeName ref") => `(tactic| k_dflt (k_extra "my sref"))
local macro_rules | `(tactic| k_ne) => `(tactic| (refine neN ?_; (try dsimp only); first | assumption | exact Ne.symm (by assumption) | omega))
local macro_rules | `(tactic| walk_at "till nowhere") => `(tactic| fail)
theorem fillT4 : Challenge.rw_rl0013_02 = Challenge.rw_rl0013_02 ∧ hd.heap_39 = hd.heap_39 := by
  k_fill
  exact ⟨rfl, rfl⟩
section
variable {w : World} {mean : ExcName → Option Value} {mg mb : Str → Option Value} {h₀ : Heap} {L fa : Addr} {cd : Value} {m : Str → Option Value} {s : Shared} {Q : Flow → Shared → Prop} {E : Value → Shared → Prop}
theorem turn4 {D R0 R1 R2 R3 I sA : Addr} {oI : Obj} {y0 y1 y2 y3 sv : List Value} {sn : Nat} {a0 a1 a2 a3 b0 b1 b2 b3 c0 c1 c2 c3 j0 j1 j2 j3 s0 s1 s2 s3 tot : Int} {o1 o3 o4 o5 o6 : Obj} {v5 v6 : Option Value} {t1 t2 tc tl tt : Tok} {n : Nat} {u : Str → Option Value}
    (B : Below callerA h₀ [] h₀) (X : (hd.heap_39 w.params).In h₀) (T : Top hd.view_39 (looseW hd.view_39 []) mean mg mb h₀)
    (F : Fr h₀ L s.heap (fun y => if y = Str.ofString "t" then some (.int ((n : Int) + 1) t2) else if y = Str.ofString "code" then some (.int (gray n) tc) else if y = Str.ofString "lacking" then some (.int (lackF 4 n) tl) else if y = Str.ofString "total" then some (.int tot tt) else u y))
    (N : News h₀ L s.heap [(I, oI), (sA, listOf sv.toArray sn), (D, LCg.lst [.ref R0, .ref R1, .ref R2, .ref R3]), (R0, LCg.lst y0), (R1, LCg.lst y1), (R2, LCg.lst y2), (R3, LCg.lst y3), (L + 1 + 1 + 1 + 1 + 1 + 1, o6), (L + 1 + 1 + 1 + 1 + 1, o5), (L + 1 + 1 + 1 + 1, o4), (L + 1 + 1 + 1, o3), (L + 1, o1)])
    (d1 : o1.data = .cell (some (.int 4 t1))) (d3 : o3.data = .cell (some (.ref D))) (d4 : o4.data = .cell (some (.ref sA))) (d5 : o5.data = .cell v5) (d6 : o6.data = .cell v6)
    (neD : (@Ne Nat (L + 1 + 1 + 1 + 1 + 1 + 1) D) ∧ (@Ne Nat (L + 1 + 1 + 1 + 1 + 1) D) ∧ (@Ne Nat (L + 1 + 1 + 1 + 1) D) ∧ (@Ne Nat (L + 1 + 1 + 1) D) ∧ (@Ne Nat (L + 1) D)) (neR0 : (@Ne Nat (L + 1 + 1 + 1 + 1 + 1 + 1) R0) ∧ (@Ne Nat (L + 1 + 1 + 1 + 1 + 1) R0) ∧ (@Ne Nat (L + 1 + 1 + 1 + 1) R0) ∧ (@Ne Nat (L + 1 + 1 + 1) R0) ∧ (@Ne Nat (L + 1) R0)) (neR1 : (@Ne Nat (L + 1 + 1 + 1 + 1 + 1 + 1) R1) ∧ (@Ne Nat (L + 1 + 1 + 1 + 1 + 1) R1) ∧ (@Ne Nat (L + 1 + 1 + 1 + 1) R1) ∧ (@Ne Nat (L + 1 + 1 + 1) R1) ∧ (@Ne Nat (L + 1) R1)) (neR2 : (@Ne Nat (L + 1 + 1 + 1 + 1 + 1 + 1) R2) ∧ (@Ne Nat (L + 1 + 1 + 1 + 1 + 1) R2) ∧ (@Ne Nat (L + 1 + 1 + 1 + 1) R2) ∧ (@Ne Nat (L + 1 + 1 + 1) R2) ∧ (@Ne Nat (L + 1) R2)) (neR3 : (@Ne Nat (L + 1 + 1 + 1 + 1 + 1 + 1) R3) ∧ (@Ne Nat (L + 1 + 1 + 1 + 1 + 1) R3) ∧ (@Ne Nat (L + 1 + 1 + 1 + 1) R3) ∧ (@Ne Nat (L + 1 + 1 + 1) R3) ∧ (@Ne Nat (L + 1) R3))
    (neA : (@Ne Nat (L + 1 + 1 + 1 + 1 + 1 + 1) sA) ∧ (@Ne Nat (L + 1 + 1 + 1 + 1 + 1) sA) ∧ (@Ne Nat (L + 1 + 1 + 1 + 1) sA) ∧ (@Ne Nat (L + 1 + 1 + 1) sA) ∧ (@Ne Nat (L + 1) sA) ∧ (@Ne Nat I sA))
    (neI : (@Ne Nat (L + 1 + 1 + 1 + 1 + 1 + 1) I) ∧ (@Ne Nat (L + 1 + 1 + 1 + 1 + 1) I) ∧ (@Ne Nat (L + 1 + 1 + 1 + 1) I) ∧ (@Ne Nat (L + 1 + 1 + 1) I) ∧ (@Ne Nat (L + 1) I))
    (i0 : IntsAre y0 [a0, a1, a2, a3]) (i1 : IntsAre y1 [b0, b1, b2, b3]) (i2 : IntsAre y2 [c0, c1, c2, c3]) (i3 : IntsAre y3 [j0, j1, j2, j3]) (iS : IntsAre sv [s0, s1, s2, s3])
    (hn : n < 15) (hB : -20000000 ≤ s0 + moreF ((n : Int) + 1) * [a0, a1, a2, a3].getD (colF ((n : Int) + 1)).toNat 0 ∧ s0 + moreF ((n : Int) + 1) * [a0, a1, a2, a3].getD (colF ((n : Int) + 1)).toNat 0 ≤ 20000000 ∧ -20000000 ≤ s1 + moreF ((n : Int) + 1) * [b0, b1, b2, b3].getD (colF ((n : Int) + 1)).toNat 0 ∧ s1 + moreF ((n : Int) + 1) * [b0, b1, b2, b3].getD (colF ((n : Int) + 1)).toNat 0 ≤ 20000000 ∧ -20000000 ≤ s2 + moreF ((n : Int) + 1) * [c0, c1, c2, c3].getD (colF ((n : Int) + 1)).toNat 0 ∧ s2 + moreF ((n : Int) + 1) * [c0, c1, c2, c3].getD (colF ((n : Int) + 1)).toNat 0 ≤ 20000000 ∧ -20000000 ≤ s3 + moreF ((n : Int) + 1) * [j0, j1, j2, j3].getD (colF ((n : Int) + 1)).toNat 0 ∧ s3 + moreF ((n : Int) + 1) * [j0, j1, j2, j3].getD (colF ((n : Int) + 1)).toNat 0 ≤ 20000000)
    (hQ : ∀ (sB : Addr) (zv : List Value) (z0 z1 z2 z3 : Int) (oM oC oS : Obj) (vM vC : Option Value) (tc' tl' tt' : Tok) (h' : Heap) (tk' : Nat) (m' : Str → Option Value), Fr h₀ L h' m' → m' (Str.ofString "code") = some (.int (gray ((n : Int) + 1)) tc') → m' (Str.ofString "lacking") = some (.int (lackF 4 (n + 1)) tl') →
      m' (Str.ofString "total") = some (.int (tot + (if lackF 4 (n + 1) % 2 = 1 then -(1 * z0 * z1 * z2 * z3) else 1 * z0 * z1 * z2 * z3)) tt') →
      News h₀ L h' [(I, oI), (sB, LCg.lst zv), (D, LCg.lst [.ref R0, .ref R1, .ref R2, .ref R3]), (R0, LCg.lst y0), (R1, LCg.lst y1), (R2, LCg.lst y2), (R3, LCg.lst y3), (L + 1 + 1 + 1 + 1 + 1 + 1, oM), (L + 1 + 1 + 1 + 1 + 1, oC), (L + 1 + 1 + 1 + 1, oS), (L + 1 + 1 + 1, o3), (L + 1, o1)] → IntsAre zv [z0, z1, z2, z3] →
      oS.data = .cell (some (.ref sB)) → oM.data = .cell vM → oC.data = .cell vC → z0 = s0 + moreF ((n : Int) + 1) * [a0, a1, a2, a3].getD (colF ((n : Int) + 1)).toNat 0 → z1 = s1 + moreF ((n : Int) + 1) * [b0, b1, b2, b3].getD (colF ((n : Int) + 1)).toNat 0 → z2 = s2 + moreF ((n : Int) + 1) * [c0, c1, c2, c3].getD (colF ((n : Int) + 1)).toNat 0 → z3 = s3 + moreF ((n : Int) + 1) * [j0, j1, j2, j3].getD (colF ((n : Int) + 1)).toNat 0 →
      (@Ne Nat (L + 1 + 1 + 1 + 1 + 1 + 1) sB) ∧ (@Ne Nat (L + 1 + 1 + 1 + 1 + 1) sB) ∧ (@Ne Nat (L + 1 + 1 + 1 + 1) sB) ∧ (@Ne Nat (L + 1 + 1 + 1) sB) ∧ (@Ne Nat (L + 1) sB) ∧ (@Ne Nat I sB) → Q .next { s with heap := h', toks := tk' }) :
    wpAny (model RP w) (callerA.deeper (lawEnv L fa cd)) (execs turnBody (lawEnv L fa cd)) Q E s := by
  dsimp only [turnBody, rest7, lawBody, lastOf, Challenge.pw_rl0013_02, lawEnv, lawScope]
  w_top on
  obtain ⟨na1, na2, na3, na4, na5, na6⟩ := neA
  obtain ⟨ni1, ni2, ni3, ni4, ni5⟩ := neI
  obtain ⟨nd1, nd2, nd3, nd4, nd5⟩ := neD
  obtain ⟨nr01, nr02, nr03, nr04, nr05⟩ := neR0
  obtain ⟨nr11, nr12, nr13, nr14, nr15⟩ := neR1
  obtain ⟨nr21, nr22, nr23, nr24, nr25⟩ := neR2
  obtain ⟨nr31, nr32, nr33, nr34, nr35⟩ := neR3
  obtain ⟨f1, f2, f3, f4, f5, f6, f7, f8, f9⟩ := turn_facts4 ⟨n, hn⟩
  have e0 : turnF ((n : Int) + 1) = Builtin.bitXor (Builtin.bitXor (gray n) ((n : Int) + 1)) (Int.fdiv ((n : Int) + 1) 2) := by
    unfold turnF
    rw [show (n : Int) + 1 - 1 = n by omega]
  have hL : lackF 4 (n + 1) = lackF 4 n - moreF ((n : Int) + 1) := rfl
  rw [hL] at hQ f4 f8 f9
  dsimp only [colF] at f1 f2 f3 f4 f5 f6 f7 f8 f9 hQ hB
  rw [e0] at f1 f2 f3 hQ hB
  unfold gray at f4 f5 f6 f7
  rw [show gray ((n : Int) + 1) = Builtin.bitXor ((n : Int) + 1) (Int.fdiv ((n : Int) + 1) 2) from rfl] at hQ
  have hM : moreF ((n : Int) + 1) = if Builtin.bitAnd (Builtin.bitXor ((n : Int) + 1) (Int.fdiv ((n : Int) + 1) 2)) (Builtin.bitXor (Builtin.bitXor (gray n) ((n : Int) + 1)) (Int.fdiv ((n : Int) + 1) 2)) = Builtin.bitXor (Builtin.bitXor (gray n) ((n : Int) + 1)) (Int.fdiv ((n : Int) + 1) 2) then 1 else -1 := by
    unfold moreF
    rw [e0]
    rfl
  clear e0 hL
  have hM2 := more_two ((n : Int) + 1)
  generalize moreF ((n : Int) + 1) = mo at *
  have hmul := mulok_two hM2
  generalize hLm : lackF 4 n = la at *
  (k_with "my call" => first | (refine csingle ⟨by k_asm, by k_asm, by k_asm, by k_asm, by k_asm, by first | rfl | assumption, by ktr_room, by ktr_units⟩ ?_; intro h5 tk5 F5 N5) | (refine chigh ⟨by k_asm, by k_asm, by k_asm, by k_asm, by k_asm, by first | rfl | assumption, by ktr_room, by ktr_units⟩ ?_; intro t8 h8 tk8 F8 N8))
  (k_with "my isnot" => refine isnot_same (by assumption) ?_)
  (k_with "my src" => (refine LCg.CompSrc.range (by rfl) (by k_asm) (by k_asm) (by assumption) (by decide) (n := 4) (by rfl) (by rw [sizeLine_eq]; decide) ?_; intro g'; (intro v' I' oI' C' oC' D' m' h' tk' E' hv' hC' hx' F' N' off0 ne'); (obtain ⟨tv', rfl⟩ := hv')))
  (k_with "my cend" => (refine cend_same (by k_asm) (by k_asm) off0 trivial ?_; clear off0; first | (show LCg.FinE _ _ _ _ _ _ _) | (intro v' I' oI' C' oC' D' m' h' tk' E' hv' hC' hx' F' N' off0 ne'; (obtain ⟨tv', rfl⟩ := hv'))))
  (k_with "my ifexp" => refine Park.out ?_)
  have g4 : singleF (Builtin.bitXor ((n : Int) + 1) (Int.fdiv ((n : Int) + 1) 2)) = (la - mo == 4 - 1) := f4
  clear f4
  k_steps
  refine ⟨?_⟩
  refine ifexp_int (v := mo) ?_ ?_
  · rw [hM]
    by_cases hb : Builtin.bitAnd (Builtin.bitXor ((n : Int) + 1) (Int.fdiv ((n : Int) + 1) 2)) (Builtin.bitXor (Builtin.bitXor (gray n) ((n : Int) + 1)) (Int.fdiv ((n : Int) + 1) 2)) = Builtin.bitXor (Builtin.bitXor (gray n) ((n : Int) + 1)) (Int.fdiv ((n : Int) + 1) 2)
    · rw [if_pos hb]
      (k_with "my eq" => refine eq_same hb ?_)
      k_steps
      exact ⟨_, _, rfl, rfl⟩
    · rw [if_neg hb]
      (k_with "my eq" => refine eq_diff hb ?_)
      k_steps
      exact ⟨_, _, rfl, rfl⟩
  intro t9 tk9
  clear hM hM2
  (k_with "my mul" => refine PyProof.Rows.mul_int ?_ (hm := hmul _))
  (k_with "my ne" => refine ne_same (by assumption) ?_)
  (k_with "my sref" => refine Park.out ?_)
  k_steps
  refine ⟨?_⟩
  k_with_none
  generalize hz0 : [s0, s1, s2, s3].getD (0 + ((0 : Nat) : Int)).toNat 0 + mo * [a0, a1, a2, a3].getD (highF (Builtin.bitXor (Builtin.bitXor (gray n) ((n : Int) + 1)) (Int.fdiv ((n : Int) + 1) 2))).toNat 0 = z0 at *
  generalize hz1 : [s0, s1, s2, s3].getD (0 + ((0 + 1 : Nat) : Int)).toNat 0 + mo * [b0, b1, b2, b3].getD (highF (Builtin.bitXor (Builtin.bitXor (gray n) ((n : Int) + 1)) (Int.fdiv ((n : Int) + 1) 2))).toNat 0 = z1 at *
  generalize hz2 : [s0, s1, s2, s3].getD (0 + ((0 + 1 + 1 : Nat) : Int)).toNat 0 + mo * [c0, c1, c2, c3].getD (highF (Builtin.bitXor (Builtin.bitXor (gray n) ((n : Int) + 1)) (Int.fdiv ((n : Int) + 1) 2))).toNat 0 = z2 at *
  generalize hz3 : [s0, s1, s2, s3].getD (0 + ((0 + 1 + 1 + 1 : Nat) : Int)).toNat 0 + mo * [j0, j1, j2, j3].getD (highF (Builtin.bitXor (Builtin.bitXor (gray n) ((n : Int) + 1)) (Int.fdiv ((n : Int) + 1) 2))).toNat 0 = z3 at *
  obtain ⟨hB0, hB1, hB2, hB3⟩ : (-20000000 ≤ z0 ∧ z0 ≤ 20000000) ∧ (-20000000 ≤ z1 ∧ z1 ≤ 20000000) ∧ (-20000000 ≤ z2 ∧ z2 ≤ 20000000) ∧ (-20000000 ≤ z3 ∧ z3 ≤ 20000000) := by
    rw [show s0 + mo * [a0, a1, a2, a3].getD (highF (Builtin.bitXor (Builtin.bitXor (gray n) ((n : Int) + 1)) (Int.fdiv ((n : Int) + 1) 2))).toNat 0 = z0 from hz0] at hB; rw [show s1 + mo * [b0, b1, b2, b3].getD (highF (Builtin.bitXor (Builtin.bitXor (gray n) ((n : Int) + 1)) (Int.fdiv ((n : Int) + 1) 2))).toNat 0 = z1 from hz1] at hB; rw [show s2 + mo * [c0, c1, c2, c3].getD (highF (Builtin.bitXor (Builtin.bitXor (gray n) ((n : Int) + 1)) (Int.fdiv ((n : Int) + 1) 2))).toNat 0 = z2 from hz2] at hB; rw [show s3 + mo * [j0, j1, j2, j3].getD (highF (Builtin.bitXor (Builtin.bitXor (gray n) ((n : Int) + 1)) (Int.fdiv ((n : Int) + 1) 2))).toNat 0 = z3 from hz3] at hB
    obtain ⟨l0, u0, l1, u1, l2, u2, l3, u3⟩ := hB
    exact ⟨⟨l0, u0⟩, ⟨l1, u1⟩, ⟨l2, u2⟩, ⟨l3, u3⟩⟩
  have hw1 : 0 ≤ Int.fmod ([z0, z1, z2, z3].getD (Int.toNat 0) 0) 9 := Int.fmod_nonneg_of_pos _ (by decide)
  have hw2 : Int.fmod ([z0, z1, z2, z3].getD (Int.toNat 0) 0) 9 < 9 := Int.fmod_lt_of_pos _ (by decide)
  obtain ⟨nm, hnm, hor⟩ := name_two hw1 hw2 f8 (show la - mo < 4 by omega)
  have hk1 : 2 * Int.fmod ([z0, z1, z2, z3].getD (Int.toNat 0) 0) 9 + (la - mo) < 30 := by omega
  have hh0 : 0 ≤ Int.fmod ([z0, z1, z2, z3].getD (Int.toNat 0) 0) 9 + Int.fdiv (la - mo) 2 := by rw [Int.fdiv_eq_ediv_of_nonneg _ (by decide)]; omega
  have hh1 : Int.fmod ([z0, z1, z2, z3].getD (Int.toNat 0) 0) 9 + Int.fdiv (la - mo) 2 < 30 := by rw [Int.fdiv_eq_ediv_of_nonneg _ (by decide)]; omega
  (k_with "my call" => first | (refine csingle ⟨by k_asm, by k_asm, by k_asm, by k_asm, by k_asm, by first | rfl | assumption, by ktr_room, by ktr_units⟩ ?_; intro h5 tk5 F5 N5) | (refine chigh ⟨by k_asm, by k_asm, by k_asm, by k_asm, by k_asm, by first | rfl | assumption, by ktr_room, by ktr_units⟩ ?_; intro t8 h8 tk8 F8 N8))
  (k_with "my isnot" => refine isnot_same (by assumption) ?_)
  (k_with "my call" => (refine c257 ⟨by k_asm, by k_asm, by k_asm, by k_asm, by k_asm, by first | rfl | assumption, by ktr_room, by ktr_units⟩ (head_cat2 _ _) (short257 (Int.le_trans (Int.le_of_lt hk1) (by decide))) ?_; intro t4 h4 tk4 F4 N4; rw [hnm]))
  (k_with "my notin" => (refine notin_two (by k_asm) (by k_asm) (by k_mem) (by ktr_units) (marks_ok hh0 hh1) (marksz_ok hh0 hh1) (hor.elim (fun e => .inl e.1) (fun e => .inr e.1)) ?_))
  (k_with "my ifexp" => refine Park.out ?_)
  (k_with "my ne" => refine ne_same (by assumption) ?_)
  k_steps
  refine ⟨?_⟩
  k_with_none
  refine ifexp_in (v := if (la - mo) % 2 = 1 then -(1 * z0 * z1 * z2 * z3) else 1 * z0 * z1 * z2 * z3) (by k_asm) (by k_asm) ?_ ?_
  · clear hQ
    (k_with "my call" => (refine cprod4 ⟨by k_asm, by k_asm, by k_asm, news_dup (by k_asm) (by k_mem), by k_asm, by first | rfl | assumption, by ktr_room, by ktr_units⟩ hB0 hB1 hB2 hB3 ?_; intro t3 h3 tk3 F3 N3'; (obtain N3 := news_tail N3'); clear N3'))
    rcases hor with ⟨rfl, hp⟩ | ⟨rfl, hp⟩
    · rw [if_pos hp]
      (k_with "my eqs" => refine eqs_same ?_)
      k_steps
      exact ⟨_, _, _, rfl, rfl, by k_asm, by k_asm⟩
    · rw [if_neg hp]
      (k_with "my eqs" => refine eqs_diff (lenz_ne _) ?_)
      k_steps
      exact ⟨_, _, _, rfl, rfl, by k_asm, by k_asm⟩
  intro t6 h6 tk6 F6 N6
  k_with_none
  k_steps
  rename News _ _ _ _ => N9
  refine hQ _ _ z0 z1 z2 z3 _ _ _ _ _ _ _ _ _ _ _ (by k_asm) (by rfl) (by rfl) (by rfl) (kst_newsOf N9 (by k_allIn)) ?_ (by assumption) (by assumption) (by assumption) hz0.symm hz1.symm hz2.symm hz3.symm ?_
  · exact .cons _ _ (.cons _ _ (.cons _ _ (.cons _ _ (.nil))))
  · rename (@Ne Nat I _) ∧ _ => o9
    obtain ⟨w0, _, _, _, _, _, _, w6, w5, w4, w3, w1⟩ := o9
    exact ⟨w6, w5, w4, w3, w1, w0⟩
end
end Mine
namespace Mine
open PyProof.V
/-- a loop's turn whose ledger may change and that forgets every name but those that are bound: the state, what is bound, what holds behind i turns -/
def VA {σ : Type} (Led : σ → List (Addr × Obj)) (ps : σ → List (Str × Value)) (P : Nat → σ → Prop) (i : Nat) (m : Str → Option Value) (nx : List (Addr × Obj)) : Prop :=
  ∃ c : σ, nx = Led c ∧ (∀ p ∈ ps c, m p.1 = some p.2) ∧ P i c
theorem VEnd.all {σ : Type} {Led : σ → List (Addr × Obj)} {ps : σ → List (Str × Value)} {P : Nat → σ → Prop} {i : Nat} {h₀ : Heap} {L I : Addr} {o : Obj} {m' : Str → Option Value} {news' : List (Addr × Obj)} {s₁ : Shared} {h' : Heap} {tk : Nat} (c : σ)
    (F : Fr h₀ L h' m') (N : News h₀ L h' news') (hn : ∀ p ∈ (I, o) :: Led c, p ∈ news') (ho : ∀ p ∈ Led c, p.1 ≠ I) (hk : ∀ p ∈ ps c, m' p.1 = some p.2) (hp : P i c) :
    VEnd h₀ L (VA Led ps P i) I o s₁ { s₁ with heap := h', toks := tk } :=
  ⟨h', tk, m', Led c, rfl, F, fun p hp => N p (hn p hp), ho, c, rfl, hk, hp⟩
theorem va_eq {m₁ : Str → Option Value} {ps : List (Str × Value)} (h : ∀ p ∈ ps, m₁ p.1 = some p.2) : kstB m₁ ps = m₁ := funext fun _ => kstB_eq h fun _ => rfl
section
variable {prog : Program} {w : World} {A : Around} {E : Value → Shared → Prop} {s : Shared} {env : Env} {h₀ : Heap} {x : Str} {body : List Stmt} {Q : Flow → Shared → Prop}
theorem vary_all {σ : Type} {r : Addr} {a₀ b₀ : Int} {t₀ u₀ v₀ : Tok} {n : Nat} {m₀ : Str → Option Value} (Led : σ → List (Addr × Obj)) (ps : σ → List (Str × Value)) (P : Nat → σ → Prop) (c₀ : σ)
    (hh : A.handled = none) (hr : IsRange s.heap r a₀ b₀ 1 t₀ u₀ v₀) (hsmall : Builtin.Range.small a₀ b₀ 1 = true) (hn : Builtin.Range.rangeSize a₀ b₀ 1 = (n : Int)) (F : Fr h₀ env.locals s.heap m₀) (N : News h₀ env.locals s.heap (Led c₀)) (hk : ∀ p ∈ ps c₀, m₀ p.1 = some p.2) (hp : P 0 c₀)
    (turn : ∀ (c : σ) (i : Nat) t (u : Str → Option Value) h tk I o, i < n → P i c →
      Fr h₀ env.locals h (fun y => if y = x then some (.int (a₀ + (i : Int)) t) else kstB u (ps c) y) → News h₀ env.locals h ((I, o) :: Led c) → (∀ p ∈ Led c, p.1 ≠ I) →
      wpAny (model prog w) A (execs body env) (VPost h₀ env.locals (VA Led ps P (i + 1)) I o { s with heap := h, toks := tk } Q) E { s with heap := h, toks := tk })
    (done : ∀ (c : σ) (u : Str → Option Value) h tk, P n c → Fr h₀ env.locals h (kstB u (ps c)) → News h₀ env.locals h (Led c) → Q .next { s with heap := h, toks := tk }) :
    wpAny (model prog w) A (pyIter (.ref r)) (fun it s₂ => LoopAtV prog w A h₀ env x body Q E it s₂) E s := by
  refine wpAny_pyIter_range hr hsmall ?_
  have W : Walks prog w A s.heap.objs.size [s.heap.objs.size] [s.heap.objs.size] n (fun i v => i < n ∧ ∃ t, v = .int (a₀ + i * 1) t)
      (fun i h => IsRangeIter h s.heap.objs.size (a₀ + (i : Nat) * 1) ((n : Int) - (i : Nat)) 1) := (Walks.range hh _ a₀ 1 n).bound
  refine ⟨_, _, _, _, _, _, m₀, Led c₀, fun i m nx => VA Led ps P i m nx, rfl, W, ?_, ?_, ?_, (by show IsRangeIter _ _ _ _ _; rw [hn]; simpa using Heap.get?_push_size _ rfl), F.push _, (fun p hp => ⟨Heap.get?_push_of_some _ (N p hp).1, (N p hp).2⟩), ⟨c₀, rfl, hk, hp⟩, ?_, ?_⟩
  · intro hm
    exact absurd F.ns.lt ((List.mem_singleton.mp hm) ▸ Nat.lt_irrefl _)
  · intro b hb
    rw [List.mem_singleton.mp hb]
    exact next_is_new F
  · intro p hp hI
    exact absurd (Heap.lt_size (N p hp).1) ((List.mem_singleton.mp hI) ▸ Nat.lt_irrefl _)
  · rintro i v m₁ news₁ s₁ own ⟨hh', tk', rfl⟩ hi ⟨_, t, rfl⟩ ⟨c, rfl, h1, hp'⟩ hoff hown hget hall hst F₁ N₁
    have e1 : a₀ + (i : Int) * 1 = a₀ + (i : Int) := by omega
    rw [e1] at F₁
    dsimp only
    obtain ⟨o, ho⟩ : ∃ o, hh'.get? s.heap.objs.size = some o := ⟨_, hst⟩
    have hin := hall _ (List.mem_singleton.mpr rfl) (next_is_new F) _ ho
    have hone : ∀ p ∈ own, p = (s.heap.objs.size, o) := fun p hp => by
      have e := List.mem_singleton.mp (hown p hp)
      have g := hget p hp
      rw [e] at g
      have e2 := Option.some.inj (g.symm.trans ho)
      exact Prod.ext e e2
    have hne : ∀ p ∈ Led c, p.1 ≠ s.heap.objs.size := fun p hp e => hoff p hp (List.mem_singleton.mpr e)
    refine wpAny_mono (turn c i t m₁ hh' tk' s.heap.objs.size o hi hp' (by rw [va_eq h1]; exact F₁) (fun p hp => N₁ p (by
      rcases List.mem_cons.mp hp with rfl | hp
      · exact List.mem_append_left _ hin
      · exact List.mem_append_right _ hp)) hne) (fun f s₂ p => ?_) fun _ _ e => e
    have fin : VEnd h₀ env.locals (VA Led ps P (i + 1)) s.heap.objs.size o { s with heap := hh', toks := tk' } s₂ →
        LoopStepU h₀ env.locals [s.heap.objs.size] own (VA Led ps P (i + 1)) { s with heap := hh', toks := tk' } .next s₂ := by
      rintro ⟨h', tk, m', nx, e, F', N', hn', hJ⟩
      refine ⟨rfl, h', tk, m', nx, e, F', fun p hp => ?_, fun p hp hq => hn' p hp (List.mem_singleton.mp hq), hJ⟩
      rcases List.mem_append.mp hp with hp | hp
      · rw [hone p hp]
        exact N' _ (List.mem_cons_self ..)
      · exact N' p (List.mem_cons_of_mem _ hp)
    cases f with
    | ret v => exact .ret p
    | brk => exact .brk p
    | next => exact .next (fin p)
    | cont => exact .cont (fin p)
  · rintro h' tk m' news' F' N' _ ⟨c, rfl, h1, hp'⟩
    exact done c m' h' tk hp' (by rw [va_eq h1]; exact F') N'
end
end Mine
namespace Mine
open PyProof.V
/-- a list's comprehension with two fors, without tests -/
abbrev twoFor (elt : Expr) (x : Str) (px : Pos) (iter0 : Expr) (y : Str) (py : Pos) (iter1 : Expr) (scope : Scope) (pos : Pos) : Expr := .ListComp elt [⟨.Name x px, iter0, [], 0⟩, ⟨.Name y py, iter1, [], 0⟩] scope pos
theorem turn_two0 (elt : Expr) (x : Str) (px : Pos) (iter0 : Expr) (y : Str) (py : Pos) (iter1 : Expr) (scope : Scope) (pos : Pos) (it acc : Value) (env : Env) :
    compTurn (twoFor elt x px iter0 y py iter1 scope pos) 0 it acc env = (standAt iter0.pos >>= fun _ => pyNext it >>= fun r => match r with
      | none => pure (.done .next)
      | some v => letOwnedTupleGo (.Name x px) it v >>= fun _ => assign (.Name x px) env v >>= fun _ =>
        (eval iter1 env >>= fun z => standAt iter1.pos >>= fun _ => foldedSetIterable iter1 env z >>= fun z => holding [z] (pyIter z) >>= fun it' => runOwn (.compStart (twoFor elt x px iter0 y py iter1 scope pos) 1 it' acc env) env >>= fun _ =>
          again (.compLoop (twoFor elt x px iter0 y py iter1 scope pos) 0 it acc env))) := by rfl
theorem turn_two1 (elt : Expr) (x : Str) (px : Pos) (iter0 : Expr) (y : Str) (py : Pos) (iter1 : Expr) (scope : Scope) (pos : Pos) (it acc : Value) (env : Env) :
    compTurn (twoFor elt x px iter0 y py iter1 scope pos) 1 it acc env = (standAt iter1.pos >>= fun _ => pyNext it >>= fun r => match r with
      | none => pure (.done .next)
      | some v => letOwnedTupleGo (.Name y py) it v >>= fun _ => assign (.Name y py) env v >>= fun _ =>
        (eval elt env >>= fun z => call (.builtin "list.append") [acc, z] >>= fun _ => pure ()) >>= fun _ =>
          again (.compLoop (twoFor elt x px iter0 y py iter1 scope pos) 1 it acc env)) := by rfl
section
variable {prog : Program} {w : World} {A : Around} {E : Value → Shared → Prop} {R : Result → Shared → Prop} {s : Shared} {elt iter0 iter1 : Expr} {x y : Str} {px py pos : Pos} {scope : Scope}
theorem loop_two0 {it acc : Value} {env : Env} (I : Nat → Shared → Prop)
    (turn : ∀ n s, I n s → wpAny (model prog w) A (pyNext it) (fun r s₁ => match r with
      | none => R (.ok .next) s₁
      | some v => wpAny (model prog w) A (assign (.Name x px) env v) (fun _ s₂ => wpAny (model prog w) A (eval iter1 env) (fun z s₃ => wpAny (model prog w) A (pyIter z) (fun it' s₄ =>
          codeAny (model prog w) A (.compStart (twoFor elt x px iter0 y py iter1 scope pos) 1 it' acc env) (fun r s' => match r with
            | .ok _ => ∃ m, m < n ∧ I m s'
            | .error e => cameBackBy (model prog w) A env (notedBy (model prog w) A env fun e s' => R (.error e) s') e s') s₄)
          (notedBy (model prog w) A env fun e s' => R (.error e) s') s₃)
          (notedBy (model prog w) A env fun e s' => R (.error e) s') s₂) (notedBy (model prog w) A env fun e s' => R (.error e) s') s₁) (notedBy (model prog w) A env fun e s' => R (.error e) s') s)
    (n : Nat) (h : I n s) (hs : ∀ z, foldedSetIterable iter1 env z = pure z) :
    codeAny (model prog w) A (.compLoop (twoFor elt x px iter0 y py iter1 scope pos) 0 it acc env) R s := by
  refine codeAny_loop rfl I (fun n s hI => ?_) n h
  show wpAny _ _ ((compTurn (twoFor elt x px iter0 y py iter1 scope pos) 0 it acc env).onRaise (fun x => do noteFrame x env; theTreesLotGoes x)) _ _ s
  refine wpAny_noted ?_
  rw [turn_two0]
  refine wpAny_bind (wpAny_standAt (wpAny_bind (wpAny_mono (turn n s hI) (fun r s₁ h₁ => ?_) fun _ _ h' => h')))
  cases r with
  | none => exact wpAny_pure h₁
  | some v =>
    refine wpAny_bind (wpAny_of_eq rfl ?_)
    refine wpAny_bind (wpAny_mono h₁ (fun _ s₂ h₂ => wpAny_bind (wpAny_mono h₂ (fun z s₃ h₃ => wpAny_bind (wpAny_standAt (wpAny_bind (wpAny_of_eq (hs z)
      (wpAny_bind (wpAny_holding (wpAny_mono h₃ (fun it' s₄ h₄ => wpAny_bind (wpAny_runOwn (codeAny_mono h₄ fun r s' hr => ?_))) fun _ _ h' => h'))))))) fun _ _ h' => h')) fun _ _ h' => h')
    cases r with
    | ok f => exact wpAny_pure ⟨rfl, hr⟩
    | error e => exact hr
theorem loop_two1 {it acc : Value} {env : Env} (I : Nat → Shared → Prop)
    (turn : ∀ n s, I n s → wpAny (model prog w) A (pyNext it) (fun r s₁ => match r with
      | none => R (.ok .next) s₁
      | some v => wpAny (model prog w) A (assign (.Name y py) env v) (fun _ s₂ => wpAny (model prog w) A (eval elt env) (fun z s₃ =>
          wpAny (model prog w) A (call (.builtin "list.append") [acc, z]) (fun _ s₄ => ∃ m, m < n ∧ I m s₄) (notedBy (model prog w) A env fun e s' => R (.error e) s') s₃)
          (notedBy (model prog w) A env fun e s' => R (.error e) s') s₂) (notedBy (model prog w) A env fun e s' => R (.error e) s') s₁) (notedBy (model prog w) A env fun e s' => R (.error e) s') s)
    (n : Nat) (h : I n s) :
    codeAny (model prog w) A (.compLoop (twoFor elt x px iter0 y py iter1 scope pos) 1 it acc env) R s := by
  refine codeAny_loop rfl I (fun n s hI => ?_) n h
  show wpAny _ _ ((compTurn (twoFor elt x px iter0 y py iter1 scope pos) 1 it acc env).onRaise (fun x => do noteFrame x env; theTreesLotGoes x)) _ _ s
  refine wpAny_noted ?_
  rw [turn_two1]
  refine wpAny_bind (wpAny_standAt (wpAny_bind (wpAny_mono (turn n s hI) (fun r s₁ h₁ => ?_) fun _ _ h' => h')))
  cases r with
  | none => exact wpAny_pure h₁
  | some v =>
    refine wpAny_bind (wpAny_of_eq rfl ?_)
    exact wpAny_bind (wpAny_mono h₁ (fun _ s₂ h₂ => wpAny_bind (wpAny_bind (wpAny_mono h₂ (fun x s₃ h₃ => wpAny_bind (wpAny_mono h₃
      (fun _ s₄ h₄ => wpAny_pure (wpAny_pure ⟨rfl, h₄⟩)) fun _ _ h' => h')) fun _ _ h' => h'))) fun _ _ h' => h')
theorem start_two1 {it acc : Value} {env : Env}
    (h0 : codeAny (model prog w) A (.compLoop (twoFor elt x px iter0 y py iter1 scope pos) 1 it acc env) R s)
    (h : wpAny (model prog w) A (pyIter it) (fun it' s' => codeAny (model prog w) A (.compLoop (twoFor elt x px iter0 y py iter1 scope pos) 1 it' acc env) R s')
      (notedBy (model prog w) A env fun x s' => R (.error x) s') s) :
    codeAny (model prog w) A (.compStart (twoFor elt x px iter0 y py iter1 scope pos) 1 it acc env) R s := by
  refine codeAny_of_tree ?_
  show wpAny _ _ ((compStart (twoFor elt x px iter0 y py iter1 scope pos) 1 it acc env).onRaise (fun x => do noteFrame x env; standAt theWindowsPlace)) _ _ s
  refine wpAny_notedAt ?_
  unfold compStart
  show wpAny _ _ (ask >>= _) _ _ s
  refine wpAny_bind (wpAny_askSetting (wpAny_ite ?_))
  split
  · first
      | exact wpAny_bind (wpAny_pure (wpAny_pure (And.intro rfl h0)))
      | exact wpAny_pure (And.intro rfl h0)
  · first
      | exact wpAny_bind (wpAny_rule (wpAny_bind (wpAny_standAt (wpAny_bind (wpAny_mono h (fun it' s' h' => wpAny_pure (And.intro rfl h')) fun _ _ x => x)))))
      | (refine wpAny_bind (wpAny_rule ?_); show wpAny _ _ (standAt iter1.pos >>= _) _ _ s; exact wpAny_bind (wpAny_standAt (wpAny_bind (wpAny_mono h (fun it' s' h' => wpAny_pure (And.intro rfl h')) fun _ _ x => x))))
end
end Mine
namespace Mine
open PyProof.V
section
variable {prog : Program} {w : World} {A : Around} {E : Value → Shared → Prop} {s : Shared} {h₀ : Heap} {L : Addr} {m : Str → Option Value} {env : Env} {elt iter0 iter1 : Expr} {x y : Str} {px py pos : Pos} {scope : Scope} {cl : List (Str × Addr)}
theorem inner_two {R : Result → Shared → Prop} {Inv : Nat → List Value → List (Addr × Obj) → Prop} {v : Value} {I C D : Addr} {n : Nat} {mC : Str → Option Value} {ys₀ : List Value} {news : List (Addr × Obj)}
    (hh : A.handled = none) (hkind : scope.kind = .function) (hy : scope.names.lookup y = some .local) (hxy : x ≠ y)
    (hst : IsRangeIter s.heap I (0 + (((0 : Nat) : Int)) * 1) ((n : Int) - ((0 : Nat) : Int)) 1) (F : Fr h₀ L s.heap m) (hC : s.heap.Ns C mC) (hx : mC x = some v) (N : News h₀ L s.heap ((D, LCg.lst ys₀) :: news))
    (hCL : C ≠ L) (hC₀ : h₀.get? C = none) (hIL : L ≠ I) (hI₀ : h₀.get? I = none) (hIC : I ≠ C) (hID : I ≠ D) (hCD : C ≠ D) (off : LCg.Off3 I C D news) (hb : ∀ j ys nw, Inv j ys nw → ys.length ≤ sizeLine)
    (turn : ∀ j t oI oC m₂ ys nw h tk (E' : Value → Shared → Prop), j < n → LCg.NsObj oC m₂ → m₂ x = some v → m₂ y = some (.int (0 + (j : Int)) t) → Inv j ys nw → Fr h₀ L h m → News h₀ L h ((I, oI) :: (C, oC) :: (D, LCg.lst ys) :: nw) → LCg.Off3 I C D nw →
      wpAny (model prog w) A (eval elt (compEnvC scope cl C env)) (LCg.CompEnd h₀ L m { s with heap := h, toks := tk } I oI C oC D (LCg.lst ys) (fun _ => True) (fun y' nw' => Inv (j + 1) (ys ++ [y']) nw')) E' { s with heap := h, toks := tk })
    (h0 : Inv 0 ys₀ news)
    (done : ∀ h tk mC ys nw, Fr h₀ L h m → News h₀ L h ((D, LCg.lst ys) :: nw) → h.Ns C mC → LCg.Off3 I C D nw → Inv n ys nw → R (.ok .next) { s with heap := h, toks := tk }) :
    codeAny (model prog w) A (.compStart (twoFor elt x px iter0 y py iter1 scope pos) 1 (.ref I) (.ref D) (compEnvC scope cl C env)) R s := by
  have W := LCg.range_walks (prog := prog) (w := w) (A := A) (I := I) hh 0 n
  have hDL : D ≠ L := (N _ List.mem_cons_self).2.1
  have hD₀ : h₀.get? D = none := (N _ List.mem_cons_self).2.2
  have loop : codeAny (model prog w) A (.compLoop (twoFor elt x px iter0 y py iter1 scope pos) 1 (.ref I) (.ref D) (compEnvC scope cl C env)) R s := by
    refine loop_two1
      (fun k s' => ∃ h' tk i ys m' news', s' = { s with heap := h', toks := tk } ∧ i ≤ n ∧ k = n + 1 - i ∧ IsRangeIter h' I (0 + (i : Nat) * 1) ((n : Int) - (i : Nat)) 1 ∧ Fr h₀ L h' m ∧ h'.Ns C m' ∧ m' x = some v ∧ News h₀ L h' ((D, LCg.lst ys) :: news') ∧
        LCg.Off3 I C D news' ∧ Inv i ys news') ?_ (n + 1) ⟨s.heap, s.toks, 0, ys₀, mC, news, rfl, Nat.zero_le _, rfl, hst, F, hC, hx, N, off, h0⟩
    rintro k s' ⟨h', tk, i, ys, m', news', rfl, hi, rfl, hst', F', hn', hx', N', off', hI'⟩
    have off3 := off'.mem
    by_cases hlt : i < n
    · refine W.item i _ _ _ hlt hst' fun z h₂ tk₂ hPv hst₂ hk₂ => ?_
      obtain ⟨t, rfl⟩ := hPv
      refine wpAny_assign_Name (wpAny_storeName_local (lookup_relabel_local hy) (hn'.at' fun o e => hk₂ _ o (by simpa using Ne.symm hIC) e) (fun h₃ hn₃ hs₃ => ?_) (by simp [compEnvC, relabel, hkind]))
      have hst₃ : IsRangeIter h₃ I (0 + ((i + 1 : Nat) : Int) * 1) ((n : Int) - ((i + 1 : Nat) : Int)) 1 := W.frame (i + 1) _ _ hst₂ fun b hb o e => hs₃.extBut b o (fun q => hIC (by rw [← List.mem_singleton.mp hb]; exact q)) e
      obtain ⟨oI, heI⟩ : ∃ o, h₃.get? I = some o := ⟨_, hst₃⟩
      obtain ⟨oC, heC, hoC⟩ := LCg.ns_obj hn₃
      have F₃ : Fr h₀ L h₃ m := (LCg.fr_but F' hk₂ hIL hI₀).change hs₃ hCL hC₀
      have N₂ : News h₀ L h₂ ((D, LCg.lst ys) :: news') := LCg.news_but N' hk₂ fun p hp => by
        rcases List.mem_cons.mp hp with rfl | hp
        · exact Ne.symm hID
        · exact (off3 p hp).1
      have N₃ : News h₀ L h₃ ((I, oI) :: (C, oC) :: (D, LCg.lst ys) :: news') := fun p hp => by
        rcases List.mem_cons.mp hp with rfl | hp
        · exact ⟨heI, Ne.symm hIL, hI₀⟩
        · rcases List.mem_cons.mp hp with rfl | hp
          · exact ⟨heC, hCL, hC₀⟩
          · have q := N₂ p hp
            refine ⟨hs₃.extBut _ _ ?_ q.1, q.2⟩
            rcases List.mem_cons.mp hp with rfl | hp
            · exact Ne.symm hCD
            · exact (off3 p hp).2.1
      refine wpAny_mono (turn i t oI oC _ ys news' h₃ _ _ hlt hoC (by simp only [if_neg hxy]; exact hx') (by simp) hI' F₃ N₃ off') (fun y' s₄ h₄ => ?_) fun _ _ e => e
      obtain ⟨h₄, tk₄, news₄, rfl, F₄, N₄, off₄, _, R₄⟩ := h₄
      have zI := (N₄ (I, oI) List.mem_cons_self).1
      have zC := (N₄ (C, oC) (List.mem_cons_of_mem _ List.mem_cons_self)).1
      have zD := (N₄ (D, LCg.lst ys) (List.mem_cons_of_mem _ (List.mem_cons_of_mem _ List.mem_cons_self))).1
      have N₄' : News h₀ L h₄ news₄ := fun p hp => N₄ p (List.mem_cons_of_mem _ (List.mem_cons_of_mem _ (List.mem_cons_of_mem _ hp)))
      have hst₄ : IsRangeIter h₄ I (0 + ((i + 1 : Nat) : Int) * 1) ((n : Int) - ((i + 1 : Nat) : Int)) 1 := LCg.range_st (h₀ := h₀) (L := L) (i + 1) _ _ _ _ hst₃ heI zI F₄.keep N₄' trivial
      refine append_at (hsz := by show ys.toArray.size ≤ sizeLine; rw [List.size_toArray]; exact hb _ _ _ hI') zD fun h₅ hs₅ hD₅ => ?_
      have off4 := off₄.mem
      refine ⟨n + 1 - (i + 1), by omega, h₅, tk₄, i + 1, ys ++ [y'], _, news₄, rfl, hlt, rfl, W.frame (i + 1) _ _ hst₄ fun b hb o e => hs₅.extBut b o (fun q => hID (by rw [← List.mem_singleton.mp hb]; exact q)) e, F₄.change hs₅ hDL hD₀,
        (hoC.ns zC).sameBut hs₅ hCD, by simp only [if_neg hxy]; exact hx', fun p hp => ?_, off₄, R₄⟩
      rcases List.mem_cons.mp hp with rfl | hp
      · exact ⟨hD₅.trans (congrArg some (LCg.lst_snoc ys y')), hDL, hD₀⟩
      · exact ⟨hs₅.extBut _ _ (off4 p hp).2.2 (N₄' p hp).1, (N₄' p hp).2⟩
    · obtain rfl : i = n := Nat.le_antisymm hi (Nat.not_lt.mp hlt)
      refine W.done _ _ _ hst' fun h₂ tk₂ hk₂ => ?_
      exact done h₂ tk₂ _ ys news' (LCg.fr_but F' hk₂ hIL hI₀) (LCg.news_but N' hk₂ fun p hp => by
        rcases List.mem_cons.mp hp with rfl | hp
        · exact Ne.symm hID
        · exact (off3 p hp).1) (hn'.at' fun o e => hk₂ _ o (by simpa using Ne.symm hIC) e) off' hI'
  exact start_two1 loop (W.self 0 _ _ _ hst loop)
end
end Mine
namespace Mine
open PyProof.V
section
variable {prog : Program} {w : World} {A : Around} {E : Value → Shared → Prop} {s : Shared} {h₀ : Heap} {L : Addr} {m : Str → Option Value} {env : Env} {elt iter0 iter1 : Expr} {x y : Str} {px py pos : Pos} {scope : Scope} {cl : List (Str × Addr)}
/-- what the inner iterable gives: a range from 0 on -/
def RangeOf (h₀ : Heap) (L : Addr) (m : Str → Option Value) (all : List (Addr × Obj)) (n : Nat) (s : Shared) (z : Value) (s' : Shared) : Prop :=
  ∃ r b t u v h' tk, z = .ref r ∧ s' = { s with heap := h', toks := tk } ∧ Fr h₀ L h' m ∧ News h₀ L h' all ∧ IsRange h' r 0 b 1 t u v ∧ Builtin.Range.small 0 b 1 = true ∧ Builtin.Range.rangeSize 0 b 1 = ((n : Nat) : Int)
/-- the turns of a comprehension with two fors: over a list of the ledger, then over a range of n1 -/
structure Two (prog : Program) (w : World) (A : Around) (h₀ : Heap) (L : Addr) (m : Str → Option Value) (env : Env) (elt iter1 : Expr) (x y : Str) (scope : Scope) (cl : List (Str × Addr)) (s : Shared) (ax : Addr) (its : Array Value) (n1 : Nat)
    (InvO : Nat → List Value → List (Addr × Obj) → Prop) (InvI : Nat → Nat → List Value → List (Addr × Obj) → Prop) : Prop where
  h01 : ∀ i ys nw, i < its.size → InvO i ys nw → InvI i 0 ys nw
  h10 : ∀ i ys nw, i < its.size → InvI i n1 ys nw → InvO (i + 1) ys nw
  hb : ∀ i j ys nw, InvI i j ys nw → ys.length ≤ sizeLine
  hS : ∀ i ys nw, InvO i ys nw → LCg.SrcAt h₀ ax its nw
  it1 : ∀ v I oI C oC D m₂ ys nw h tk (E' : Value → Shared → Prop), LCg.NsObj oC m₂ → Fr h₀ L h m → News h₀ L h ((I, oI) :: (C, oC) :: (D, LCg.lst ys) :: nw) → LCg.Off3 I C D nw → ((@Ne Nat I C) ∧ (@Ne Nat I D) ∧ (@Ne Nat C D)) → m₂ x = some v →
    (∃ i, i < its.size ∧ InvO i ys nw) →
    wpAny (model prog w) A (eval iter1 (compEnvC scope cl C env)) (RangeOf h₀ L m ((I, oI) :: (C, oC) :: (D, LCg.lst ys) :: nw) n1 { s with heap := h, toks := tk }) E' { s with heap := h, toks := tk }
  turn : ∀ i j v t I oI I1 oI1 C oC D m₂ ys nw h tk (E' : Value → Shared → Prop), i < its.size → j < n1 → its[i]? = some v → LCg.NsObj oC m₂ → m₂ x = some v → m₂ y = some (.int (0 + (j : Int)) t) → InvI i j ys nw → Fr h₀ L h m →
    News h₀ L h ((I1, oI1) :: (C, oC) :: (D, LCg.lst ys) :: (I, oI) :: nw) → LCg.Off3 I1 C D ((I, oI) :: nw) → LCg.Off1 I nw → ((@Ne Nat I1 C) ∧ (@Ne Nat I1 D) ∧ (@Ne Nat C D)) →
    wpAny (model prog w) A (eval elt (compEnvC scope cl C env)) (LCg.CompEnd h₀ L m { s with heap := h, toks := tk } I1 oI1 C oC D (LCg.lst ys) (fun _ => True)
      (fun y' all => ∃ nw', all = (I, oI) :: nw' ∧ (∀ p ∈ nw', p.1 ≠ I) ∧ InvI i (j + 1) (ys ++ [y']) nw')) E' { s with heap := h, toks := tk }
theorem block_two {s₂ : Shared} {I ax : Addr} {its : Array Value} {n1 : Nat} {InvO : Nat → List Value → List (Addr × Obj) → Prop} {InvI : Nat → Nat → List Value → List (Addr × Obj) → Prop} {news : List (Addr × Obj)} {RR : Value → Addr → Result → Shared → Prop}
    (hh : A.handled = none) (hne : ax ≠ I) (hcell : ∀ y ∈ scope.names, y.2 ≠ .cell) (hkind : scope.kind = .function) (hx : scope.names.lookup x = some .local) (hy : scope.names.lookup y = some .local) (hxy : x ≠ y)
    (hst : s₂.heap.IsListIter I ax 0 ∧ s₂.heap.IsList ax its) (hfp : ∀ b ∈ [I, ax], b < s₂.heap.objs.size)
    (F : Fr h₀ L s₂.heap m) (N : News h₀ L s₂.heap news) (hIL : L ≠ I) (hI₀ : h₀.get? I = none) (off : ∀ p ∈ news, p.1 ≠ I)
    (R : Two prog w A h₀ L m env elt iter1 x y scope cl s₂ ax its n1 InvO InvI) (h0 : InvO 0 [] news) (hs1 : ∀ (e : Env) z, foldedSetIterable iter1 e z = pure z)
    (hRR : ∀ D C h tk m' ys news', Fr h₀ L h m → News h₀ L h ((D, LCg.lst ys) :: news') → LCg.Off1 D news' → h.Ns C m' → h₀.get? C = none → h₀.get? D = none → C ≠ L → D ≠ L → C ≠ D → (∀ p ∈ news', p.1 ≠ C) → InvO its.size ys news' → RR (.ref D) C (.ok .next) { s₂ with heap := h, toks := tk }) :
    wpAny (model prog w) A (newList []) (fun acc s₃ => wpAny (model prog w) A (newFunctionEnv scope env.globals cl [] env.qual none .none (some env)) (fun cenv s₄ =>
      codeAny (model prog w) A (.compStart (twoFor elt x px iter0 y py iter1 scope pos) 0 (.ref I) acc { cenv with scope := relabel scope env }) (RR acc cenv.locals) s₄) E s₃) E s₂ := by
  have W := Walks.list (prog := prog) (w := w) hh I ax hne its
  refine wpAny_newObj_type (wpAny_newFunctionEnv hcell (by intro y hy; simp at hy) (fun h₁ hns₁ hsb₁ => ?_) hkind)
  dsimp only at hns₁ hsb₁ ⊢
  generalize hH2 : s₂.heap.push { cls := .type "list", dict := none, data := .seq ([] : List Value).toArray } = H2 at hns₁ hsb₁ ⊢
  have hC : H2.objs.size = s₂.heap.objs.size + 1 := by rw [← hH2, Heap.size_push]
  have hDC : s₂.heap.objs.size ≠ H2.objs.size := by rw [hC]; exact Nat.ne_of_lt (Nat.lt_succ_self _)
  have below : ∀ b, b < s₂.heap.objs.size → b ≠ H2.objs.size ∧ b ≠ s₂.heap.objs.size := fun b hb => ⟨by rw [hC]; exact Nat.ne_of_lt (Nat.lt_succ_of_lt hb), Nat.ne_of_lt hb⟩
  have hDf : s₂.heap.objs.size ∉ [I, ax] := fun hm => Nat.lt_irrefl _ (hfp _ hm)
  have hCf : H2.objs.size ∉ [I, ax] := fun hm => by have := hfp _ hm; rw [hC] at this; exact Nat.lt_irrefl _ (Nat.lt_of_succ_lt this)
  have hIlt : I < s₂.heap.objs.size := hfp I (by simp)
  have old : ∀ b o, s₂.heap.get? b = some o → h₁.get? b = some o := fun b o e => hsb₁.extBut b o (below b (Heap.lt_size e)).1 (Heap.get?_push_of_some _ (hH2 ▸ Heap.get?_push_of_some _ e))
  have hacc : h₁.get? s₂.heap.objs.size = some (LCg.lst []) := hsb₁.extBut _ _ hDC (Heap.get?_push_of_some _ (hH2 ▸ Heap.get?_push_size _ rfl))
  have hst₁ : h₁.IsListIter I ax 0 ∧ h₁.IsList ax its := W.frame _ _ _ hst fun b _ o e => old b o e
  have fresh : ∀ a, s₂.heap.objs.size ≤ a → s₂.heap.get? a = none := fun a ha => by
    cases e : s₂.heap.get? a with
    | none => rfl
    | some o' => exact absurd (Heap.lt_size e) (Nat.not_lt.mpr ha)
  have fresh₀ : ∀ a, s₂.heap.objs.size ≤ a → h₀.get? a = none := fun a ha => by
    cases e : h₀.get? a with
    | none => rfl
    | some o' => have := F.keep a o' e; rw [fresh a ha] at this; cases this
  have hD₀ : h₀.get? s₂.heap.objs.size = none := fresh₀ _ (Nat.le_refl _)
  have hC₀ : h₀.get? H2.objs.size = none := fresh₀ _ (by rw [hC]; exact Nat.le_succ _)
  have hLlt : L < s₂.heap.objs.size := F.ns.lt
  have hDL : s₂.heap.objs.size ≠ L := Ne.symm (below L hLlt).2
  have hCL : H2.objs.size ≠ L := Ne.symm (below L hLlt).1
  have hCI : I ≠ H2.objs.size := (below I hIlt).1
  have hDI : I ≠ s₂.heap.objs.size := (below I hIlt).2
  have off₀ : LCg.Off3 I H2.objs.size s₂.heap.objs.size news := LCg.Off3.of fun p hp => ⟨off p hp, (below _ (Heap.lt_size (N p hp).1)).1, (below _ (Heap.lt_size (N p hp).1)).2⟩
  have loop : ∀ s₃ : Shared, s₃ = { s₂ with heap := h₁, toks := s₂.toks + ([] : List (Str × Value)).length } →
      codeAny (model prog w) A (.compLoop (twoFor elt x px iter0 y py iter1 scope pos) 0 (.ref I) (.ref s₂.heap.objs.size) (compEnvC scope cl H2.objs.size env))
        (RR (.ref s₂.heap.objs.size) H2.objs.size) s₃ := by
    rintro s₃ rfl
    refine loop_two0
      (fun k s' => ∃ h' tk i ys m' news', s' = { s₂ with heap := h', toks := tk } ∧ i ≤ its.size ∧ k = its.size + 1 - i ∧ (h'.IsListIter I ax i ∧ h'.IsList ax its) ∧ Fr h₀ L h' m ∧ h'.Ns H2.objs.size m' ∧ News h₀ L h' ((s₂.heap.objs.size, LCg.lst ys) :: news') ∧
        LCg.Off3 I H2.objs.size s₂.heap.objs.size news' ∧ InvO i ys news') ?_ (its.size + 1)
      ⟨h₁, _, 0, [], _, news, rfl, Nat.zero_le _, rfl, hst₁, F.keeps old, hns₁, fun p hp => ?_, off₀, h0⟩ (hs1 _)
    · rintro k s' ⟨h', tk, i, ys, m', news', rfl, hi, rfl, hst', F', hn', N', off', hI'⟩
      have off3 := off'.mem
      by_cases hlt : i < its.size
      · refine W.item i _ _ _ hlt hst' fun v h₂ tk₂ hPv hst₂ hk₂ => ?_
        refine wpAny_assign_Name (wpAny_storeName_local (lookup_relabel_local hx) (hn'.at' fun o e => hk₂ _ o (by simpa using Ne.symm hCI) e) (fun h₃ hn₃ hs₃ => ?_) (by simp [compEnvC, relabel, hkind]))
        have hst₃ : h₃.IsListIter I ax (i + 1) ∧ h₃.IsList ax its := W.frame _ _ _ hst₂ fun b hb o e => hs₃.extBut b o (fun q => hCf (by have q' : b = H2.objs.size := q; rw [← q']; exact hb)) e
        obtain ⟨oI, heI⟩ : ∃ o, h₃.get? I = some o := by obtain ⟨o, e, _⟩ := hst₃.1; exact ⟨o, e⟩
        obtain ⟨oC, heC, hoC⟩ := LCg.ns_obj hn₃
        have F₃ : Fr h₀ L h₃ m := (LCg.fr_but F' hk₂ hIL hI₀).change hs₃ hCL hC₀
        have N₂ : News h₀ L h₂ ((s₂.heap.objs.size, LCg.lst ys) :: news') := LCg.news_but N' hk₂ fun p hp => by
          rcases List.mem_cons.mp hp with rfl | hp
          · exact Ne.symm hDI
          · exact (off3 p hp).1
        have N₃ : News h₀ L h₃ ((I, oI) :: (H2.objs.size, oC) :: (s₂.heap.objs.size, LCg.lst ys) :: news') := fun p hp => by
          rcases List.mem_cons.mp hp with rfl | hp
          · exact ⟨heI, Ne.symm hIL, hI₀⟩
          · rcases List.mem_cons.mp hp with rfl | hp
            · exact ⟨heC, hCL, hC₀⟩
            · have z := N₂ p hp
              refine ⟨hs₃.extBut _ _ ?_ z.1, z.2⟩
              rcases List.mem_cons.mp hp with rfl | hp
              · exact hDC
              · exact (off3 p hp).2.1
        refine wpAny_mono (R.it1 v I oI H2.objs.size oC s₂.heap.objs.size _ ys news' h₃ _ _ hoC F₃ N₃ off' ⟨hCI, hDI, Ne.symm hDC⟩ (by simp) ⟨i, hlt, hI'⟩) (fun z s₄ h₄ => ?_) fun _ _ e => e
        obtain ⟨r, b, t, u, v', h₄, tk₄, rfl, rfl, F₄, N₄, hr, hsm, hsz⟩ := h₄
        refine wpAny_pyIter_range hr hsm ?_
        generalize hH5 : h₄.push { cls := .type "range_iterator", data := .fields #[rawInt 0, rawInt (Builtin.Range.rangeSize 0 b 1), rawInt 1] } = h₅
        have up : ∀ b o, h₄.get? b = some o → h₅.get? b = some o := fun b o e => hH5 ▸ Heap.get?_push_of_some _ e
        have hi5 : h₅.get? h₄.objs.size = some { cls := .type "range_iterator", data := .fields #[rawInt 0, rawInt (Builtin.Range.rangeSize 0 b 1), rawInt 1] } := by rw [← hH5]; exact Heap.get?_push_size _ rfl
        have lt4 : ∀ p ∈ (I, oI) :: (H2.objs.size, oC) :: (s₂.heap.objs.size, LCg.lst ys) :: news', p.1 < h₄.objs.size := fun p hp => Heap.lt_size (N₄ p hp).1
        have hI1L : L ≠ h₄.objs.size := Nat.ne_of_lt F₄.ns.lt
        have ne4 : ∀ p ∈ (I, oI) :: (H2.objs.size, oC) :: (s₂.heap.objs.size, LCg.lst ys) :: news', p.1 ≠ h₄.objs.size := fun p hp => Nat.ne_of_lt (lt4 p hp)
        have hC4 : h₄.Ns H2.objs.size (fun z => if z = x then some v else m' z) := hoC.ns (N₄ (H2.objs.size, oC) (List.mem_cons_of_mem _ List.mem_cons_self)).1
        have hI1C : h₄.objs.size ≠ H2.objs.size := Ne.symm (ne4 (H2.objs.size, oC) (by simp))
        have hI1D : h₄.objs.size ≠ s₂.heap.objs.size := Ne.symm (ne4 (s₂.heap.objs.size, LCg.lst ys) (by simp))
        refine inner_two (Inv := fun j ys all => ∃ nw', all = (I, oI) :: nw' ∧ (∀ p ∈ nw', p.1 ≠ I) ∧ InvI i j ys nw') (v := v) (n := n1) (news := (I, oI) :: news') hh hkind hy hxy (by show h₅.get? _ = _; rw [hi5, hsz]; simp)
          (F₄.keeps up) (hC4.keeps up) (by simp) (fun p hp => ?_) hCL hC₀ hI1L (next_is_new F₄) hI1C hI1D (Ne.symm hDC) (LCg.Off3.of fun p hp => ?_)
          (fun j ys nw ⟨nw', _, _, h⟩ => R.hb _ _ _ _ h) (fun j t oI1 oC m₂ ys nw h tk E' hj hoC hmx hmy hInv F N off => ?_) ⟨news', rfl, fun p hp => (off3 p hp).1, R.h01 _ _ _ hlt hI'⟩ (fun h tk mC ys nw F N hCn off hInv => ?_)
        · rcases List.mem_cons.mp hp with rfl | hp
          · exact ⟨up _ _ (N₄ (s₂.heap.objs.size, LCg.lst ys) (by simp)).1, hDL, hD₀⟩
          · rcases List.mem_cons.mp hp with rfl | hp
            · exact ⟨up _ _ (N₄ (I, oI) (by simp)).1, Ne.symm hIL, hI₀⟩
            · have z := N₄ p (by simp [hp])
              exact ⟨up _ _ z.1, z.2⟩
        · rcases List.mem_cons.mp hp with rfl | hp
          · exact ⟨ne4 (I, oI) (by simp), hCI, hDI⟩
          · exact ⟨ne4 p (by simp [hp]), (off3 p hp).2.1, (off3 p hp).2.2⟩
        · obtain ⟨nw', rfl, hoffI, hInv⟩ := hInv
          exact R.turn i j v t I oI _ oI1 _ oC _ m₂ ys nw' h tk E' hlt hj hPv hoC hmx hmy hInv F N off (off1_of hoffI) ⟨hI1C, hI1D, Ne.symm hDC⟩
        · obtain ⟨nw', rfl, hoffI, hInv⟩ := hInv
          have hO := R.h10 _ _ _ hlt hInv
          have offm := off.mem
          have N' : News h₀ L h nw' := fun p hp => N p (by simp [hp])
          exact ⟨its.size + 1 - (i + 1), by omega, h, tk, i + 1, ys, mC, nw', rfl, hlt, rfl, LCg.list_st (i + 1) h₃ h oI nw' hst₃ heI (N (I, oI) (by simp)).1 F.keep N' (R.hS _ _ _ hO), F, hCn,
            fun p hp => N p (by rcases List.mem_cons.mp hp with rfl | hp <;> simp [*]), LCg.Off3.of fun p hp => ⟨hoffI p hp, (offm p (by simp [hp])).2⟩, hO⟩
      · obtain rfl : i = its.size := Nat.le_antisymm hi (Nat.not_lt.mp hlt)
        refine W.done _ _ _ hst' fun h₂ tk₂ hk₂ => ?_
        exact hRR _ _ h₂ tk₂ _ ys news' (LCg.fr_but F' hk₂ hIL hI₀) (LCg.news_but N' hk₂ fun p hp => by
          rcases List.mem_cons.mp hp with rfl | hp
          · exact Ne.symm hDI
          · exact (off3 p hp).1) off'.one (hn'.at' fun o e => hk₂ _ o (by simpa using Ne.symm hCI) e) hC₀ hD₀ hCL hDL (Ne.symm hDC) (fun p hp => (off3 p hp).2.1) hI'
    · rcases List.mem_cons.mp hp with rfl | hp
      · exact ⟨hacc, hDL, hD₀⟩
      · exact ⟨old _ _ (N p hp).1, (N p hp).2⟩
  exact codeAny_compStart_list (loop _ rfl) (W.self 0 _ _ _ hst₁ (loop _ rfl))
/-- where a comprehension with two fors is asked from: the outer list is on the ledger -/
def SrcTwo (prog : Program) (w : World) (A : Around) (h₀ : Heap) (L : Addr) (m : Str → Option Value) (env : Env) (elt iter1 : Expr) (x y : Str) (scope : Scope) (cl : List (Str × Addr)) (Fin : Shared → List Value → List (Addr × Obj) → Prop) (xv : Value) (s₁ : Shared) : Prop :=
  ∃ ax its news n1 InvO InvI, xv = .ref ax ∧ A.handled = none ∧ Fr h₀ L s₁.heap m ∧ News h₀ L s₁.heap news ∧ LCg.SrcAt h₀ ax its news ∧
    (∀ s₂ : Shared, (∃ h, s₂ = { s₁ with heap := h }) → Two prog w A h₀ L m env elt iter1 x y scope cl s₂ ax its n1 InvO InvI) ∧ InvO 0 [] news ∧
    ∀ s₂ : Shared, (∃ h, s₂ = { s₁ with heap := h }) → ∀ ys nw, InvO its.size ys nw → Fin s₂ ys nw
theorem SrcTwo.ledger {ax : Addr} {its : Array Value} {k n1 : Nat} {news : List (Addr × Obj)} {s₁ : Shared} {Fin : Shared → List Value → List (Addr × Obj) → Prop} (InvO : Nat → List Value → List (Addr × Obj) → Prop) (InvI : Nat → Nat → List Value → List (Addr × Obj) → Prop)
    (hh : A.handled = none) (F : Fr h₀ L s₁.heap m) (N : News h₀ L s₁.heap news) (hm : (ax, ({ cls := .type "list", data := .seq its k } : Obj)) ∈ news)
    (R : ∀ g, Two prog w A h₀ L m env elt iter1 x y scope cl { s₁ with heap := g } ax its n1 InvO InvI) (h0 : InvO 0 [] news)
    (fin : ∀ g ys nw, InvO its.size ys nw → Fin { s₁ with heap := g } ys nw) : SrcTwo prog w A h₀ L m env elt iter1 x y scope cl Fin (.ref ax) s₁ :=
  ⟨ax, its, news, n1, InvO, InvI, rfl, hh, F, N, .inr ⟨_, hm, rfl, _, rfl⟩, fun _ ⟨g, e⟩ => e ▸ R g, h0, fun _ ⟨g, e⟩ => e ▸ fin g⟩
theorem Assign_ListComp_two {z : Str} {pz spos : Pos} {Q : Flow → Shared → Prop} (hF₀ : Fr h₀ L s.heap m) (hLe : env.locals = L)
    (hsw : swapsWith (twoFor elt x px iter0 y py iter1 scope pos) (some (.Name z pz)) spos.line env = pure true)
    (hclos : closureFor scope env = pure cl) (hcell : ∀ y ∈ scope.names, y.2 ≠ .cell) (hkind : scope.kind = .function)
    (hnames : ∀ y ∈ scope.names, y.2 = .local → scope.names.lookup y.1 = some .local) (hx : scope.names.lookup x = some .local) (hy : scope.names.lookup y = some .local) (hxy : x ≠ y)
    (hz : env.kindOf z = some .local) (hp : (env.scope.kind == .class || (env.scope.kind == .module && env.locals != env.globals)) = false)
    (hs1 : ∀ (e : Env) z, foldedSetIterable iter1 e z = pure z)
    (h : wpAny (model prog w) A (eval iter0 env) (SrcTwo prog w A h₀ L m env elt iter1 x y scope cl (fun s₂ => LCg.FinA h₀ L m s₂ z Q)) E s)
    (hs : ∀ x, foldedSetIterable iter0 env x = pure x := by intro _; rfl) :
    wpAny (model prog w) A (exec (.Assign [.Name z pz] (twoFor elt x px iter0 y py iter1 scope pos) spos) env) Q E s := by
  subst hLe
  rw [exec_Assign_Name_used _ _ _ _ hsw]
  refine wpAny_bind (wpAny_standAt (wpAny_bind ?_))
  show wpAny _ A (do let _ ← comprehension (twoFor elt x px iter0 y py iter1 scope pos) scope env _ (newList []) false (eval iter0 env) (some (assign (.Name z pz) env))) _ _ s
  refine wpAny_bind (wpAny_mono (wpAny_comprehension_free (use := some (assign (.Name z pz) env)) (Q := fun _ s' => Q .next s') rfl hs hclos hkind hnames
    (wpAny_mono h (fun xv s₁ h₁ => ?_) fun _ _ e => e)) (fun _ s' hq => wpAny_pure (wpAny_pure hq)) fun _ _ e => e)
  obtain ⟨ax, its, news, n1, InvO, InvI, rfl, hh, F, N, S, R, h0, fin⟩ := h₁
  have hl := S.list F.keep N
  have hlt : ax < s₁.heap.objs.size := by obtain ⟨_, e, _⟩ := hl; exact Heap.lt_size e
  refine wpAny_pyIter_list hl ?_
  have up : ∀ b o, s₁.heap.get? b = some o → (s₁.heap.push { cls := .type "list_iterator", data := .fields #[.ref ax, .int 0 0] }).get? b = some o := fun b o e => Heap.get?_push_of_some _ e
  refine block_two hh (Nat.ne_of_lt hlt) hcell hkind hx hy hxy ⟨⟨_, Heap.get?_push_size _ rfl, rfl, rfl⟩, hl.push _⟩ (fun b hb => ?_)
    (F.keeps up) (N.grown up) (Nat.ne_of_lt F.ns.lt) (next_is_new F) (fun p hp => Nat.ne_of_lt (Heap.lt_size (N p hp).1)) (R _ ⟨_, rfl⟩) h0 hs1 ?_
  · show b < (s₁.heap.push _).objs.size
    rw [Heap.size_push]
    rcases List.mem_cons.mp hb with rfl | hb
    · exact Nat.lt_succ_self _
    · rw [List.mem_singleton.mp hb]; exact Nat.lt_succ_of_lt hlt
  · intro D C h' tk m' ys news' F' N' o1 hn hC₀ hD₀ hCL hDL hCD offC hI
    show wpAny _ A (assign (.Name z pz) env (.ref D)) _ _ _
    refine wpAny_assign_Name (wpAny_storeName_local hz F'.ns (fun h₂ hn₂ hs₂ => ?_) hp)
    have hL₀ : h₀.get? env.locals = none := Heap.get?_none_of_le F'.above
    have F₂ : Fr h₀ env.locals h₂ (fun q => if q = z then some (.ref D) else m q) := ⟨hn₂, fun b o e => hs₂.extBut b o (fun q => by rw [q, hL₀] at e; cases e) (F'.keep b o e), F'.above⟩
    refine ⟨m', hn.sameBut hs₂ hCL, fun h'' hs'' => fin s₁ ⟨s₁.heap, rfl⟩ ys news' hI D h'' _ (F₂.change hs'' hCL hC₀) (fun p hp => ?_) o1⟩
    have q : h₂.get? p.1 = some p.2 := hs₂.extBut _ _ (N' p hp).2.1 (N' p hp).1
    refine ⟨hs''.extBut _ _ ?_ q, (N' p hp).2⟩
    rcases List.mem_cons.mp hp with rfl | hp
    · exact Ne.symm hCD
    · exact offC p hp
end
end Mine
namespace Mine
open PyProof.V
section
variable {prog : Program} {w : World} {A : Around} {E : Value → Shared → Prop} {s : Shared} {env : Env} {h₀ : Heap} {x : Str} {body : List Stmt} {Q : Flow → Shared → Prop}
/-- the end of a turn of a for whose target is the cell K -/
def CEnd {σ : Type} (h₀ : Heap) (L : Addr) (Led : σ → List (Addr × Obj)) (ps : σ → List (Str × Value)) (P : Nat → σ → Prop) (i : Nat) (I : Addr) (oI : Obj) (K : Addr) (oK : Obj) (s₁ : Shared) (f : Flow) (s₂ : Shared) : Prop :=
  f = .next ∧ ∃ h' tk m' c, s₂ = { s₁ with heap := h', toks := tk } ∧ Fr h₀ L h' m' ∧ News h₀ L h' ((I, oI) :: (K, oK) :: Led c) ∧ (∀ p ∈ Led c, p.1 ≠ I ∧ p.1 ≠ K) ∧ (∀ p ∈ ps c, m' p.1 = some p.2) ∧ P i c
def CellSrc {σ : Type} (prog : Program) (w : World) (A : Around) (h₀ : Heap) (env : Env) (body : List Stmt) (Led : σ → List (Addr × Obj)) (ps : σ → List (Str × Value)) (P : Nat → σ → Prop) (K : Addr) (n : Nat) (Q : Flow → Shared → Prop) (xv : Value) (s₁ : Shared) : Prop :=
  ∃ c₀ r b t u v m₀ oK v₀, xv = .ref r ∧ A.handled = none ∧ IsRange s₁.heap r 0 b 1 t u v ∧ Builtin.Range.small 0 b 1 = true ∧ Builtin.Range.rangeSize 0 b 1 = (n : Int) ∧ Fr h₀ env.locals s₁.heap m₀ ∧ News h₀ env.locals s₁.heap ((K, oK) :: Led c₀) ∧ oK.data = .cell v₀ ∧
    (∀ p ∈ Led c₀, p.1 ≠ K) ∧ (∀ p ∈ ps c₀, m₀ p.1 = some p.2) ∧ P 0 c₀ ∧
    (∀ (c : σ) (i : Nat) t (u : Str → Option Value) h tk I oI oK (E' : Value → Shared → Prop), i < n → P i c → Fr h₀ env.locals h (kstB u (ps c)) → oK.data = .cell (some (.int (0 + (i : Int)) t)) → News h₀ env.locals h ((I, oI) :: (K, oK) :: Led c) → (∀ p ∈ Led c, p.1 ≠ I ∧ p.1 ≠ K) → I ≠ K →
      wpAny (model prog w) A (execs body env) (CEnd h₀ env.locals Led ps P (i + 1) I oI K oK { s₁ with heap := h, toks := tk }) E' { s₁ with heap := h, toks := tk }) ∧
    (∀ (c : σ) (u : Str → Option Value) h tk, P n c → Fr h₀ env.locals h (kstB u (ps c)) → News h₀ env.locals h (Led c) → Q .next { s₁ with heap := h, toks := tk })
theorem for_cell {σ : Type} {px pos : Pos} {iter : Expr} {K : Addr} {n : Nat} {m₁ : Str → Option Value} (hF₀ : Fr h₀ env.locals s.heap m₁) (Led : σ → List (Addr × Obj)) (ps : σ → List (Str × Value)) (P : Nat → σ → Prop) (hkind : env.scope.kind = .function) (hx : env.kindOf x = some .cell) (hc : env.cells.lookup x = some K)
    (h : wpAny (model prog w) A (eval iter env) (CellSrc prog w A h₀ env body Led ps P K n Q) E s)
    (hs : ∀ x, foldedSetIterable iter env x = pure x := by intro _; rfl) :
    wpAny (model prog w) A (exec (.For (.Name x px) iter body [] pos) env) Q E s := by
  refine wpAny_For (wpAny_mono h (fun xv s₁ h₁ => ?_) fun _ _ e => e) hs
  obtain ⟨c₀, r, b, t, u, v, m₀, oK, v₀, rfl, hh, hr, hsm, hsz, F, N, hKd, hoff, hps, hP, turn, done⟩ := h₁
  refine wpAny_pyIter_range hr hsm ?_
  generalize hH : s₁.heap.push { cls := .type "range_iterator", data := .fields #[rawInt 0, rawInt (Builtin.Range.rangeSize 0 b 1), rawInt 1] } = H
  have hi : H.get? s₁.heap.objs.size = some { cls := .type "range_iterator", data := .fields #[rawInt 0, rawInt (Builtin.Range.rangeSize 0 b 1), rawInt 1] } := by rw [← hH]; exact Heap.get?_push_size _ rfl
  have up : ∀ b o, s₁.heap.get? b = some o → H.get? b = some o := fun b o e => hH ▸ Heap.get?_push_of_some _ e
  have hI₀ : h₀.get? s₁.heap.objs.size = none := next_is_new F
  have hIL : env.locals ≠ s₁.heap.objs.size := Nat.ne_of_lt F.ns.lt
  have ne1 : ∀ p ∈ (K, oK) :: Led c₀, p.1 ≠ s₁.heap.objs.size := fun p hp => Nat.ne_of_lt (Heap.lt_size (N p hp).1)
  have hIK : s₁.heap.objs.size ≠ K := Ne.symm (ne1 (K, oK) (by simp))
  have hKL : K ≠ env.locals := (N (K, oK) (by simp)).2.1
  have hK₀ : h₀.get? K = none := (N (K, oK) (by simp)).2.2
  have W := LCg.range_walks (prog := prog) (w := w) (A := A) (I := s₁.heap.objs.size) hh 0 n
  refine codeAny_forLoop
    (fun k s' => ∃ h' tk m' c i oK v₀, s' = { s₁ with heap := h', toks := tk } ∧ IsRangeIter h' s₁.heap.objs.size (0 + (i : Nat) * 1) ((n : Int) - (i : Nat)) 1 ∧ Fr h₀ env.locals h' m' ∧ News h₀ env.locals h' ((K, oK) :: Led c) ∧ oK.data = .cell v₀ ∧ (∀ p ∈ Led c, p.1 ≠ s₁.heap.objs.size ∧ p.1 ≠ K) ∧
      (∀ p ∈ ps c, m' p.1 = some p.2) ∧ P i c ∧ i ≤ n ∧ k = n + 1 - i) ?_ (n + 1)
    ⟨H, s₁.toks, m₀, c₀, 0, oK, v₀, rfl, by show H.get? _ = _; rw [hi, hsz]; simp, F.keeps up, fun p hp => ⟨up _ _ (N p hp).1, (N p hp).2⟩, hKd, fun p hp => ⟨ne1 p (by simp [hp]), hoff p hp⟩, hps, hP, Nat.zero_le _, rfl⟩
  rintro k s' ⟨h', tk, m', c, i, oK', v', rfl, hst', F', N', hd', off', hps', hP', hi', rfl⟩
  have offI : ∀ p ∈ (K, oK') :: Led c, p.1 ≠ s₁.heap.objs.size := fun p hp => by
    rcases List.mem_cons.mp hp with rfl | hp
    · exact Ne.symm hIK
    · exact (off' p hp).1
  by_cases hlt : i < n
  · refine W.item i _ _ _ hlt hst' fun z h₁ tk₁ hPz hst₁ hk₁ => ?_
    obtain ⟨t₁, rfl⟩ := hPz
    have F₁ := LCg.fr_but F' hk₁ hIL hI₀
    have N₁ := LCg.news_but N' hk₁ offI
    refine wpAny_assign_Name (wpAny_storeName_cell (c := K) (v₀ := v') hkind hx hc ⟨oK', (N₁ (K, oK') (by simp)).1, hd'⟩ (fun h₂ hc₂ hs₂ => ?_))
    obtain ⟨oK₂, hK₂, hKd₂⟩ := hc₂
    have F₂ : Fr h₀ env.locals h₂ m' := F₁.change hs₂ hKL hK₀
    have hst₂ : IsRangeIter h₂ s₁.heap.objs.size (0 + ((i + 1 : Nat) : Int) * 1) ((n : Int) - ((i + 1 : Nat) : Int)) 1 := W.frame (i + 1) _ _ hst₁ fun b hb o e => hs₂.extBut b o (fun q => hIK (by rw [← List.mem_singleton.mp hb]; exact q)) e
    obtain ⟨oI, hoI⟩ : ∃ o, h₂.get? s₁.heap.objs.size = some o := ⟨_, hst₂⟩
    have N₂ : News h₀ env.locals h₂ ((s₁.heap.objs.size, oI) :: (K, oK₂) :: Led c) := fun p hp => by
      rcases List.mem_cons.mp hp with rfl | hp
      · exact ⟨hoI, Ne.symm hIL, hI₀⟩
      · rcases List.mem_cons.mp hp with rfl | hp
        · exact ⟨hK₂, hKL, hK₀⟩
        · have z := N₁ p (by simp [hp])
          exact ⟨hs₂.extBut _ _ (off' p hp).2 z.1, z.2⟩
    refine wpAny_mono (turn c i t₁ m' h₂ _ s₁.heap.objs.size oI oK₂ _ hlt hP' (by rw [va_eq hps']; exact F₂) hKd₂ N₂ off' hIK) (fun f s₃ h₃ => ?_) fun _ _ e => e
    obtain ⟨rfl, h₃, tk₃, m₃, c₃, rfl, F₃, N₃, off₃, hps₃, hP₃⟩ := h₃
    have N₃' : News h₀ env.locals h₃ ((K, oK₂) :: Led c₃) := fun p hp => N₃ p (List.mem_cons_of_mem _ hp)
    exact ⟨n + 1 - (i + 1), by omega, h₃, tk₃, m₃, c₃, i + 1, oK₂, _, rfl, LCg.range_st (h₀ := h₀) (L := env.locals) (i + 1) _ _ _ _ hst₂ hoI (N₃ (_, oI) List.mem_cons_self).1 F₃.keep N₃' trivial, F₃, N₃', hKd₂, off₃, hps₃, hP₃, hlt, rfl⟩
  · have hin : i = n := by omega
    subst hin
    refine W.done _ _ _ hst' fun h₁ tk₁ hk₁ => wpAny_execs_nil ?_
    have F₁ := LCg.fr_but F' hk₁ hIL hI₀
    have N₁ := LCg.news_but N' hk₁ offI
    exact done c m' h₁ tk₁ hP' (by rw [va_eq hps']; exact F₁) fun p hp => N₁ p (List.mem_cons_of_mem _ hp)
end
end Mine
namespace Mine
open PyProof.V
/-- the values are lists of ints that stand on the ledger's tail -/
inductive ListsAre (tl : List (Addr × Obj)) : List Value → List (List Int) → Prop
  | nil : ListsAre tl [] []
  | cons {a : Addr} {n : Nat} {ws : List Value} {q : List Int} {vs : List Value} {qs : List (List Int)} (h : (a, listOf ws.toArray n) ∈ tl) (hi : IntsAre ws q) (r : ListsAre tl vs qs) : ListsAre tl (.ref a :: vs) (q :: qs)
theorem ListsAre.mono {tl tl' : List (Addr × Obj)} (hs : ∀ p ∈ tl, p ∈ tl') : ∀ {vs : List Value} {qs : List (List Int)}, ListsAre tl vs qs → ListsAre tl' vs qs
  | _, _, .nil => .nil
  | _, _, .cons h hi r => .cons (hs _ h) hi (ListsAre.mono hs r)
theorem ListsAre.snoc {tl : List (Addr × Obj)} {a : Addr} {n : Nat} {ws : List Value} {q : List Int} (h : (a, listOf ws.toArray n) ∈ tl) (hi : IntsAre ws q) : ∀ {vs : List Value} {qs : List (List Int)}, ListsAre tl vs qs → ListsAre tl (vs ++ [.ref a]) (qs ++ [q])
  | _, _, .nil => .cons h hi .nil
  | _, _, .cons h' hi' r => .cons h' hi' (ListsAre.snoc h hi r)
theorem ListsAre.length {tl : List (Addr × Obj)} : ∀ {vs : List Value} {qs : List (List Int)}, ListsAre tl vs qs → vs.length = qs.length
  | _, _, .nil => rfl
  | _, _, .cons _ _ r => by simp [ListsAre.length r]
theorem ListsAre.get {tl : List (Addr × Obj)} : ∀ {vs : List Value} {qs : List (List Int)}, ListsAre tl vs qs → ∀ (i : Nat) (v : Value), vs[i]? = some v → ∃ a n ws q, v = .ref a ∧ qs[i]? = some q ∧ (a, listOf ws.toArray n) ∈ tl ∧ IntsAre ws q
  | _, _, .nil, i, v, h => by simp at h
  | _, _, .cons h' hi _, 0, v, h => by
    simp at h; subst h
    exact ⟨_, _, _, _, rfl, rfl, h', hi⟩
  | _, _, .cons _ _ r, i + 1, v, h => by
    simp at h
    obtain ⟨a, n, ws, q, e, e2, hm, hi⟩ := ListsAre.get r i v h
    exact ⟨a, n, ws, q, e, by simpa using e2, hm, hi⟩
def putF (k : Int) (q : List Int) (i : Int) : List Int := q.take i.toNat ++ [k] ++ q.drop i.toNat
def allF (k : Int) (n : Nat) (q : List Int) : List (List Int) := (rangeKs 0 n).map (putF k q)
/-- what the two fors have made behind i whole outer turns and j inner ones -/
def partO (k : Int) (n : Nat) (qs : List (List Int)) (i j : Nat) : List (List Int) := (qs.take i).flatMap (allF k n) ++ (allF k n (qs.getD i [])).take j
theorem partO_zero (k : Int) (n : Nat) (qs : List (List Int)) : partO k n qs 0 0 = [] := by simp [partO]
theorem partO_inner (k : Int) (n : Nat) (qs : List (List Int)) {i j : Nat} {q : List Int} (hq : qs[i]? = some q) (hj : j < n) : partO k n qs i (j + 1) = partO k n qs i j ++ [putF k q (0 + (j : Int))] := by
  have e : qs.getD i [] = q := by rw [List.getD_eq_getElem?_getD, hq]; rfl
  have e2 : (allF k n q)[j]? = some (putF k q (0 + (j : Int))) := by
    simp only [allF, List.getElem?_map]
    have : (rangeKs 0 n)[j]? = some (0 + (j : Int)) := by simp [rangeKs, hj]
    rw [this]; rfl
  unfold partO
  rw [e, List.take_add_one, e2, List.append_assoc]
  rfl
theorem partO_outer (k : Int) (n : Nat) (qs : List (List Int)) {i : Nat} (hi : i < qs.length) : partO k n qs i n = partO k n qs (i + 1) 0 := by
  have hl : (allF k n (qs.getD i [])).length = n := by simp [allF, rangeKs_length]
  unfold partO
  rw [List.take_of_length_le (Nat.le_of_eq hl), List.take_zero, List.append_nil, List.take_add_one, List.getElem?_eq_getElem hi, List.flatMap_append]
  congr 1
  rw [List.getD_eq_getElem?_getD, List.getElem?_eq_getElem hi]
  simp
theorem partO_all (k : Int) (n : Nat) (qs : List (List Int)) : partO k n qs qs.length 0 = qs.flatMap (allF k n) := by simp [partO]
theorem orders_next (n : Nat) : ordersF (n + 1) = partO (n : Int) (n + 1) (ordersF n) (ordersF n).length 0 := by
  rw [partO_all]
  show stepO (n : Int) (ordersF n) = _
  unfold stepO
  rw [show ((n : Int) + 1).toNat = n + 1 by omega]
  rfl
theorem orders_len {n : Nat} (h : n ≤ 4) : (ordersF n).length ≤ 24 ∧ ∀ q ∈ ordersF n, q.length = n ∧ ∀ x ∈ q, 0 ≤ x ∧ x < (n : Int) := by
  have : ∀ n : Fin 5, (ordersF n.val).length ≤ 24 ∧ ∀ q ∈ ordersF n.val, q.length = n.val ∧ ∀ x ∈ q, 0 ≤ x ∧ x < (n.val : Int) := by decide +kernel
  exact this ⟨n, by omega⟩
theorem part_len {k : Int} {n : Nat} {qs : List (List Int)} {i j : Nat} (hq : qs.length ≤ 24) (hn : n ≤ 5) : (partO k n qs i j).length ≤ 1000 := by
  have h1 : ∀ l : List (List Int), (l.flatMap (allF k n)).length = l.length * n := by
    intro l
    induction l with
    | nil => simp
    | cons a l ih => simp [ih, allF, rangeKs_length, Nat.add_mul, Nat.add_comm]
  unfold partO
  rw [List.length_append, h1, List.length_take, List.length_take]
  have h2 : (allF k n (qs.getD i [])).length = n := by simp [allF, rangeKs_length]
  rw [h2]
  have h3 : min i qs.length * n ≤ 24 * 5 := Nat.mul_le_mul (by omega) hn
  omega
end Mine
namespace Mine
open PyProof.V
local macro_rules | `(tactic| walk_at "exec For") => `(tactic| (k_here; k_dflt (k_extra "my for")))
local macro_rules | `(tactic| walk_at "exec Assign cons ListComp") => `(tactic| (k_here; k_dflt (k_extra "my comp")))
local macro_rules | `(tactic| walk_at "subscriptTail Name Slice ref ref") => `(tactic| (k_here; k_dflt (refine' kmk_slice_ints ?F ?N ?l ?p ?q ?i ?m ?c ?_ ?s ?t ?z; (case F => k_asm); (case N => k_asm); (case l => kmk_list); (case p => kmk_part); (case q => kmk_part); (case i => l_ints); (case m => first | exact kmk_from (by l_ints) (by omega) | exact kmk_upto (by l_ints) (by omega)); (case c => kmk_len); (case s => with_unfolding_all rfl); (case t => kmk_pure); (case z => kmk_size)); intro D' ws' h' F' N' l1 hI' hC' hL'; (try k_lt l1); (try k_sweep)))
theorem news_dup' {h₀ : Heap} {L : Addr} {h : Heap} {p : Addr × Obj} {news : List (Addr × Obj)} (N : News h₀ L h news) (hp : p ∈ news) : News h₀ L h (p :: news) := fun q hq => by
  rcases List.mem_cons.mp hq with rfl | hq
  · exact N _ hp
  · exact N q hq
theorem fillO : Challenge.rw_rl0013_02 = Challenge.rw_rl0013_02 ∧ hd.heap_39 = hd.heap_39 := by
  k_fill
  exact ⟨rfl, rfl⟩
abbrev OLed (news : List (Addr × Obj)) (c : Addr × List Value × Nat × List (Addr × Obj)) : List (Addr × Obj) := (c.1, listOf c.2.1.toArray c.2.2.1) :: (news ++ c.2.2.2)
section
variable {prog : Program} {w : World} {A : Around} {s : Shared} {env : Env} {h₀ : Heap} {body : List Stmt} {Q : Flow → Shared → Prop}
abbrev OP (i : Nat) (c : Addr × List Value × Nat × List (Addr × Obj)) : Prop := ListsAre c.2.2.2 c.2.1 (ordersF i)
abbrev OPs (c : Addr × List Value × Nat × List (Addr × Obj)) : List (Str × Value) := [(Str.ofString "orders", .ref c.1)]
theorem ord_start {L r O P K : Addr} {oK : Obj} {v₀ : Option Value} {t u v : Tok} {c : Nat} {m₀ : Str → Option Value} {news : List (Addr × Obj)} (hL : env.locals = L) (hh : A.handled = none) (hr : IsRange s.heap r 0 (c : Int) 1 t u v) (F : Fr h₀ L s.heap m₀)
    (N : News h₀ L s.heap ((O, listOf #[.ref P] 0) :: (P, listOf #[] 0) :: (K, oK) :: news)) (hd : oK.data = .cell v₀) (l1 : K < P ∧ AllLt P news) (l2 : P < O ∧ K < O ∧ AllLt O news) (lK : ∀ p ∈ news, p.1 < K) (hm : m₀ (Str.ofString "orders") = some (.ref O)) (hc : c ≤ 4)
    (turn : ∀ (O : Addr) (vs : List Value) (kk : Nat) (tl : List (Addr × Obj)) (i : Nat) t (u : Str → Option Value) h tk I oI oK (E' : Value → Shared → Prop), i < c → ListsAre tl vs (ordersF i) → Fr h₀ L h (fun z => if z = Str.ofString "orders" then some (.ref O) else u z) → oK.data = .cell (some (.int (0 + (i : Int)) t)) →
      News h₀ L h ((I, oI) :: (K, oK) :: (O, listOf vs.toArray kk) :: (news ++ tl)) → (∀ p ∈ tl, p.1 ≠ I ∧ p.1 ≠ K) → (∀ p ∈ news, p.1 ≠ I ∧ p.1 ≠ K) → @Ne Nat I K →
      wpAny (model prog w) A (execs body env) (CEnd h₀ L (OLed news) OPs OP (i + 1) I oI K oK { s with heap := h, toks := tk }) E' { s with heap := h, toks := tk })
    (done : ∀ (O : Addr) (vs : List Value) (kk : Nat) (tl : List (Addr × Obj)) (u : Str → Option Value) h tk, ListsAre tl vs (ordersF c) → Fr h₀ L h (fun z => if z = Str.ofString "orders" then some (.ref O) else u z) → News h₀ L h ((O, listOf vs.toArray kk) :: (news ++ tl)) → Q .next { s with heap := h, toks := tk }) :
    CellSrc prog w A h₀ env body (OLed news) OPs OP K c Q (.ref r) s := by
  subst hL
  refine ⟨(O, [.ref P], 0, [(P, listOf #[] 0)]), r, c, t, u, v, m₀, oK, v₀, rfl, hh, hr, small_one (by decide) (by decide) (by omega) (by omega), by rw [rangeSize_nat]; omega, F, fun p hp => N p ?_, hd, fun p hp => ?_, fun p hp => ?_, ?_, ?_, ?_⟩
  · simp only [OLed, List.mem_cons, List.mem_append, List.not_mem_nil, or_false] at hp ⊢
    rcases hp with h | h | h | h <;> simp [h]
  · simp only [OLed, List.mem_cons, List.mem_append, List.not_mem_nil, or_false] at hp
    rcases hp with h | h | h
    · rw [h]; exact Ne.symm (Nat.ne_of_lt l2.2.1)
    · exact Nat.ne_of_lt (lK p h)
    · rw [h]; exact Ne.symm (Nat.ne_of_lt l1.1)
  · rw [List.mem_singleton.mp hp]; exact hm
  · exact .cons (ws := []) (n := 0) (List.mem_cons_self ..) .nil .nil
  · rintro ⟨O, vs, kk, tl⟩ i t u h tk I oI oK E' hi hP F hKd N off neIK
    exact turn O vs kk tl i t u h tk I oI oK E' hi hP F hKd N (fun p hp => off p (by simp [OLed, hp])) (fun p hp => off p (by simp [OLed, hp])) neIK
  · rintro ⟨O, vs, kk, tl⟩ u h tk hP F N
    exact done O vs kk tl u h tk hP F N
theorem off1_mem {I : Addr} : ∀ {l : List (Addr × Obj)}, LCg.Off1 I l → ∀ p ∈ l, p.1 ≠ I
  | [], _, _, h => nomatch h
  | _ :: _, x, p, h => by
    rcases List.mem_cons.mp h with rfl | h
    · exact x.1
    · exact off1_mem x.2 p h
def OInv (fx : List (Addr × Obj)) (b1 b2 : Addr) (vs : List Value) (qs part : List (List Int)) (ys : List Value) (nw : List (Addr × Obj)) : Prop := ∃ tl, nw = fx ++ tl ∧ ListsAre tl ys part ∧ ListsAre tl vs qs ∧ ∀ p ∈ tl, p.1 ≠ b1 ∧ p.1 ≠ b2
theorem elt_end {L I1 C D I b1 b2 Z : Addr} {oI1 oC oI : Obj} {m : Str → Option Value} {s₁ : Shared} {h' : Heap} {tk n : Nat} {all fx tl : List (Addr × Obj)} {vs ys ws : List Value} {qs part : List (List Int)} {q : List Int}
    (F : Fr h₀ L h' m) (N : News h₀ L h' all) (hZ : (Z, listOf ws.toArray n) ∈ all) (hN : ∀ p ∈ (I1, oI1) :: (C, oC) :: (D, LCg.lst ys) :: (I, oI) :: (fx ++ tl), p ∈ all) (hi : IntsAre ws q) (hT : ListsAre tl ys part) (hV : ListsAre tl vs qs) (hoff : ∀ p ∈ tl, p.1 ≠ b1 ∧ p.1 ≠ b2)
    (off : LCg.Off3 I1 C D ((I, oI) :: (fx ++ tl))) (offI : LCg.Off1 I (fx ++ tl)) (nz : @Ne Nat Z I1 ∧ @Ne Nat Z C ∧ @Ne Nat Z D ∧ @Ne Nat Z I ∧ @Ne Nat Z b1 ∧ @Ne Nat Z b2) :
    LCg.CompEnd h₀ L m s₁ I1 oI1 C oC D (LCg.lst ys) (fun _ => True) (fun y' all => ∃ nw', all = (I, oI) :: nw' ∧ (∀ p ∈ nw', p.1 ≠ I) ∧ OInv fx b1 b2 vs qs (part ++ [q]) (ys ++ [y']) nw') (.ref Z) { s₁ with heap := h', toks := tk } := by
  obtain ⟨z1, z2, z3, z4, z5, z6⟩ := nz
  have offm := off.mem
  have off1 : ∀ p ∈ fx ++ tl, p.1 ≠ I := off1_mem offI
  refine LCg.CompEnd.intro F N ((I, oI) :: (fx ++ (Z, listOf ws.toArray n) :: tl)) ?_ (LCg.Off3.of ?_) trivial ⟨_, rfl, ?_, (Z, listOf ws.toArray n) :: tl, rfl, ?_, ?_, ?_⟩
  · intro p hp
    simp only [List.mem_cons, List.mem_append] at hp
    rcases hp with h | h | h | h | h | h | h
    · exact hN p (by simp [h])
    · exact hN p (by simp [h])
    · exact hN p (by simp [h])
    · exact hN p (by simp [h])
    · exact hN p (by simp [h])
    · rw [h]; exact hZ
    · exact hN p (by simp [h])
  · intro p hp
    simp only [List.mem_cons, List.mem_append] at hp
    rcases hp with h | h | h | h
    · exact offm p (by simp [h])
    · exact offm p (by simp [h])
    · rw [h]; exact ⟨z1, z2, z3⟩
    · exact offm p (by simp [h])
  · intro p hp
    simp only [List.mem_cons, List.mem_append] at hp
    rcases hp with h | h | h
    · exact off1 p (by simp [h])
    · rw [h]; exact z4
    · exact off1 p (by simp [h])
  · exact (hT.mono fun p hp => List.mem_cons_of_mem _ hp).snoc (List.mem_cons_self ..) hi
  · exact hV.mono fun p hp => List.mem_cons_of_mem _ hp
  · intro p hp
    rcases List.mem_cons.mp hp with rfl | hp
    · exact ⟨z5, z6⟩
    · exact hoff p hp
end
section
variable {w : World} {mean : ExcName → Option Value} {mg mb : Str → Option Value} {dp un : Nat} {gd : Option (List Code)} {cn : Str} {cs : Scope} {a : Addr} {ccd : Value} {cl : List (Str × Addr)} {outer : List Env} {A₀ : Around} {base h₀ : Heap} {L : Addr} {m : Str → Option Value} {news : List (Addr × Obj)} {s : Shared} {Q E : Value → Shared → Prop}
theorem corders {c : Nat} {t : Tok} (hc : c ≤ 4) (Z : At 3 w mean mg mb dp un cs outer A₀ base h₀ L m news s.heap)
    (hret : ∀ (O : Addr) (vs : List Value) (k : Nat) (tl : List (Addr × Obj)) (h' : Heap) (tk' : Nat), ListsAre tl vs (ordersF c) → Fr h₀ L h' m → News h₀ L h' ((O, listOf vs.toArray k) :: (news ++ tl)) → Q (.ref O) { s with heap := h', toks := tk' }) :
    wpAny (model RP w) (ktrTop dp un gd cn cs L a ccd cl outer) (call (.ref 84) [.int c t]) Q E s := by
  obtain ⟨B, F, X, N, T, hk, hd, hu⟩ := Z
  (k_with "my for" => refine Park.out ?_)
  w_top off
  refine wpAny_call ?_
  k_dflt (refine' code_defC ?k1 ?k2 ?k3 ?k4 ?k5 ?kA ?kF ?kK ?k6 ?k7 ?k8 ?k9 ?kB ?kD ?_ ?c2 ?c3 ?c4; (case kA => exact rfl); (case kF => exact rfl); (case kK => assumption); (case k1 => k_asm); (case k2 => k_asm); (case k3 => k_asm); (case k4 => k_asm); (case k5 => k_asm); (case k6 => k_is); (case k7 => k_is); (case k8 => ktr_room); (case k9 => exact BindsTo.of_eq rfl); (case kB => exact rfl); (case kD => decide +kernel); (case c2 => exact rfl); (case c3 => exact rfl); (case c4 => exact rfl); k_whole; intro g' L' h' tk' cells' FG' F' N' Y' B' X' T' l1; (try k_lt l1); k_cells Y'; (try simp only [List.cons_append, List.nil_append] at N'); (try dsimp only); (try k_lift B'); (try k_fold))
  k_steps
  refine ⟨?_⟩
  k_with_none
  (refine for_cell (K := L' + 1) (n := c) (by k_asm) (OLed news) (fun c => [(Str.ofString "orders", .ref c.1)]) (fun i c => ListsAre c.2.2.2 c.2.1 (ordersF i)) rfl (by rfl) (by rfl) ?_)
  k_steps
  (rename IsRange _ _ _ _ _ _ _ _ => R9)
  (rename Fr g' L' _ _ => F9)
  (rename News g' L' _ _ => N9)
  (rename _ ∧ _ ∧ AllLt _ _ => l9)
  (rename _ ∧ AllLt _ _ => l8)
  (rename _ = Data.cell _ => d9)
  refine ord_start (L := L') rfl (by rfl) R9 F9 N9 d9 l8 l9 (fun p hp => Nat.lt_succ_of_lt (l1 p hp)) (by rfl) hc ?_ ?_
  · clear R9 F9 N9 d9 l8 l9 hret
    intro O vs kk tl i t u h tk I oI oK E' hi hP F9 hKd N9 off1 off2 neIK
    (k_with "my comp" => refine Assign_ListComp_two (by k_asm) rfl (by rfl) (by with_unfolding_all rfl) (by decide) rfl (by decide) (by rfl) (by rfl) (by decide) (by rfl) (by rfl) (fun _ _ => rfl) ?_)
    k_steps
    have hOl := orders_len (n := i) (by omega)
    have hsz : vs.toArray.size = (ordersF i).length := by rw [List.size_toArray, hP.length]
    refine SrcTwo.ledger (n1 := i + 1) (fun i' => OInv ((I, oI) :: (L' + 1, oK) :: (O, listOf vs.toArray kk) :: news) I (L' + 1) vs (ordersF i) (partO (0 + (i : Int)) (i + 1) (ordersF i) i' 0)) (fun i' j => OInv ((I, oI) :: (L' + 1, oK) :: (O, listOf vs.toArray kk) :: news) I (L' + 1) vs (ordersF i) (partO (0 + (i : Int)) (i + 1) (ordersF i) i' j))
      (by rfl) F9 N9 (by k_mem) (fun g => ?_) ⟨tl, rfl, by rw [partO_zero]; exact .nil, hP, off1⟩ ?_
    · refine { h01 := fun _ _ _ _ h => h, h10 := ?_, hb := ?_, hS := ?_, it1 := ?_, turn := ?_ }
      · intro i' ys nw hi' hI
        rw [hsz] at hi'
        rw [partO_outer _ _ _ hi'] at hI
        exact hI
      · rintro i' j ys nw ⟨tl', _, hT, _⟩
        rw [hT.length]
        exact Nat.le_trans (part_len hOl.1 (by omega)) (by rw [sizeLine_eq]; decide)
      · rintro i' ys nw ⟨tl', rfl, _⟩
        exact .inr ⟨listOf vs.toArray kk, by simp, rfl, _, rfl⟩
      · rintro v I2 oI2 C oC D m₂ ys nw h2 tk2 E2 hoC F8 N8 off8 ne8 hx ⟨i', hi', tl', rfl, hT, hV, hoff⟩
        clear F9 N9
        (simp only [List.cons_append] at N8)
        k_steps
        (rename IsRange _ _ _ _ _ _ _ _ => R8)
        refine ⟨_, _, _, _, _, _, _, rfl, rfl, by k_asm, by k_asm, R8, small_one (by decide) (by decide) (by omega) (by omega), by rw [rangeSize_nat]; omega⟩
      · rintro i' j v t2 I2 oI2 I1 oI1 C oC D m₂ ys nw h2 tk2 E2 hi' hj hv hoC hmx hmy ⟨tl', rfl, hT, hV, hoff⟩ F8 N8 off8 off9 ne8
        clear F9 N9
        obtain ⟨P, kn, ws, q, rfl, hq, hm, hiq⟩ := hV.get i' v (by simpa using hv)
        have hql : q.length = i := (hOl.2 q (List.mem_of_getElem? hq)).1
        (simp only [List.cons_append] at N8)
        have N7 := news_dup' N8 (p := (P, listOf ws.toArray kn)) (by simp [hm])
        clear N8
        k_steps
        (rename _ ∧ _ ∧ _ ∧ _ ∧ _ ∧ _ ∧ _ ∧ _ ∧ _ ∧ _ ∧ _ ∧ _ ∧ AllLt _ _ => l9)
        (rename IntsAre _ (_ ++ _ ++ _) => hI9)
        (rename News g' _ _ _ => N9)
        obtain ⟨_, _, _, _, _, z1, z2, z3, z4, z5, z6, _, _⟩ := l9
        rw [partO_inner _ _ _ hq hj]
        exact elt_end (fx := (I, oI) :: (L' + 1, oK) :: (O, listOf vs.toArray kk) :: news) (by k_asm) N9 (.head _) (fun p hp => .tail _ (.tail _ (.tail _ (.tail _ (.tail _ (.tail _ hp)))))) hI9 hT hV hoff off8 off9 ⟨Ne.symm (Nat.ne_of_lt z1), Ne.symm (Nat.ne_of_lt z2), Ne.symm (Nat.ne_of_lt z3), Ne.symm (Nat.ne_of_lt z4), Ne.symm (Nat.ne_of_lt z5), Ne.symm (Nat.ne_of_lt z6)⟩
    · rintro g ys nw ⟨tl', rfl, hT, _, hoff⟩
      intro D h2 tk2 F8 N8 o8
      rw [hsz, Int.zero_add, ← orders_next] at hT
      refine wpAny_execs_nil ?_
      refine ⟨rfl, h2, _, _, (D, ys, ys.length, tl'), rfl, F8, fun p hp => N8 p ?_, fun p hp => ?_, fun p hp => ?_, hT⟩
      · simp only [OLed, List.mem_cons, List.mem_append, List.cons_append] at hp ⊢
        rcases hp with h | h | h | h | h <;> simp [h]
      · simp only [OLed, List.mem_cons, List.mem_append] at hp
        rcases hp with h | h | h
        · rw [h]; exact ⟨Ne.symm o8.1, Ne.symm o8.2.1⟩
        · exact off2 p h
        · exact hoff p h
      · rw [List.mem_singleton.mp hp]
        exact if_pos rfl
  · clear R9 F9 N9 d9 l8 l9
    intro O vs kk tl u h tk hP F9 N9
    k_steps
    exact hret O vs kk tl _ _ hP (by k_asm) (by k_asm)
end
end Mine
namespace Mine
open PyProof.V
def retBody : List Stmt := match rest7 with
  | _ :: _ :: _ :: _ :: _ :: _ :: r => r
  | _ => []
section
variable {prog : Program} {w : World} {A : Around} {h₀ : Heap} {L : Addr} {m : Str → Option Value} {env : Env} {elt : PySem.Expr} {x : Str} {scope : Scope} {cl : List (Str × Addr)} {s : Shared} {S : List (Addr × Obj) → Prop} {Fin : List Value → List (Addr × Obj) → Prop}
theorem ints_snoc1 {n : Int} {t : Tok} : ∀ {vs : List Value} {ns : List Int}, IntsAre vs ns → IntsAre (vs ++ [.int n t]) (ns ++ [n])
  | _, _, .nil => .cons n t .nil
  | _, _, .cons n' t' r => .cons n' t' (ints_snoc1 r)
def IntEl (news : List (Addr × Obj)) (n : Int) (y : Value) (news' : List (Addr × Obj)) : Prop := ∃ t, y = .int n t ∧ news' = news
theorem ints_restX {tl news : List (Addr × Obj)} {vs : List Value} {qs : List (List Int)} {f : List Int → Int} (hV : ListsAre tl vs qs)
    (turn : ∀ P kn ws q I oI C oC K oK D ys h tk (E' : Value → Shared → Prop), (P, listOf ws.toArray kn) ∈ tl → IntsAre ws q → q ∈ qs → oK.data = .cell (some (.ref P)) → Fr h₀ L h m → News h₀ L h ((I, oI) :: (C, oC) :: (K, oK) :: (D, LCg.lst ys) :: news) → Off4 I C K D news → Apart4 I C K D →
      wpAny (model prog w) A (eval elt (envXC scope x cl C K env)) (EndX h₀ L m { s with heap := h, toks := tk } I oI C oC K oK D (LCg.lst ys) S (IntEl news (f q))) E' { s with heap := h, toks := tk })
    (fin : ∀ ys, IntsAre ys (qs.map f) → Fin ys news) : RestX prog w A h₀ L m env elt x scope cl s S (fun i v => vs.toArray[i]? = some v) Fin vs.toArray.size 0 [] news := by
  have hsz : vs.toArray.size = qs.length := by rw [List.size_toArray]; exact hV.length
  rw [hsz]
  have key : ∀ (j i : Nat) (ys : List Value), i + j = qs.length → IntsAre ys ((qs.take i).map f) → RestX prog w A h₀ L m env elt x scope cl s S (fun i v => vs.toArray[i]? = some v) Fin j i ys news := by
    intro j
    induction j with
    | zero =>
      intro i ys hi' hT
      have e : i = qs.length := by omega
      subst e
      rw [List.take_length] at hT
      exact RestX.zero (fin ys hT)
    | succ j ih =>
      intro i ys hi' hT
      show ∀ v I oI C oC K oK D h tk (E' : Value → Shared → Prop), _
      intro v I oI C oC K oK D h tk E' hv hK F N off ap
      obtain ⟨P, kn, ws, q, rfl, hq, hm, hiq⟩ := hV.get i v (by simpa using hv)
      refine wpAny_mono (turn P kn ws q I oI C oC K oK D ys h tk E' hm hiq (List.mem_of_getElem? hq) hK F N off ap) (fun y s₂ hy => ?_) fun _ _ e => e
      obtain ⟨h', tk', nw, e, F', N', off', hS, t, rfl, rfl⟩ := hy
      refine ⟨h', tk', _, e, F', N', off', hS, ih (i + 1) _ (by omega) ?_⟩
      rw [List.take_add_one, hq, List.map_append]
      exact ints_snoc1 hT
  exact key qs.length 0 [] (by omega) (by simpa using IntsAre.nil)
theorem endx_int {I C K D : Addr} {oI oC oK oD : Obj} {s₁ : Shared} {n : Int} {t : Tok} {h' : Heap} {tk : Nat} {all rest : List (Addr × Obj)}
    (F : Fr h₀ L h' m) (N : News h₀ L h' all) (sub : ∀ p ∈ (I, oI) :: (C, oC) :: (K, oK) :: (D, oD) :: rest, p ∈ all) (off : Off4 I C K D rest) (hS : S rest) :
    EndX h₀ L m s₁ I oI C oC K oK D oD S (IntEl rest n) (.int n t) { s₁ with heap := h', toks := tk } := EndX.intro F N rest sub off hS ⟨t, rfl, rfl⟩
end
theorem three_of {q : List Int} (h : q.length = 3) : ∃ a b c, q = [a, b, c] := by
  rcases q with _ | ⟨a, _ | ⟨b, _ | ⟨c, _ | ⟨d, r⟩⟩⟩⟩ <;> simp at h
  exact ⟨a, b, c, rfl⟩
theorem four_of {q : List Int} (h : q.length = 4) : ∃ a b c d, q = [a, b, c, d] := by
  rcases q with _ | ⟨a, _ | ⟨b, _ | ⟨c, _ | ⟨d, _ | ⟨e, r⟩⟩⟩⟩⟩ <;> simp at h
  exact ⟨a, b, c, d, rfl⟩
end Mine
namespace Mine
open PyProof.V
local macro_rules | `(tactic| walk_at "call ref") => `(tactic| k_dflt (k_extra "my call"))
local macro_rules | `(tactic| walk_at "CompSrc") => `(tactic| (k_here; k_dflt (k_extra "my src")))
local macro_rules | `(tactic| walk_at "CompEnd") => `(tactic| (k_here; k_dflt (k_extra "my cend")))
local macro_rules | `(tactic| walk_at "eval ListComp Call") => `(tactic| (k_here; k_dflt (refine ListComp_X (by k_asm) (by with_unfolding_all rfl) (fun _ => rfl) (fun _ => rfl) (by rfl) (by decide) (by rfl) ?_)))
local macro_rules | `(tactic| walk_at "eval ListComp Subscript") => `(tactic| (k_here; k_dflt (refine LCg.ListComp_U (F₀ := by k_asm) (by with_unfolding_all rfl) (by decide) (by rfl) (by decide) (by rfl) ?_)))
local macro_rules | `(tactic| walk_at "SrcX") => `(tactic| (k_here; k_dflt (k_extra "my srcx")))
local macro_rules | `(tactic| walk_at "EndX") => `(tactic| (k_here; k_dflt (k_extra "my endx")))
local macro_rules | `(tactic| walk_at "compareOp Eq int int") => `(tactic| (k_here; k_dflt (k_extra "my eq")))

theorem fillR3 : Challenge.rw_rl0013_02 = Challenge.rw_rl0013_02 ∧ hd.heap_39 = hd.heap_39 := by
  k_fill
  exact ⟨rfl, rfl⟩
section
variable {w : World} {mean : ExcName → Option Value} {mg mb : Str → Option Value} {h₀ : Heap} {L fa : Addr} {cd : Value} {m : Str → Option Value} {s : Shared} {Q : Flow → Shared → Prop} {E : Value → Shared → Prop}
theorem ret3 {D R0 R1 R2 sA : Addr} {y0 y1 y2 sv : List Value} {sn : Nat} {a0 a1 a2 b0 b1 b2 c0 c1 c2 tot : Int} {o1 o3 o4 o5 o6 : Obj} {v4 v5 v6 : Option Value} {t1 tt : Tok} {vc vl : Value} {u : Str → Option Value}
    (B : Below callerA h₀ [] h₀) (X : (hd.heap_39 w.params).In h₀) (T : Top hd.view_39 (looseW hd.view_39 []) mean mg mb h₀)
    (F : Fr h₀ L s.heap (fun y => if y = Str.ofString "code" then some vc else if y = Str.ofString "lacking" then some vl else if y = Str.ofString "total" then some (.int tot tt) else u y))
    (N : News h₀ L s.heap [(sA, listOf sv.toArray sn), (D, LCg.lst [.ref R0, .ref R1, .ref R2]), (R0, LCg.lst y0), (R1, LCg.lst y1), (R2, LCg.lst y2), (L + 1 + 1 + 1 + 1 + 1 + 1, o6), (L + 1 + 1 + 1 + 1 + 1, o5), (L + 1 + 1 + 1 + 1, o4), (L + 1 + 1 + 1, o3), (L + 1, o1)])
    (d1 : o1.data = .cell (some (.int 3 t1))) (d3 : o3.data = .cell (some (.ref D))) (d4 : o4.data = .cell v4) (d5 : o5.data = .cell v5) (d6 : o6.data = .cell v6)
    (i0 : IntsAre y0 [a0, a1, a2]) (i1 : IntsAre y1 [b0, b1, b2]) (i2 : IntsAre y2 [c0, c1, c2])
    (hb : ∀ i j : Nat, -1000000 ≤ (([[a0, a1, a2], [b0, b1, b2], [c0, c1, c2]] : List (List Int)).getD i []).getD j 0 ∧ (([[a0, a1, a2], [b0, b1, b2], [c0, c1, c2]] : List (List Int)).getD i []).getD j 0 ≤ 1000000)
    (htot : tot = ((ordersF 3).map (permF 3 [[a0, a1, a2], [b0, b1, b2], [c0, c1, c2]])).sum)
    (hQ : ∀ h' tk' m', Fr h₀ L h' m' → Q (.ret (.bool true)) { s with heap := h', toks := tk' }) :
    wpAny (model RP w) (callerA.deeper (lawEnv L fa cd)) (execs retBody (lawEnv L fa cd)) Q E s := by
  dsimp only [retBody, rest7, lawBody, lastOf, Challenge.pw_rl0013_02, lawEnv, lawScope]
  w_top on
  (k_with "my call" => (refine corders (c := 3) (by decide) ⟨by k_asm, by k_asm, by k_asm, by k_asm, by k_asm, by first | rfl | assumption, by ktr_room, by ktr_units⟩ ?_; intro O vs k tlq hO tkO hV FO NO; (simp only [List.cons_append, List.nil_append] at NO)))
  (k_with "my srcx" => refine Park.out ?_)
  k_steps
  refine ⟨?_⟩
  k_with_none
  refine SrcX.ledger (by rfl) (by k_asm) (by k_asm) (by k_mem) (by rw [List.size_toArray, hV.length]; exact Nat.le_trans (orders_len (n := 3) (by decide)).1 (by rw [sizeLine_eq]; decide)) (fun g => ints_restX (f := permF 3 [[a0, a1, a2], [b0, b1, b2], [c0, c1, c2]]) hV ?_ ?_)
  · intro P kn ws q I oI C oC K oK D2 ys h2 tk2 E2 hm hiq hqm hKd F8 N8 off8 ap8
    clear FO NO hQ htot F N
    obtain ⟨hql, hqb⟩ := (orders_len (n := 3) (by decide)).2 q hqm
    obtain ⟨q0, q1, q2, rfl⟩ := three_of hql
    have g0 : 0 ≤ [q0, q1, q2].getD (0 + ((0 : Nat) : Int)).toNat 0 ∧ [q0, q1, q2].getD (0 + ((0 : Nat) : Int)).toNat 0 < 3 := hqb q0 (by simp)
    have g1 : 0 ≤ [q0, q1, q2].getD (0 + ((0 + 1 : Nat) : Int)).toNat 0 ∧ [q0, q1, q2].getD (0 + ((0 + 1 : Nat) : Int)).toNat 0 < 3 := hqb q1 (by simp)
    have g2 : 0 ≤ [q0, q1, q2].getD (0 + ((0 + 1 + 1 : Nat) : Int)).toNat 0 ∧ [q0, q1, q2].getD (0 + ((0 + 1 + 1 : Nat) : Int)).toNat 0 < 3 := hqb q2 (by simp)
    clear hqm hqb hql
    have N7 := news_dup N8 (p := (P, listOf ws.toArray kn)) (by simp [hm])
    (k_with "my src" => (refine LCg.CompSrc.range (by rfl) (by k_asm) (by k_asm) (by assumption) (by decide) (n := 3) (by rfl) (by rw [sizeLine_eq]; decide) ?_; intro g'; (intro v' I' oI' C' oC' D' m' h' tk' E' hv' hC' hx' F' N' off0 ne'); (obtain ⟨tv', rfl⟩ := hv')))
    (k_with "my cend" => (refine cend_same (by k_asm) (by k_asm) off0 trivial ?_; clear off0; first | (show LCg.FinE _ _ _ _ _ _ _) | (intro v' I' oI' C' oC' D' m' h' tk' E' hv' hC' hx' F' N' off0 ne'; (obtain ⟨tv', rfl⟩ := hv'))))
    (k_with "my call" => (refine cprod3 ⟨by k_asm, by k_asm, by k_asm, by k_asm, by k_asm, by first | rfl | assumption, by ktr_room, by ktr_units⟩ (by have := hb 0 ([q0, q1, q2].getD 0 0).toNat; exact ⟨Int.le_trans (by decide) this.1, Int.le_trans this.2 (by decide)⟩) (by have := hb 1 ([q0, q1, q2].getD 1 0).toNat; exact ⟨Int.le_trans (by decide) this.1, Int.le_trans this.2 (by decide)⟩) (by have := hb 2 ([q0, q1, q2].getD 2 0).toNat; exact ⟨Int.le_trans (by decide) this.1, Int.le_trans this.2 (by decide)⟩) ?_; intro t3 h3 tk3 F3 N3))
    k_steps
    k_with_none
    rename News h₀ L _ _ => N9
    rw [show permF 3 [[a0, a1, a2], [b0, b1, b2], [c0, c1, c2]] [q0, q1, q2] = 1 * [a0, a1, a2].getD ([q0, q1, q2].getD (0 + ((0 : Nat) : Int)).toNat 0).toNat 0 * [b0, b1, b2].getD ([q0, q1, q2].getD (0 + ((0 + 1 : Nat) : Int)).toNat 0).toNat 0 * [c0, c1, c2].getD ([q0, q1, q2].getD (0 + ((0 + 1 + 1 : Nat) : Int)).toNat 0).toNat 0 from rfl]
    exact endx_int (by k_asm) N9 (fun p hp => .tail _ (.tail _ hp)) off8 (.inr ⟨listOf vs.toArray k, .head _, rfl, k, rfl⟩)
  · intro ys hi
    show LCg.FinE _ _ _ _ _ _ _
    k_steps
    rw [show (tot == (List.map (permF 3 [[a0, a1, a2], [b0, b1, b2], [c0, c1, c2]]) (ordersF 3)).sum) = true by rw [← htot]; exact beq_self_eq_true _]
    exact hQ _ _ _ (by k_asm)
end
end Mine
namespace Mine
open PyProof.V
local macro_rules | `(tactic| walk_at "call ref") => `(tactic| k_dflt (k_extra "my call"))
local macro_rules | `(tactic| walk_at "CompSrc") => `(tactic| (k_here; k_dflt (k_extra "my src")))
local macro_rules | `(tactic| walk_at "CompEnd") => `(tactic| (k_here; k_dflt (k_extra "my cend")))
local macro_rules | `(tactic| walk_at "eval ListComp Call") => `(tactic| (k_here; k_dflt (refine ListComp_X (by k_asm) (by with_unfolding_all rfl) (fun _ => rfl) (fun _ => rfl) (by rfl) (by decide) (by rfl) ?_)))
local macro_rules | `(tactic| walk_at "eval ListComp Subscript") => `(tactic| (k_here; k_dflt (refine LCg.ListComp_U (F₀ := by k_asm) (by with_unfolding_all rfl) (by decide) (by rfl) (by decide) (by rfl) ?_)))
local macro_rules | `(tactic| walk_at "SrcX") => `(tactic| (k_here; k_dflt (k_extra "my srcx")))
local macro_rules | `(tactic| walk_at "EndX") => `(tactic| (k_here; k_dflt (k_extra "my endx")))
local macro_rules | `(tactic| walk_at "compareOp Eq int int") => `(tactic| (k_here; k_dflt (k_extra "my eq")))
local macro_rules | `(tactic| walk_at "till nowhere") => `(tactic| fail)
theorem fillR4 : Challenge.rw_rl0013_02 = Challenge.rw_rl0013_02 ∧ hd.heap_39 = hd.heap_39 := by
  k_fill
  exact ⟨rfl, rfl⟩
section
variable {w : World} {mean : ExcName → Option Value} {mg mb : Str → Option Value} {h₀ : Heap} {L fa : Addr} {cd : Value} {m : Str → Option Value} {s : Shared} {Q : Flow → Shared → Prop} {E : Value → Shared → Prop}
theorem ret4 {D R0 R1 R2 R3 sA : Addr} {y0 y1 y2 y3 sv : List Value} {sn : Nat} {a0 a1 a2 a3 b0 b1 b2 b3 c0 c1 c2 c3 j0 j1 j2 j3 tot : Int} {o1 o3 o4 o5 o6 : Obj} {v4 v5 v6 : Option Value} {t1 tt : Tok} {vc vl : Value} {u : Str → Option Value}
    (B : Below callerA h₀ [] h₀) (X : (hd.heap_39 w.params).In h₀) (T : Top hd.view_39 (looseW hd.view_39 []) mean mg mb h₀)
    (F : Fr h₀ L s.heap (fun y => if y = Str.ofString "code" then some vc else if y = Str.ofString "lacking" then some vl else if y = Str.ofString "total" then some (.int tot tt) else u y))
    (N : News h₀ L s.heap [(sA, listOf sv.toArray sn), (D, LCg.lst [.ref R0, .ref R1, .ref R2, .ref R3]), (R0, LCg.lst y0), (R1, LCg.lst y1), (R2, LCg.lst y2), (R3, LCg.lst y3), (L + 1 + 1 + 1 + 1 + 1 + 1, o6), (L + 1 + 1 + 1 + 1 + 1, o5), (L + 1 + 1 + 1 + 1, o4), (L + 1 + 1 + 1, o3), (L + 1, o1)])
    (d1 : o1.data = .cell (some (.int 4 t1))) (d3 : o3.data = .cell (some (.ref D))) (d4 : o4.data = .cell v4) (d5 : o5.data = .cell v5) (d6 : o6.data = .cell v6)
    (i0 : IntsAre y0 [a0, a1, a2, a3]) (i1 : IntsAre y1 [b0, b1, b2, b3]) (i2 : IntsAre y2 [c0, c1, c2, c3]) (i3 : IntsAre y3 [j0, j1, j2, j3])
    (hb : ∀ i j : Nat, -1000000 ≤ (([[a0, a1, a2, a3], [b0, b1, b2, b3], [c0, c1, c2, c3], [j0, j1, j2, j3]] : List (List Int)).getD i []).getD j 0 ∧ (([[a0, a1, a2, a3], [b0, b1, b2, b3], [c0, c1, c2, c3], [j0, j1, j2, j3]] : List (List Int)).getD i []).getD j 0 ≤ 1000000)
    (htot : tot = ((ordersF 4).map (permF 4 [[a0, a1, a2, a3], [b0, b1, b2, b3], [c0, c1, c2, c3], [j0, j1, j2, j3]])).sum)
    (hQ : ∀ h' tk' m', Fr h₀ L h' m' → Q (.ret (.bool true)) { s with heap := h', toks := tk' }) :
    wpAny (model RP w) (callerA.deeper (lawEnv L fa cd)) (execs retBody (lawEnv L fa cd)) Q E s := by
  dsimp only [retBody, rest7, lawBody, lastOf, Challenge.pw_rl0013_02, lawEnv, lawScope]
  w_top on
  (k_with "my call" => (refine corders (c := 4) (by decide) ⟨by k_asm, by k_asm, by k_asm, by k_asm, by k_asm, by first | rfl | assumption, by ktr_room, by ktr_units⟩ ?_; intro O vs k tlq hO tkO hV FO NO; (simp only [List.cons_append, List.nil_append] at NO)))
  (k_with "my srcx" => refine Park.out ?_)
  k_steps
  refine ⟨?_⟩
  k_with_none
  refine SrcX.ledger (by rfl) (by k_asm) (by k_asm) (by k_mem) (by rw [List.size_toArray, hV.length]; exact Nat.le_trans (orders_len (n := 4) (by decide)).1 (by rw [sizeLine_eq]; decide)) (fun g => ints_restX (f := permF 4 [[a0, a1, a2, a3], [b0, b1, b2, b3], [c0, c1, c2, c3], [j0, j1, j2, j3]]) hV ?_ ?_)
  · intro P kn ws q I oI C oC K oK D2 ys h2 tk2 E2 hm hiq hqm hKd F8 N8 off8 ap8
    clear FO NO hQ htot F N
    obtain ⟨hql, hqb⟩ := (orders_len (n := 4) (by decide)).2 q hqm
    obtain ⟨q0, q1, q2, q3, rfl⟩ := four_of hql
    have g0 : 0 ≤ [q0, q1, q2, q3].getD (0 + ((0 : Nat) : Int)).toNat 0 ∧ [q0, q1, q2, q3].getD (0 + ((0 : Nat) : Int)).toNat 0 < 4 := hqb q0 (by simp)
    have g1 : 0 ≤ [q0, q1, q2, q3].getD (0 + ((0 + 1 : Nat) : Int)).toNat 0 ∧ [q0, q1, q2, q3].getD (0 + ((0 + 1 : Nat) : Int)).toNat 0 < 4 := hqb q1 (by simp)
    have g2 : 0 ≤ [q0, q1, q2, q3].getD (0 + ((0 + 1 + 1 : Nat) : Int)).toNat 0 ∧ [q0, q1, q2, q3].getD (0 + ((0 + 1 + 1 : Nat) : Int)).toNat 0 < 4 := hqb q2 (by simp)
    have g3 : 0 ≤ [q0, q1, q2, q3].getD (0 + ((0 + 1 + 1 + 1 : Nat) : Int)).toNat 0 ∧ [q0, q1, q2, q3].getD (0 + ((0 + 1 + 1 + 1 : Nat) : Int)).toNat 0 < 4 := hqb q3 (by simp)
    clear hqm hqb hql
    have N7 := news_dup N8 (p := (P, listOf ws.toArray kn)) (by simp [hm])
    (k_with "my src" => (refine LCg.CompSrc.range (by rfl) (by k_asm) (by k_asm) (by assumption) (by decide) (n := 4) (by rfl) (by rw [sizeLine_eq]; decide) ?_; intro g'; (intro v' I' oI' C' oC' D' m' h' tk' E' hv' hC' hx' F' N' off0 ne'); (obtain ⟨tv', rfl⟩ := hv')))
    (k_with "my cend" => (refine cend_same (by k_asm) (by k_asm) off0 trivial ?_; clear off0; first | (show LCg.FinE _ _ _ _ _ _ _) | (intro v' I' oI' C' oC' D' m' h' tk' E' hv' hC' hx' F' N' off0 ne'; (obtain ⟨tv', rfl⟩ := hv'))))
    (k_with "my call" => (refine cprod4 ⟨by k_asm, by k_asm, by k_asm, by k_asm, by k_asm, by first | rfl | assumption, by ktr_room, by ktr_units⟩ (by have := hb 0 ([q0, q1, q2, q3].getD 0 0).toNat; exact ⟨Int.le_trans (by decide) this.1, Int.le_trans this.2 (by decide)⟩) (by have := hb 1 ([q0, q1, q2, q3].getD 1 0).toNat; exact ⟨Int.le_trans (by decide) this.1, Int.le_trans this.2 (by decide)⟩) (by have := hb 2 ([q0, q1, q2, q3].getD 2 0).toNat; exact ⟨Int.le_trans (by decide) this.1, Int.le_trans this.2 (by decide)⟩) (by have := hb 3 ([q0, q1, q2, q3].getD 3 0).toNat; exact ⟨Int.le_trans (by decide) this.1, Int.le_trans this.2 (by decide)⟩) ?_; intro t3 h3 tk3 F3 N3))
    k_steps
    k_with_none
    rename News h₀ L _ _ => N9
    rw [show permF 4 [[a0, a1, a2, a3], [b0, b1, b2, b3], [c0, c1, c2, c3], [j0, j1, j2, j3]] [q0, q1, q2, q3] = 1 * [a0, a1, a2, a3].getD ([q0, q1, q2, q3].getD (0 + ((0 : Nat) : Int)).toNat 0).toNat 0 * [b0, b1, b2, b3].getD ([q0, q1, q2, q3].getD (0 + ((0 + 1 : Nat) : Int)).toNat 0).toNat 0 * [c0, c1, c2, c3].getD ([q0, q1, q2, q3].getD (0 + ((0 + 1 + 1 : Nat) : Int)).toNat 0).toNat 0 * [j0, j1, j2, j3].getD ([q0, q1, q2, q3].getD (0 + ((0 + 1 + 1 + 1 : Nat) : Int)).toNat 0).toNat 0 from rfl]
    exact endx_int (by k_asm) N9 (fun p hp => .tail _ (.tail _ hp)) off8 (.inr ⟨listOf vs.toArray k, .head _, rfl, k, rfl⟩)
  · intro ys hi
    show LCg.FinE _ _ _ _ _ _ _
    k_steps
    rw [show (tot == (List.map (permF 4 [[a0, a1, a2, a3], [b0, b1, b2, b3], [c0, c1, c2, c3], [j0, j1, j2, j3]]) (ordersF 4)).sum) = true by rw [← htot]; exact beq_self_eq_true _]
    exact hQ _ _ _ (by k_asm)
end
end Mine
namespace Mine
open PyProof.V
/-- the state between two turns of the main loop -/
structure LS where
  sA : Addr
  sv : List Value
  sn : Nat
  o4 : Obj
  o5 : Obj
  o6 : Obj
  code : Int
  lack : Int
  tot : Int
  tc : Tok
  tl : Tok
  tt : Tok
abbrev psLS (c : LS) : List (Str × Value) := [(Str.ofString "code", .int c.code c.tc), (Str.ofString "lacking", .int c.lack c.tl), (Str.ofString "total", .int c.tot c.tt)]
theorem rowS_in {r : List Int} (h : ∀ j : Nat, -1000000 ≤ r.getD j 0 ∧ r.getD j 0 ≤ 1000000) : ∀ n : Nat, -(1000000 * (n : Int)) ≤ rowS r n ∧ rowS r n ≤ 1000000 * (n : Int)
  | 0 => by simp [rowS]
  | n + 1 => by
    have ih := rowS_in h n
    have hj := h (colF ((n : Int) + 1)).toNat
    have e : rowS r (n + 1) = rowS r n + moreF ((n : Int) + 1) * r.getD (colF ((n : Int) + 1)).toNat 0 := rfl
    have hm : moreF ((n : Int) + 1) = 1 ∨ moreF ((n : Int) + 1) = -1 := by
      unfold moreF
      split
      · exact .inl rfl
      · exact .inr rfl
    rw [e]
    rcases hm with hm | hm <;> rw [hm] <;> omega
theorem ps_ok {c : LS} {m : Str → Option Value} (h1 : m (Str.ofString "code") = some (.int c.code c.tc)) (h2 : m (Str.ofString "lacking") = some (.int c.lack c.tl)) (h3 : m (Str.ofString "total") = some (.int c.tot c.tt)) : ∀ p ∈ psLS c, m p.1 = some p.2 := by
  intro p hp
  simp only [psLS, List.mem_cons, List.not_mem_nil, or_false] at hp
  rcases hp with rfl | rfl | rfl <;> assumption
theorem off_map {l l' : List (Addr × Obj)} {p q : Addr × Obj} {I : Addr} (h : ∀ x ∈ p :: l, x.1 ≠ I) (hq : q.1 ≠ I) (e : l'.map (·.1) = l.map (·.1)) : ∀ x ∈ q :: l', x.1 ≠ I := by
  intro x hx
  rcases List.mem_cons.mp hx with rfl | hx
  · exact hq
  · have : x.1 ∈ l.map (·.1) := e ▸ List.mem_map_of_mem hx
    obtain ⟨y, hy, e2⟩ := List.mem_map.mp this
    rw [← e2]
    exact h y (List.mem_cons_of_mem _ hy)
theorem mem_skip {α : Type} {a b p : α} {l : List α} (h : p ∈ a :: l) : p ∈ a :: b :: l := by
  rcases List.mem_cons.mp h with rfl | h
  · exact .head _
  · exact .tail _ (.tail _ h)
end Mine
namespace Mine
open PyProof.V
local macro_rules | `(tactic| walk_at "exec For Name Call cons nil") => `(tactic| (k_here; k_dflt (k_extra "my for")))
local macro_rules | `(tactic| walk_at "pyIter ref") => `(tactic| k_dflt (k_extra "my pyIter"))
local macro_rules | `(tactic| walk_at "call ref") => `(tactic| k_dflt (k_extra "my call"))
local macro_rules | `(tactic| k_ne) => `(tactic| (refine neN ?_; (try dsimp only); first | assumption | exact Ne.symm (by assumption) | omega))
local macro_rules | `(tactic| walk_at "eval Call") => `(tactic| (k_here; k_dflt (k_extra "my eval")))
local macro_rules | `(tactic| walk_at "compareOp IsNot bool bool") => `(tactic| (k_here; k_dflt (k_extra "my isnot")))
local macro_rules | `(tactic| walk_at "compareOp NotEq int int") => `(tactic| (k_here; k_dflt (k_extra "my ne")))

theorem fillS3 : Challenge.rw_rl0013_02 = Challenge.rw_rl0013_02 ∧ hd.heap_39 = hd.heap_39 := by
  k_fill
  exact ⟨rfl, rfl⟩
abbrev Led3 (L D R0 R1 R2 : Addr) (y0 y1 y2 : List Value) (o1 o3 : Obj) (c : LS) : List (Addr × Obj) := [(c.sA, listOf c.sv.toArray c.sn), (D, LCg.lst [.ref R0, .ref R1, .ref R2]), (R0, LCg.lst y0), (R1, LCg.lst y1), (R2, LCg.lst y2), (L + 1 + 1 + 1 + 1 + 1 + 1, c.o6), (L + 1 + 1 + 1 + 1 + 1, c.o5), (L + 1 + 1 + 1 + 1, c.o4), (L + 1 + 1 + 1, o3), (L + 1, o1)]
abbrev P3 (L : Addr) (a0 a1 a2 b0 b1 b2 c0 c1 c2 : Int) (i : Nat) (c : LS) : Prop := c.code = gray (i : Int) ∧ c.lack = lackF 3 i ∧ c.tot = totF 3 [[a0, a1, a2], [b0, b1, b2], [c0, c1, c2]] i ∧ IntsAre c.sv [rowS [a0, a1, a2] i, rowS [b0, b1, b2] i, rowS [c0, c1, c2] i] ∧ c.o4.data = .cell (some (.ref c.sA)) ∧ (∃ v, c.o5.data = .cell v) ∧ (∃ v, c.o6.data = .cell v) ∧ (@Ne Nat (L + 1 + 1 + 1 + 1 + 1 + 1) c.sA) ∧ (@Ne Nat (L + 1 + 1 + 1 + 1 + 1) c.sA) ∧ (@Ne Nat (L + 1 + 1 + 1 + 1) c.sA) ∧ (@Ne Nat (L + 1 + 1 + 1) c.sA) ∧ (@Ne Nat (L + 1) c.sA)
section
variable {w : World} {mean : ExcName → Option Value} {mg mb : Str → Option Value} {h₀ : Heap} {L fa : Addr} {cd : Value} {m : Str → Option Value} {s : Shared} {Q : Flow → Shared → Prop} {E : Value → Shared → Prop}
theorem loop3 {D R0 R1 R2 r A0 : Addr} {y0 y1 y2 : List Value} {a0 a1 a2 b0 b1 b2 c0 c1 c2 : Int} {o1 o3 o4 o5 o6 : Obj} {v5 v6 : Option Value} {t1 tz tc tl tt ta tb td : Tok} {x : Addr × Obj} {m₀ : Str → Option Value} {QQ : Flow → Shared → Prop}
    (B : Below callerA h₀ [] h₀) (X : (hd.heap_39 w.params).In h₀) (T : Top hd.view_39 (looseW hd.view_39 []) mean mg mb h₀)
    (hr : IsRange s.heap r 1 (2 ^ Int.toNat 3) 1 ta tb td) (F : Fr h₀ L s.heap m₀) (hm1 : m₀ (Str.ofString "code") = some (.int 0 tc)) (hm2 : m₀ (Str.ofString "lacking") = some (.int 3 tl)) (hm3 : m₀ (Str.ofString "total") = some (.int 0 tt))
    (N : News h₀ L s.heap [(A0, listOf (List.replicate (Int.toNat 3) [Value.int 0 tz]).flatten.toArray 0), x, (D, LCg.lst [.ref R0, .ref R1, .ref R2]), (R0, LCg.lst y0), (R1, LCg.lst y1), (R2, LCg.lst y2), (L + 1 + 1 + 1 + 1 + 1 + 1, o6), (L + 1 + 1 + 1 + 1 + 1, o5), (L + 1 + 1 + 1 + 1, o4), (L + 1 + 1 + 1, o3), (L + 1, o1)])
    (d1 : o1.data = .cell (some (.int 3 t1))) (d3 : o3.data = .cell (some (.ref D))) (d4 : o4.data = .cell (some (.ref A0))) (d5 : o5.data = .cell v5) (d6 : o6.data = .cell v6)
    (neD : (@Ne Nat (L + 1 + 1 + 1 + 1 + 1 + 1) D) ∧ (@Ne Nat (L + 1 + 1 + 1 + 1 + 1) D) ∧ (@Ne Nat (L + 1 + 1 + 1 + 1) D) ∧ (@Ne Nat (L + 1 + 1 + 1) D) ∧ (@Ne Nat (L + 1) D)) (neR0 : (@Ne Nat (L + 1 + 1 + 1 + 1 + 1 + 1) R0) ∧ (@Ne Nat (L + 1 + 1 + 1 + 1 + 1) R0) ∧ (@Ne Nat (L + 1 + 1 + 1 + 1) R0) ∧ (@Ne Nat (L + 1 + 1 + 1) R0) ∧ (@Ne Nat (L + 1) R0)) (neR1 : (@Ne Nat (L + 1 + 1 + 1 + 1 + 1 + 1) R1) ∧ (@Ne Nat (L + 1 + 1 + 1 + 1 + 1) R1) ∧ (@Ne Nat (L + 1 + 1 + 1 + 1) R1) ∧ (@Ne Nat (L + 1 + 1 + 1) R1) ∧ (@Ne Nat (L + 1) R1)) (neR2 : (@Ne Nat (L + 1 + 1 + 1 + 1 + 1 + 1) R2) ∧ (@Ne Nat (L + 1 + 1 + 1 + 1 + 1) R2) ∧ (@Ne Nat (L + 1 + 1 + 1 + 1) R2) ∧ (@Ne Nat (L + 1 + 1 + 1) R2) ∧ (@Ne Nat (L + 1) R2)) (neA : (@Ne Nat (L + 1 + 1 + 1 + 1 + 1 + 1) A0) ∧ (@Ne Nat (L + 1 + 1 + 1 + 1 + 1) A0) ∧ (@Ne Nat (L + 1 + 1 + 1 + 1) A0) ∧ (@Ne Nat (L + 1 + 1 + 1) A0) ∧ (@Ne Nat (L + 1) A0))
    (i0 : IntsAre y0 [a0, a1, a2]) (i1 : IntsAre y1 [b0, b1, b2]) (i2 : IntsAre y2 [c0, c1, c2])
    (hb : ∀ i j : Nat, -1000000 ≤ (([[a0, a1, a2], [b0, b1, b2], [c0, c1, c2]] : List (List Int)).getD i []).getD j 0 ∧ (([[a0, a1, a2], [b0, b1, b2], [c0, c1, c2]] : List (List Int)).getD i []).getD j 0 ≤ 1000000)
    (hQQ : ∀ h' tk m', Fr h₀ L h' m' → QQ (.ret (.bool true)) { s with heap := h', toks := tk })
    (hrest : ∀ s', wpAny (model RP w) (callerA.deeper (lawEnv L fa cd)) (execs retBody (lawEnv L fa cd)) QQ E s' → Q .next s') :
    wpAny (model RP w) (callerA.deeper (lawEnv L fa cd)) (pyIter (.ref r)) (fun it s₂ => LoopAtV RP w (callerA.deeper (lawEnv L fa cd)) h₀ (lawEnv L fa cd) (Str.ofString "t") turnBody Q E it s₂) E s := by
  refine vary_all (Led3 L D R0 R1 R2 y0 y1 y2 o1 o3) psLS (P3 L a0 a1 a2 b0 b1 b2 c0 c1 c2) ⟨A0, (List.replicate (Int.toNat 3) [Value.int 0 tz]).flatten, 0, o4, o5, o6, 0, 3, 0, tc, tl, tt⟩ rfl hr (by decide) (n := 7) (by decide) F (fun p hp => N p (mem_skip hp)) (ps_ok hm1 hm2 hm3) ⟨rfl, rfl, rfl, ?_, d4, ⟨_, d5⟩, ⟨_, d6⟩, neA⟩ ?_ ?_
  · exact .cons _ _ (.cons _ _ (.cons _ _ (.nil)))
  · rintro ⟨sA, sv, sn, o4, o5, o6, code, lack, tot, tc, tl, tt⟩ i t u h tk I o hi ⟨e1, e2, e3, hS, d4, ⟨v5, d5⟩, ⟨v6, d6⟩, hne⟩ F8 N8 off
    dsimp only at e1 e2 e3 hS d4 d5 d6 hne
    subst e1 e2 e3
    rw [Int.add_comm 1 (i : Int)] at F8
    have nI : ∀ p ∈ Led3 L D R0 R1 R2 y0 y1 y2 o1 o3 ⟨sA, sv, sn, o4, o5, o6, gray i, lackF 3 i, totF 3 [[a0, a1, a2], [b0, b1, b2], [c0, c1, c2]] i, tc, tl, tt⟩, p.1 ≠ I := off
    have hbi : ∀ k : Nat, ∀ r : List Int, r = ([[a0, a1, a2], [b0, b1, b2], [c0, c1, c2]] : List (List Int)).getD k [] → -20000000 ≤ rowS r (i + 1) ∧ rowS r (i + 1) ≤ 20000000 := by
      rintro k r rfl
      have := rowS_in (hb k) (i + 1)
      omega
    refine turn3 B X T F8 N8 d1 d3 d4 d5 d6 neD neR0 neR1 neR2 ⟨hne.1, hne.2.1, hne.2.2.1, hne.2.2.2.1, hne.2.2.2.2, Ne.symm (nI _ (.head _))⟩ ⟨nI _ (.tail _ (.tail _ (.tail _ (.tail _ (.tail _ (.head _)))))), nI _ (.tail _ (.tail _ (.tail _ (.tail _ (.tail _ (.tail _ (.head _))))))), nI _ (.tail _ (.tail _ (.tail _ (.tail _ (.tail _ (.tail _ (.tail _ (.head _)))))))), nI _ (.tail _ (.tail _ (.tail _ (.tail _ (.tail _ (.tail _ (.tail _ (.tail _ (.head _))))))))), nI _ (.tail _ (.tail _ (.tail _ (.tail _ (.tail _ (.tail _ (.tail _ (.tail _ (.tail _ (.head _))))))))))⟩ i0 i1 i2 hS hi ⟨(hbi 0 [a0, a1, a2] rfl).1, (hbi 0 [a0, a1, a2] rfl).2, (hbi 1 [b0, b1, b2] rfl).1, (hbi 1 [b0, b1, b2] rfl).2, (hbi 2 [c0, c1, c2] rfl).1, (hbi 2 [c0, c1, c2] rfl).2⟩ ?_
    intro sB zv z0 z1 z2 oM oC oS vM vC tc' tl' tt' h' tk' m' F7 k1 k2 k3 N7 hz dS dM dC e0 e1 e2 neB
    have ez : 1 * z0 * z1 * z2 = prodF (sumsF [[a0, a1, a2], [b0, b1, b2], [c0, c1, c2]] (i + 1)) := by
      rw [sums_rows, e0, e1, e2]
      rfl
    rw [ez] at k3
    refine VEnd.all (P := P3 L a0 a1 a2 b0 b1 b2 c0 c1 c2) ⟨sB, zv, zv.length, oS, oC, oM, gray ((i : Int) + 1), lackF 3 (i + 1), totF 3 [[a0, a1, a2], [b0, b1, b2], [c0, c1, c2]] (i + 1), tc', tl', tt'⟩ F7 N7 (fun p hp => hp) (off_map off (Ne.symm neB.2.2.2.2.2) rfl) (ps_ok k1 k2 k3) ⟨by simp only [Int.natCast_add, Int.natCast_one], rfl, rfl, ?_, dS, ⟨_, dC⟩, ⟨_, dM⟩, neB.1, neB.2.1, neB.2.2.1, neB.2.2.2.1, neB.2.2.2.2.1⟩
    · rw [e0, e1, e2] at hz
      exact hz
  · rintro ⟨sA, sv, sn, o4, o5, o6, code, lack, tot, tc, tl, tt⟩ u h tk ⟨e1, e2, e3, hS, d4, ⟨v5, d5⟩, ⟨v6, d6⟩, hne⟩ F8 N8
    dsimp only at e1 e2 e3 hS d4 d5 d6 hne
    subst e1 e2 e3
    refine hrest _ (ret3 B X T F8 N8 d1 d3 d4 d5 d6 i0 i1 i2 hb (perm3 a0 a1 a2 b0 b1 b2 c0 c1 c2) ?_)
    intro h' tk' m' F7
    exact hQQ h' tk' m' F7
theorem stage3 {D R0 R1 R2 : Addr} {y0 y1 y2 : List Value} {a0 a1 a2 b0 b1 b2 c0 c1 c2 : Int} {o1 o3 o4 o5 o6 : Obj} {v4 v5 v6 : Option Value} {t1 : Tok}
    (B : Below callerA h₀ [] h₀) (F : Fr h₀ L s.heap m) (X : (hd.heap_39 w.params).In h₀) (T : Top hd.view_39 (looseW hd.view_39 []) mean mg mb h₀)
    (N : News h₀ L s.heap [(D, LCg.lst [.ref R0, .ref R1, .ref R2]), (R0, LCg.lst y0), (R1, LCg.lst y1), (R2, LCg.lst y2), (L + 1 + 1 + 1 + 1 + 1 + 1, o6), (L + 1 + 1 + 1 + 1 + 1, o5), (L + 1 + 1 + 1 + 1, o4), (L + 1 + 1 + 1, o3), (L + 1, o1)])
    (d1 : o1.data = .cell (some (.int 3 t1))) (d3 : o3.data = .cell (some (.ref D))) (d4 : o4.data = .cell v4) (d5 : o5.data = .cell v5) (d6 : o6.data = .cell v6)
    (neD : (@Ne Nat (L + 1 + 1 + 1 + 1 + 1 + 1) D) ∧ (@Ne Nat (L + 1 + 1 + 1 + 1 + 1) D) ∧ (@Ne Nat (L + 1 + 1 + 1 + 1) D) ∧ (@Ne Nat (L + 1 + 1 + 1) D) ∧ (@Ne Nat (L + 1) D)) (neR0 : (@Ne Nat (L + 1 + 1 + 1 + 1 + 1 + 1) R0) ∧ (@Ne Nat (L + 1 + 1 + 1 + 1 + 1) R0) ∧ (@Ne Nat (L + 1 + 1 + 1 + 1) R0) ∧ (@Ne Nat (L + 1 + 1 + 1) R0) ∧ (@Ne Nat (L + 1) R0)) (neR1 : (@Ne Nat (L + 1 + 1 + 1 + 1 + 1 + 1) R1) ∧ (@Ne Nat (L + 1 + 1 + 1 + 1 + 1) R1) ∧ (@Ne Nat (L + 1 + 1 + 1 + 1) R1) ∧ (@Ne Nat (L + 1 + 1 + 1) R1) ∧ (@Ne Nat (L + 1) R1)) (neR2 : (@Ne Nat (L + 1 + 1 + 1 + 1 + 1 + 1) R2) ∧ (@Ne Nat (L + 1 + 1 + 1 + 1 + 1) R2) ∧ (@Ne Nat (L + 1 + 1 + 1 + 1) R2) ∧ (@Ne Nat (L + 1 + 1 + 1) R2) ∧ (@Ne Nat (L + 1) R2))
    (i0 : IntsAre y0 [a0, a1, a2]) (i1 : IntsAre y1 [b0, b1, b2]) (i2 : IntsAre y2 [c0, c1, c2])
    (hb : ∀ i j : Nat, -1000000 ≤ (([[a0, a1, a2], [b0, b1, b2], [c0, c1, c2]] : List (List Int)).getD i []).getD j 0 ∧ (([[a0, a1, a2], [b0, b1, b2], [c0, c1, c2]] : List (List Int)).getD i []).getD j 0 ≤ 1000000)
    (hE : PassesOwn (model RP w) (callerA.deeper (lawEnv L fa cd)) (lawEnv L fa cd) E)
    (hQ : ∀ h' tk m', Fr h₀ L h' m' → Q (.ret (.bool true)) { s with heap := h', toks := tk }) :
    wpAny (model RP w) (callerA.deeper (lawEnv L fa cd)) (execs rest7 (lawEnv L fa cd)) Q E s := by
  dsimp only [rest7, lawBody, lastOf, Challenge.pw_rl0013_02, lawEnv, lawScope]
  w_top on
  rcases And.intro neD neD with ⟨⟨nd1, nd2, nd3, nd4, nd5⟩, -⟩
  rcases And.intro neR0 neR0 with ⟨⟨nr01, nr02, nr03, nr04, nr05⟩, -⟩
  rcases And.intro neR1 neR1 with ⟨⟨nr11, nr12, nr13, nr14, nr15⟩, -⟩
  rcases And.intro neR2 neR2 with ⟨⟨nr21, nr22, nr23, nr24, nr25⟩, -⟩
  (k_with "my for" => refine Park.out ?_)
  (k_with "my call" => first | (refine csingle ⟨by k_asm, by k_asm, by k_asm, by k_asm, by k_asm, by first | rfl | assumption, by ktr_room, by ktr_units⟩ ?_; intro h5 tk5 F5 N5) | (refine chigh ⟨by k_asm, by k_asm, by k_asm, by k_asm, by k_asm, by first | rfl | assumption, by ktr_room, by ktr_units⟩ ?_; intro t8 h8 tk8 F8 N8))
  (k_with "my eval" => refine Call_ ?_)
  (k_with "my isnot" => refine isnot_same (by decide) ?_)
  (k_with "my ne" => refine ne_same (by decide) ?_)
  k_steps
  refine ⟨?_⟩
  k_with_none
  (refine For_invVF (by k_asm) (by rfl) (by rfl) ?_ (hE := hE))
  (k_with "my pyIter" => refine Park.out ?_)
  k_steps
  refine ⟨?_⟩
  k_with_none
  (rename IsRange _ _ _ _ _ _ _ _ => R9)
  (rename Fr _ _ _ _ => F9)
  (rename News _ _ _ _ => N9)
  (rename _ = Data.cell (some (.ref _)) => d9)
  (rename _ ∧ _ ∧ _ ∧ _ ∧ _ ∧ _ ∧ _ ∧ _ ∧ _ ∧ _ => l9)
  exact loop3 B X T R9 F9 (by rfl) (by rfl) (by rfl) N9 d1 d3 d9 d5 d6 neD neR0 neR1 neR2 (by obtain ⟨_, _, _, _, _, w6, w5, w4, w3, w1⟩ := l9; exact ⟨Nat.ne_of_lt w6, Nat.ne_of_lt w5, Nat.ne_of_lt w4, Nat.ne_of_lt w3, Nat.ne_of_lt w1⟩) i0 i1 i2 hb hQ (fun _ h => h)
end
end Mine
namespace Mine
open PyProof.V
local macro_rules | `(tactic| walk_at "till pad 8") => `(tactic| fail)
local macro_rules | `(tactic| walk_at "till pad 9") => `(tactic| fail)
local macro_rules | `(tactic| walk_at "exec For Name Call cons nil") => `(tactic| (k_here; k_dflt (k_extra "my for")))
local macro_rules | `(tactic| walk_at "pyIter ref") => `(tactic| k_dflt (k_extra "my pyIter"))
local macro_rules | `(tactic| walk_at "call ref") => `(tactic| k_dflt (k_extra "my call"))
local macro_rules | `(tactic| k_ne) => `(tactic| (refine neN ?_; (try dsimp only); first | assumption | exact Ne.symm (by assumption) | omega))
local macro_rules | `(tactic| walk_at "eval Call") => `(tactic| (k_here; k_dflt (k_extra "my eval")))
local macro_rules | `(tactic| walk_at "compareOp IsNot bool bool") => `(tactic| (k_here; k_dflt (k_extra "my isnot")))
local macro_rules | `(tactic| walk_at "compareOp NotEq int int") => `(tactic| (k_here; k_dflt (k_extra "my ne")))
local macro_rules | `(tactic| walk_at "till nowhere") => `(tactic| fail)
theorem fillS4 : Challenge.rw_rl0013_02 = Challenge.rw_rl0013_02 ∧ hd.heap_39 = hd.heap_39 := by
  k_fill
  exact ⟨rfl, rfl⟩
abbrev Led4 (L D R0 R1 R2 R3 : Addr) (y0 y1 y2 y3 : List Value) (o1 o3 : Obj) (c : LS) : List (Addr × Obj) := [(c.sA, listOf c.sv.toArray c.sn), (D, LCg.lst [.ref R0, .ref R1, .ref R2, .ref R3]), (R0, LCg.lst y0), (R1, LCg.lst y1), (R2, LCg.lst y2), (R3, LCg.lst y3), (L + 1 + 1 + 1 + 1 + 1 + 1, c.o6), (L + 1 + 1 + 1 + 1 + 1, c.o5), (L + 1 + 1 + 1 + 1, c.o4), (L + 1 + 1 + 1, o3), (L + 1, o1)]
abbrev P4 (L : Addr) (a0 a1 a2 a3 b0 b1 b2 b3 c0 c1 c2 c3 j0 j1 j2 j3 : Int) (i : Nat) (c : LS) : Prop := c.code = gray (i : Int) ∧ c.lack = lackF 4 i ∧ c.tot = totF 4 [[a0, a1, a2, a3], [b0, b1, b2, b3], [c0, c1, c2, c3], [j0, j1, j2, j3]] i ∧ IntsAre c.sv [rowS [a0, a1, a2, a3] i, rowS [b0, b1, b2, b3] i, rowS [c0, c1, c2, c3] i, rowS [j0, j1, j2, j3] i] ∧ c.o4.data = .cell (some (.ref c.sA)) ∧ (∃ v, c.o5.data = .cell v) ∧ (∃ v, c.o6.data = .cell v) ∧ (@Ne Nat (L + 1 + 1 + 1 + 1 + 1 + 1) c.sA) ∧ (@Ne Nat (L + 1 + 1 + 1 + 1 + 1) c.sA) ∧ (@Ne Nat (L + 1 + 1 + 1 + 1) c.sA) ∧ (@Ne Nat (L + 1 + 1 + 1) c.sA) ∧ (@Ne Nat (L + 1) c.sA)
section
variable {w : World} {mean : ExcName → Option Value} {mg mb : Str → Option Value} {h₀ : Heap} {L fa : Addr} {cd : Value} {m : Str → Option Value} {s : Shared} {Q : Flow → Shared → Prop} {E : Value → Shared → Prop}
theorem loop4 {D R0 R1 R2 R3 r A0 : Addr} {y0 y1 y2 y3 : List Value} {a0 a1 a2 a3 b0 b1 b2 b3 c0 c1 c2 c3 j0 j1 j2 j3 : Int} {o1 o3 o4 o5 o6 : Obj} {v5 v6 : Option Value} {t1 tz tc tl tt ta tb td : Tok} {x : Addr × Obj} {m₀ : Str → Option Value} {QQ : Flow → Shared → Prop}
    (B : Below callerA h₀ [] h₀) (X : (hd.heap_39 w.params).In h₀) (T : Top hd.view_39 (looseW hd.view_39 []) mean mg mb h₀)
    (hr : IsRange s.heap r 1 (2 ^ Int.toNat 4) 1 ta tb td) (F : Fr h₀ L s.heap m₀) (hm1 : m₀ (Str.ofString "code") = some (.int 0 tc)) (hm2 : m₀ (Str.ofString "lacking") = some (.int 4 tl)) (hm3 : m₀ (Str.ofString "total") = some (.int 0 tt))
    (N : News h₀ L s.heap [(A0, listOf (List.replicate (Int.toNat 4) [Value.int 0 tz]).flatten.toArray 0), x, (D, LCg.lst [.ref R0, .ref R1, .ref R2, .ref R3]), (R0, LCg.lst y0), (R1, LCg.lst y1), (R2, LCg.lst y2), (R3, LCg.lst y3), (L + 1 + 1 + 1 + 1 + 1 + 1, o6), (L + 1 + 1 + 1 + 1 + 1, o5), (L + 1 + 1 + 1 + 1, o4), (L + 1 + 1 + 1, o3), (L + 1, o1)])
    (d1 : o1.data = .cell (some (.int 4 t1))) (d3 : o3.data = .cell (some (.ref D))) (d4 : o4.data = .cell (some (.ref A0))) (d5 : o5.data = .cell v5) (d6 : o6.data = .cell v6)
    (neD : (@Ne Nat (L + 1 + 1 + 1 + 1 + 1 + 1) D) ∧ (@Ne Nat (L + 1 + 1 + 1 + 1 + 1) D) ∧ (@Ne Nat (L + 1 + 1 + 1 + 1) D) ∧ (@Ne Nat (L + 1 + 1 + 1) D) ∧ (@Ne Nat (L + 1) D)) (neR0 : (@Ne Nat (L + 1 + 1 + 1 + 1 + 1 + 1) R0) ∧ (@Ne Nat (L + 1 + 1 + 1 + 1 + 1) R0) ∧ (@Ne Nat (L + 1 + 1 + 1 + 1) R0) ∧ (@Ne Nat (L + 1 + 1 + 1) R0) ∧ (@Ne Nat (L + 1) R0)) (neR1 : (@Ne Nat (L + 1 + 1 + 1 + 1 + 1 + 1) R1) ∧ (@Ne Nat (L + 1 + 1 + 1 + 1 + 1) R1) ∧ (@Ne Nat (L + 1 + 1 + 1 + 1) R1) ∧ (@Ne Nat (L + 1 + 1 + 1) R1) ∧ (@Ne Nat (L + 1) R1)) (neR2 : (@Ne Nat (L + 1 + 1 + 1 + 1 + 1 + 1) R2) ∧ (@Ne Nat (L + 1 + 1 + 1 + 1 + 1) R2) ∧ (@Ne Nat (L + 1 + 1 + 1 + 1) R2) ∧ (@Ne Nat (L + 1 + 1 + 1) R2) ∧ (@Ne Nat (L + 1) R2)) (neR3 : (@Ne Nat (L + 1 + 1 + 1 + 1 + 1 + 1) R3) ∧ (@Ne Nat (L + 1 + 1 + 1 + 1 + 1) R3) ∧ (@Ne Nat (L + 1 + 1 + 1 + 1) R3) ∧ (@Ne Nat (L + 1 + 1 + 1) R3) ∧ (@Ne Nat (L + 1) R3)) (neA : (@Ne Nat (L + 1 + 1 + 1 + 1 + 1 + 1) A0) ∧ (@Ne Nat (L + 1 + 1 + 1 + 1 + 1) A0) ∧ (@Ne Nat (L + 1 + 1 + 1 + 1) A0) ∧ (@Ne Nat (L + 1 + 1 + 1) A0) ∧ (@Ne Nat (L + 1) A0))
    (i0 : IntsAre y0 [a0, a1, a2, a3]) (i1 : IntsAre y1 [b0, b1, b2, b3]) (i2 : IntsAre y2 [c0, c1, c2, c3]) (i3 : IntsAre y3 [j0, j1, j2, j3])
    (hb : ∀ i j : Nat, -1000000 ≤ (([[a0, a1, a2, a3], [b0, b1, b2, b3], [c0, c1, c2, c3], [j0, j1, j2, j3]] : List (List Int)).getD i []).getD j 0 ∧ (([[a0, a1, a2, a3], [b0, b1, b2, b3], [c0, c1, c2, c3], [j0, j1, j2, j3]] : List (List Int)).getD i []).getD j 0 ≤ 1000000)
    (hQQ : ∀ h' tk m', Fr h₀ L h' m' → QQ (.ret (.bool true)) { s with heap := h', toks := tk })
    (hrest : ∀ s', wpAny (model RP w) (callerA.deeper (lawEnv L fa cd)) (execs retBody (lawEnv L fa cd)) QQ E s' → Q .next s') :
    wpAny (model RP w) (callerA.deeper (lawEnv L fa cd)) (pyIter (.ref r)) (fun it s₂ => LoopAtV RP w (callerA.deeper (lawEnv L fa cd)) h₀ (lawEnv L fa cd) (Str.ofString "t") turnBody Q E it s₂) E s := by
  refine vary_all (Led4 L D R0 R1 R2 R3 y0 y1 y2 y3 o1 o3) psLS (P4 L a0 a1 a2 a3 b0 b1 b2 b3 c0 c1 c2 c3 j0 j1 j2 j3) ⟨A0, (List.replicate (Int.toNat 4) [Value.int 0 tz]).flatten, 0, o4, o5, o6, 0, 4, 0, tc, tl, tt⟩ rfl hr (by decide) (n := 15) (by decide) F (fun p hp => N p (mem_skip hp)) (ps_ok hm1 hm2 hm3) ⟨rfl, rfl, rfl, ?_, d4, ⟨_, d5⟩, ⟨_, d6⟩, neA⟩ ?_ ?_
  · exact .cons _ _ (.cons _ _ (.cons _ _ (.cons _ _ (.nil))))
  · rintro ⟨sA, sv, sn, o4, o5, o6, code, lack, tot, tc, tl, tt⟩ i t u h tk I o hi ⟨e1, e2, e3, hS, d4, ⟨v5, d5⟩, ⟨v6, d6⟩, hne⟩ F8 N8 off
    dsimp only at e1 e2 e3 hS d4 d5 d6 hne
    subst e1 e2 e3
    rw [Int.add_comm 1 (i : Int)] at F8
    have nI : ∀ p ∈ Led4 L D R0 R1 R2 R3 y0 y1 y2 y3 o1 o3 ⟨sA, sv, sn, o4, o5, o6, gray i, lackF 4 i, totF 4 [[a0, a1, a2, a3], [b0, b1, b2, b3], [c0, c1, c2, c3], [j0, j1, j2, j3]] i, tc, tl, tt⟩, p.1 ≠ I := off
    have hbi : ∀ k : Nat, ∀ r : List Int, r = ([[a0, a1, a2, a3], [b0, b1, b2, b3], [c0, c1, c2, c3], [j0, j1, j2, j3]] : List (List Int)).getD k [] → -20000000 ≤ rowS r (i + 1) ∧ rowS r (i + 1) ≤ 20000000 := by
      rintro k r rfl
      have := rowS_in (hb k) (i + 1)
      omega
    refine turn4 B X T F8 N8 d1 d3 d4 d5 d6 neD neR0 neR1 neR2 neR3 ⟨hne.1, hne.2.1, hne.2.2.1, hne.2.2.2.1, hne.2.2.2.2, Ne.symm (nI _ (.head _))⟩ ⟨nI _ (.tail _ (.tail _ (.tail _ (.tail _ (.tail _ (.tail _ (.head _))))))), nI _ (.tail _ (.tail _ (.tail _ (.tail _ (.tail _ (.tail _ (.tail _ (.head _)))))))), nI _ (.tail _ (.tail _ (.tail _ (.tail _ (.tail _ (.tail _ (.tail _ (.tail _ (.head _))))))))), nI _ (.tail _ (.tail _ (.tail _ (.tail _ (.tail _ (.tail _ (.tail _ (.tail _ (.tail _ (.head _)))))))))), nI _ (.tail _ (.tail _ (.tail _ (.tail _ (.tail _ (.tail _ (.tail _ (.tail _ (.tail _ (.tail _ (.head _)))))))))))⟩ i0 i1 i2 i3 hS hi ⟨(hbi 0 [a0, a1, a2, a3] rfl).1, (hbi 0 [a0, a1, a2, a3] rfl).2, (hbi 1 [b0, b1, b2, b3] rfl).1, (hbi 1 [b0, b1, b2, b3] rfl).2, (hbi 2 [c0, c1, c2, c3] rfl).1, (hbi 2 [c0, c1, c2, c3] rfl).2, (hbi 3 [j0, j1, j2, j3] rfl).1, (hbi 3 [j0, j1, j2, j3] rfl).2⟩ ?_
    intro sB zv z0 z1 z2 z3 oM oC oS vM vC tc' tl' tt' h' tk' m' F7 k1 k2 k3 N7 hz dS dM dC e0 e1 e2 e3 neB
    have ez : 1 * z0 * z1 * z2 * z3 = prodF (sumsF [[a0, a1, a2, a3], [b0, b1, b2, b3], [c0, c1, c2, c3], [j0, j1, j2, j3]] (i + 1)) := by
      rw [sums_rows, e0, e1, e2, e3]
      rfl
    rw [ez] at k3
    refine VEnd.all (P := P4 L a0 a1 a2 a3 b0 b1 b2 b3 c0 c1 c2 c3 j0 j1 j2 j3) ⟨sB, zv, zv.length, oS, oC, oM, gray ((i : Int) + 1), lackF 4 (i + 1), totF 4 [[a0, a1, a2, a3], [b0, b1, b2, b3], [c0, c1, c2, c3], [j0, j1, j2, j3]] (i + 1), tc', tl', tt'⟩ F7 N7 (fun p hp => hp) (off_map off (Ne.symm neB.2.2.2.2.2) rfl) (ps_ok k1 k2 k3) ⟨by simp only [Int.natCast_add, Int.natCast_one], rfl, rfl, ?_, dS, ⟨_, dC⟩, ⟨_, dM⟩, neB.1, neB.2.1, neB.2.2.1, neB.2.2.2.1, neB.2.2.2.2.1⟩
    · rw [e0, e1, e2, e3] at hz
      exact hz
  · rintro ⟨sA, sv, sn, o4, o5, o6, code, lack, tot, tc, tl, tt⟩ u h tk ⟨e1, e2, e3, hS, d4, ⟨v5, d5⟩, ⟨v6, d6⟩, hne⟩ F8 N8
    dsimp only at e1 e2 e3 hS d4 d5 d6 hne
    subst e1 e2 e3
    refine hrest _ (ret4 B X T F8 N8 d1 d3 d4 d5 d6 i0 i1 i2 i3 hb (perm4 a0 a1 a2 a3 b0 b1 b2 b3 c0 c1 c2 c3 j0 j1 j2 j3) ?_)
    intro h' tk' m' F7
    exact hQQ h' tk' m' F7
theorem stage4 {D R0 R1 R2 R3 : Addr} {y0 y1 y2 y3 : List Value} {a0 a1 a2 a3 b0 b1 b2 b3 c0 c1 c2 c3 j0 j1 j2 j3 : Int} {o1 o3 o4 o5 o6 : Obj} {v4 v5 v6 : Option Value} {t1 : Tok}
    (B : Below callerA h₀ [] h₀) (F : Fr h₀ L s.heap m) (X : (hd.heap_39 w.params).In h₀) (T : Top hd.view_39 (looseW hd.view_39 []) mean mg mb h₀)
    (N : News h₀ L s.heap [(D, LCg.lst [.ref R0, .ref R1, .ref R2, .ref R3]), (R0, LCg.lst y0), (R1, LCg.lst y1), (R2, LCg.lst y2), (R3, LCg.lst y3), (L + 1 + 1 + 1 + 1 + 1 + 1, o6), (L + 1 + 1 + 1 + 1 + 1, o5), (L + 1 + 1 + 1 + 1, o4), (L + 1 + 1 + 1, o3), (L + 1, o1)])
    (d1 : o1.data = .cell (some (.int 4 t1))) (d3 : o3.data = .cell (some (.ref D))) (d4 : o4.data = .cell v4) (d5 : o5.data = .cell v5) (d6 : o6.data = .cell v6)
    (neD : (@Ne Nat (L + 1 + 1 + 1 + 1 + 1 + 1) D) ∧ (@Ne Nat (L + 1 + 1 + 1 + 1 + 1) D) ∧ (@Ne Nat (L + 1 + 1 + 1 + 1) D) ∧ (@Ne Nat (L + 1 + 1 + 1) D) ∧ (@Ne Nat (L + 1) D)) (neR0 : (@Ne Nat (L + 1 + 1 + 1 + 1 + 1 + 1) R0) ∧ (@Ne Nat (L + 1 + 1 + 1 + 1 + 1) R0) ∧ (@Ne Nat (L + 1 + 1 + 1 + 1) R0) ∧ (@Ne Nat (L + 1 + 1 + 1) R0) ∧ (@Ne Nat (L + 1) R0)) (neR1 : (@Ne Nat (L + 1 + 1 + 1 + 1 + 1 + 1) R1) ∧ (@Ne Nat (L + 1 + 1 + 1 + 1 + 1) R1) ∧ (@Ne Nat (L + 1 + 1 + 1 + 1) R1) ∧ (@Ne Nat (L + 1 + 1 + 1) R1) ∧ (@Ne Nat (L + 1) R1)) (neR2 : (@Ne Nat (L + 1 + 1 + 1 + 1 + 1 + 1) R2) ∧ (@Ne Nat (L + 1 + 1 + 1 + 1 + 1) R2) ∧ (@Ne Nat (L + 1 + 1 + 1 + 1) R2) ∧ (@Ne Nat (L + 1 + 1 + 1) R2) ∧ (@Ne Nat (L + 1) R2)) (neR3 : (@Ne Nat (L + 1 + 1 + 1 + 1 + 1 + 1) R3) ∧ (@Ne Nat (L + 1 + 1 + 1 + 1 + 1) R3) ∧ (@Ne Nat (L + 1 + 1 + 1 + 1) R3) ∧ (@Ne Nat (L + 1 + 1 + 1) R3) ∧ (@Ne Nat (L + 1) R3))
    (i0 : IntsAre y0 [a0, a1, a2, a3]) (i1 : IntsAre y1 [b0, b1, b2, b3]) (i2 : IntsAre y2 [c0, c1, c2, c3]) (i3 : IntsAre y3 [j0, j1, j2, j3])
    (hb : ∀ i j : Nat, -1000000 ≤ (([[a0, a1, a2, a3], [b0, b1, b2, b3], [c0, c1, c2, c3], [j0, j1, j2, j3]] : List (List Int)).getD i []).getD j 0 ∧ (([[a0, a1, a2, a3], [b0, b1, b2, b3], [c0, c1, c2, c3], [j0, j1, j2, j3]] : List (List Int)).getD i []).getD j 0 ≤ 1000000)
    (hE : PassesOwn (model RP w) (callerA.deeper (lawEnv L fa cd)) (lawEnv L fa cd) E)
    (hQ : ∀ h' tk m', Fr h₀ L h' m' → Q (.ret (.bool true)) { s with heap := h', toks := tk }) :
    wpAny (model RP w) (callerA.deeper (lawEnv L fa cd)) (execs rest7 (lawEnv L fa cd)) Q E s := by
  dsimp only [rest7, lawBody, lastOf, Challenge.pw_rl0013_02, lawEnv, lawScope]
  w_top on
  rcases And.intro neD neD with ⟨⟨nd1, nd2, nd3, nd4, nd5⟩, -⟩
  rcases And.intro neR0 neR0 with ⟨⟨nr01, nr02, nr03, nr04, nr05⟩, -⟩
  rcases And.intro neR1 neR1 with ⟨⟨nr11, nr12, nr13, nr14, nr15⟩, -⟩
  rcases And.intro neR2 neR2 with ⟨⟨nr21, nr22, nr23, nr24, nr25⟩, -⟩
  rcases And.intro neR3 neR3 with ⟨⟨nr31, nr32, nr33, nr34, nr35⟩, -⟩
  (k_with "my for" => refine Park.out ?_)
  (k_with "my call" => first | (refine csingle ⟨by k_asm, by k_asm, by k_asm, by k_asm, by k_asm, by first | rfl | assumption, by ktr_room, by ktr_units⟩ ?_; intro h5 tk5 F5 N5) | (refine chigh ⟨by k_asm, by k_asm, by k_asm, by k_asm, by k_asm, by first | rfl | assumption, by ktr_room, by ktr_units⟩ ?_; intro t8 h8 tk8 F8 N8))
  (k_with "my eval" => refine Call_ ?_)
  (k_with "my isnot" => refine isnot_same (by decide) ?_)
  (k_with "my ne" => refine ne_same (by decide) ?_)
  k_steps
  refine ⟨?_⟩
  k_with_none
  (refine For_invVF (by k_asm) (by rfl) (by rfl) ?_ (hE := hE))
  (k_with "my pyIter" => refine Park.out ?_)
  k_steps
  refine ⟨?_⟩
  k_with_none
  (rename IsRange _ _ _ _ _ _ _ _ => R9)
  (rename Fr _ _ _ _ => F9)
  (rename News _ _ _ _ => N9)
  (rename _ = Data.cell (some (.ref _)) => d9)
  (rename _ ∧ _ ∧ _ ∧ _ ∧ _ ∧ _ ∧ _ ∧ _ ∧ _ ∧ _ ∧ _ => l9)
  exact loop4 B X T R9 F9 (by rfl) (by rfl) (by rfl) N9 d1 d3 d9 d5 d6 neD neR0 neR1 neR2 neR3 (by obtain ⟨_, _, _, _, _, _, w6, w5, w4, w3, w1⟩ := l9; exact ⟨Nat.ne_of_lt w6, Nat.ne_of_lt w5, Nat.ne_of_lt w4, Nat.ne_of_lt w3, Nat.ne_of_lt w1⟩) i0 i1 i2 i3 hb hQ (fun _ h => h)
end
end Mine
namespace Mine
open PyProof.V
theorem l229b : (Str.ofString "229 (").length = 5 := by decide
theorem lpr2 : (Str.ofString ")").length = 1 := by decide
theorem mul_le (x : Str) (n : Int) : (Txt.mul x n).length ≤ x.length * n.toNat := by
  unfold Txt.mul
  split
  · exact Nat.zero_le _
  · split
    · rename_i h1 h2
      simp only [Bool.or_eq_true, beq_iff_eq] at h2
      rcases h2 with h2 | h2
      · subst h2; simp
      · rw [h2]; simp
    · have : ∀ (n : Nat) (acc : Array Nat), ((List.replicate n x.cps).foldl (· ++ ·) acc).size = acc.size + x.length * n := by
        intro n
        induction n with
        | zero => intro acc; simp
        | succ n ih => intro acc; rw [List.replicate_succ, List.foldl_cons, ih, Array.size_append, Nat.mul_succ]; simp only [Str.length]; omega
      show ((List.replicate n.toNat x.cps).foldl (· ++ ·) #[]).size ≤ _
      rw [this]
      simp
theorem getD_in {ns : List Int} (h : ∀ n ∈ ns, -1000000 ≤ n ∧ n ≤ 1000000) (k : Nat) : -1000000 ≤ ns.getD k 0 ∧ ns.getD k 0 ≤ 1000000 := by
  rw [List.getD_eq_getElem?_getD]
  cases e : ns[k]? with
  | none => simp
  | some x => exact h x (List.mem_of_getElem? e)
theorem rows_in {rows : List (List Int)} (h : ∀ r ∈ rows, ∀ n ∈ r, -1000000 ≤ n ∧ n ≤ 1000000) (i j : Nat) : -1000000 ≤ (rows.getD i []).getD j 0 ∧ (rows.getD i []).getD j 0 ≤ 1000000 := by
  have h2 : ∀ n ∈ rows.getD i [], -1000000 ≤ n ∧ n ≤ 1000000 := by
    rw [List.getD_eq_getElem?_getD]
    cases e : rows[i]? with
    | none => intro n hn; simp at hn
    | some r => exact h r (List.mem_of_getElem? e)
  exact getD_in h2 j
end Mine
namespace Mine
open PyProof.V
def toldBody : List Stmt := match lawBody with
  | _ :: _ :: _ :: _ :: .For _ _ b _ _ :: _ => b
  | _ => []
local macro_rules | `(tactic| k_ne) => `(tactic| (refine neN ?_; (try dsimp only); first | assumption | exact Ne.symm (by assumption) | omega))
local macro_rules | `(tactic| walk_at "VPost") => `(tactic| dsimp only [VPost])
local macro_rules | `(tactic| walk_at "call ref") => `(tactic| k_dflt (k_extra "my call"))
local macro_rules | `(tactic| walk_at "binaryOp Add str str") => `(tactic| (k_here; k_dflt (refine PyProof.Rows.add_str (hsz := by (simp only [Str.length_append, l229b, lpr2]; rw [sizeLine_eq]; omega)) ?_; intro t' tk')))
theorem fillTT : Challenge.rw_rl0013_02 = Challenge.rw_rl0013_02 ∧ hd.heap_39 = hd.heap_39 := by
  k_fill
  exact ⟨rfl, rfl⟩
section
variable {w : World} {mean : ExcName → Option Value} {mg mb : Str → Option Value} {h₀ : Heap} {L fa : Addr} {cd : Value} {s : Shared} {Q : Flow → Shared → Prop} {E : Value → Shared → Prop}
theorem told_turn {n : Nat} {ns : List Int} {ys : List Value} {tA rA : Addr} {o1 o2 o3 o4 o5 o6 : Obj} {u₀ : Str → Option Value}
    (B : Below callerA h₀ [] h₀) (X : (hd.heap_39 w.params).In h₀) (T : Top hd.view_39 (looseW hd.view_39 []) mean mg mb h₀)
    (hn : n ≤ 16) (hlen : ns.length = n) (hin : ∀ n ∈ ns, -1000000 ≤ n ∧ n ≤ 1000000) (hN : IntsAre ys ns) (d2 : o2.data = .cell (some (.ref tA)))
    (hA : (@Ne Nat rA tA) ∧ (@Ne Nat (L + 1 + 1 + 1 + 1 + 1 + 1) tA) ∧ (@Ne Nat (L + 1 + 1 + 1 + 1 + 1) tA) ∧ (@Ne Nat (L + 1 + 1 + 1 + 1) tA) ∧ (@Ne Nat (L + 1 + 1 + 1) tA) ∧ (@Ne Nat (L + 1 + 1) tA) ∧ (@Ne Nat (L + 1) tA))
    (vs : List Value) (nn : Nat) (tl : List (Addr × Obj)) (pre : List Int) (k : Int) (t : Tok) (u : Str → Option Value) (h : Heap) (tk : Nat) (I : Addr) (o : Obj) (hk : k = (pre.length : Int)) (hlt : pre.length < n) (hvl : vs.length = pre.length)
    (hP : ToldP ns [tA, rA, L + 1 + 1 + 1 + 1 + 1 + 1, L + 1 + 1 + 1 + 1 + 1, L + 1 + 1 + 1 + 1, L + 1 + 1 + 1, L + 1 + 1, L + 1] pre (vs, nn, tl))
    (F8 : Fr h₀ L h (fun y => if y = Str.ofString "k" then some (.int k t) else if y = Str.ofString "mark" then u y else if y = Str.ofString "row" then some (.ref rA) else u₀ y))
    (N8 : News h₀ L h ((tA, listOf vs.toArray nn) :: (I, o) :: (rA, LCg.lst ys) :: (L + 1 + 1 + 1 + 1 + 1 + 1, o6) :: (L + 1 + 1 + 1 + 1 + 1, o5) :: (L + 1 + 1 + 1 + 1, o4) :: (L + 1 + 1 + 1, o3) :: (L + 1 + 1, o2) :: (L + 1, o1) :: tl))
    (hO : OwnOff tl [tA, rA, L + 1 + 1 + 1 + 1 + 1 + 1, L + 1 + 1 + 1 + 1 + 1, L + 1 + 1 + 1 + 1, L + 1 + 1 + 1, L + 1 + 1, L + 1, I])
    (hI : @Ne Nat tA I ∧ @Ne Nat rA I ∧ @Ne Nat (L + 1 + 1 + 1 + 1 + 1 + 1) I ∧ @Ne Nat (L + 1 + 1 + 1 + 1 + 1) I ∧ @Ne Nat (L + 1 + 1 + 1 + 1) I ∧ @Ne Nat (L + 1 + 1 + 1) I ∧ @Ne Nat (L + 1 + 1) I ∧ @Ne Nat (L + 1) I) :
    wpAny (model RP w) (callerA.deeper (lawEnv L fa cd)) (execs toldBody (lawEnv L fa cd)) (VPost h₀ L (ToldJ ns (fun y => if y = Str.ofString "row" then some (.ref rA) else u₀ y) tA rA (LCg.lst ys) (L + 1 + 1 + 1 + 1 + 1 + 1, o6) (L + 1 + 1 + 1 + 1 + 1, o5) (L + 1 + 1 + 1 + 1, o4) (L + 1 + 1 + 1, o3) (L + 1 + 1, o2) (L + 1, o1) (pre ++ [k])) I o { s with heap := h, toks := tk } Q) E { s with heap := h, toks := tk } := by
  dsimp only [toldBody, lawBody, lastOf, Challenge.pw_rl0013_02, lawEnv, lawScope]
  w_top on
  dsimp only [ToldP] at hP hO hI
  rcases And.intro hI hI with ⟨⟨hI1, hI2, hI3, hI4, hI5, hI6, hI7, hI8⟩, hI⟩
  obtain ⟨hA1, hA2, hA3, hA4, hA5, hA6, hA7⟩ := hA
  have hvb : vs.toArray.size ≤ 100 := by rw [List.size_toArray]; omega
  have hb := hin _ (List.getElem_mem (l := ns) (n := pre.length) (by omega))
  have hb1 : -1000000 ≤ ns.getD k.toNat 0 := by rw [hk, Int.toNat_natCast, List.getD_eq_getElem?_getD, List.getElem?_eq_getElem (by omega)]; exact hb.1
  have hb2 : ns.getD k.toNat 0 ≤ 1000000 := by rw [hk, Int.toNat_natCast, List.getD_eq_getElem?_getD, List.getElem?_eq_getElem (by omega)]; exact hb.2
  have hk3 : 0 ≤ Int.fmod k 4 := Int.fmod_nonneg_of_pos _ (by decide)
  have hk4 : Int.fmod k 4 < 4 := Int.fmod_lt_of_pos _ (by decide)
  obtain ⟨cm, hcm1, hcm2⟩ := mark_at hk3 hk4
  have hl1 := int_len (n := k) (by omega) (by omega)
  have hl2 := int_len (n := ns.getD k.toNat 0) (by omega) (by omega)
  have hl4 : (Txt.mul (Txt.item (Str.ofString "|!x/") (k.fmod 4)) 2).length ≤ 2 := Nat.le_trans (mul_le _ _) (by show 1 * 2 ≤ 2; omega)
  have hl5 : (Txt.item (Str.ofString "|!x/") (k.fmod 4)).length = 1 := rfl
  (k_with "my call" => (refine c229 ⟨by k_asm, by k_asm, by k_asm, by k_asm, by k_asm, by first | rfl | assumption, by ktr_room, by ktr_units⟩ (reply_plain hcm1 hcm2 (by omega) (by omega)) (by (simp only [Str.length_append, l229b, lpr2]; omega)) ?_; intro D8 t9 h9 tk9 F7 N7 lt8 lt9; (simp only [AllLt] at lt9)))
  k_steps
  k_with_none
  obtain ⟨g1, g2, g3, g4, g5, g6, g7, g8, g9, _⟩ := lt9
  (refine told_end (nn := nn) (by k_asm) (by k_asm) hP (by omega) (by rw [hk, Int.toNat_natCast]) hO hI ⟨Nat.ne_of_lt g1, Nat.ne_of_lt g3, Nat.ne_of_lt g4, Nat.ne_of_lt g5, Nat.ne_of_lt g6, Nat.ne_of_lt g7, Nat.ne_of_lt g8, Nat.ne_of_lt g9, Nat.ne_of_lt g2⟩ ?_)
  intro z h1 h2
  simp only [if_neg h1, if_neg h2]
end
end Mine
namespace Mine
open PyProof.V
section
variable {w : World} {mean : ExcName → Option Value} {mg mb : Str → Option Value} {h₀ : Heap} {L fa : Addr} {cd : Value} {m : Str → Option Value} {s : Shared} {Q : Flow → Shared → Prop} {Q₀ : Unit → Shared → Prop} {E : Value → Shared → Prop}
theorem table3 {D R0 R1 R2 : Addr} {y0 y1 y2 : List Value} {ns : List Int} {o1 o3 o4 o5 o6 : Obj} {v3 v4 v5 v6 : Option Value} {t1 : Tok} {x1 x2 x3 x4 : Addr × Obj} {tl : List (Addr × Obj)}
    (B : Below callerA h₀ [] h₀) (F : Fr h₀ L s.heap m) (X : (hd.heap_39 w.params).In h₀) (T : Top hd.view_39 (looseW hd.view_39 []) mean mg mb h₀)
    (N : News h₀ L s.heap ((D, LCg.lst [.ref R0, .ref R1, .ref R2]) :: (R2, LCg.lst y2) :: (R1, LCg.lst y1) :: (R0, LCg.lst y0) :: x1 :: x2 :: x3 :: (L + 1 + 1 + 1 + 1 + 1 + 1, o6) :: (L + 1 + 1 + 1 + 1 + 1, o5) :: (L + 1 + 1 + 1 + 1, o4) :: (L + 1 + 1 + 1, o3) :: x4 :: (L + 1, o1) :: tl))
    (d1 : o1.data = .cell (some (.int 3 t1))) (d3 : o3.data = .cell v3) (d4 : o4.data = .cell v4) (d5 : o5.data = .cell v5) (d6 : o6.data = .cell v6)
    (neD : (@Ne Nat (L + 1 + 1 + 1 + 1 + 1 + 1) D) ∧ (@Ne Nat (L + 1 + 1 + 1 + 1 + 1) D) ∧ (@Ne Nat (L + 1 + 1 + 1 + 1) D) ∧ (@Ne Nat (L + 1 + 1 + 1) D) ∧ (@Ne Nat (L + 1) D)) (neR0 : (@Ne Nat (L + 1 + 1 + 1 + 1 + 1 + 1) R0) ∧ (@Ne Nat (L + 1 + 1 + 1 + 1 + 1) R0) ∧ (@Ne Nat (L + 1 + 1 + 1 + 1) R0) ∧ (@Ne Nat (L + 1 + 1 + 1) R0) ∧ (@Ne Nat (L + 1) R0)) (neR1 : (@Ne Nat (L + 1 + 1 + 1 + 1 + 1 + 1) R1) ∧ (@Ne Nat (L + 1 + 1 + 1 + 1 + 1) R1) ∧ (@Ne Nat (L + 1 + 1 + 1 + 1) R1) ∧ (@Ne Nat (L + 1 + 1 + 1) R1) ∧ (@Ne Nat (L + 1) R1)) (neR2 : (@Ne Nat (L + 1 + 1 + 1 + 1 + 1 + 1) R2) ∧ (@Ne Nat (L + 1 + 1 + 1 + 1 + 1) R2) ∧ (@Ne Nat (L + 1 + 1 + 1 + 1) R2) ∧ (@Ne Nat (L + 1 + 1 + 1) R2) ∧ (@Ne Nat (L + 1) R2))
    (i0 : IntsAre y0 (List.map (fun k' : Int => if k' < 3 then ns.getD ((0 + ((0 : Nat) : Int)) * 3 + k').toNat 0 else k') (rangeKs 0 (Int.toNat (3 - 0))))) (i1 : IntsAre y1 (List.map (fun k' : Int => if k' < 3 then ns.getD ((0 + ((0 + 1 : Nat) : Int)) * 3 + k').toNat 0 else k') (rangeKs 0 (Int.toNat (3 - 0))))) (i2 : IntsAre y2 (List.map (fun k' : Int => if k' < 3 then ns.getD ((0 + ((0 + 1 + 1 : Nat) : Int)) * 3 + k').toNat 0 else k') (rangeKs 0 (Int.toNat (3 - 0)))))
    (hin : ∀ n ∈ ns, -1000000 ≤ n ∧ n ≤ 1000000)
    (hE : PassesOwn (model RP w) (callerA.deeper (lawEnv L fa cd)) (lawEnv L fa cd) E)
    (hQ : ∀ h' tk m', Fr h₀ L h' m' → Q (.ret (.bool true)) { s with heap := h', toks := tk })
    (hrest : ∀ s', wpAny (model RP w) (callerA.deeper (lawEnv L fa cd)) (execs rest7 (lawEnv L fa cd)) Q E s' → Q₀ () s') :
    wpAny (model RP w) (callerA.deeper (lawEnv L fa cd)) (storeName (lawEnv L fa cd) (Str.ofString "table") (.ref D)) Q₀ E s := by
  have hm3 : (L + 1 + 1 + 1, o3) ∈ (D, LCg.lst [.ref R0, .ref R1, .ref R2]) :: (R2, LCg.lst y2) :: (R1, LCg.lst y1) :: (R0, LCg.lst y0) :: x1 :: x2 :: x3 :: (L + 1 + 1 + 1 + 1 + 1 + 1, o6) :: (L + 1 + 1 + 1 + 1 + 1, o5) :: (L + 1 + 1 + 1 + 1, o4) :: (L + 1 + 1 + 1, o3) :: x4 :: (L + 1, o1) :: tl := .tail _ (.tail _ (.tail _ (.tail _ (.tail _ (.tail _ (.tail _ (.tail _ (.tail _ (.tail _ (.head _))))))))))
  have hKL := (N _ hm3).2.1
  have hK0 := (N _ hm3).2.2
  refine wpAny_storeName_cell (c := L + 1 + 1 + 1) (v₀ := v3) (by rfl) (by rfl) (by rfl) ⟨o3, (N _ hm3).1, d3⟩ (fun h' hc hs => hrest _ ?_)
  obtain ⟨oK, hoK, hKd⟩ := hc
  have keep : ∀ p ∈ (D, LCg.lst [.ref R0, .ref R1, .ref R2]) :: (R2, LCg.lst y2) :: (R1, LCg.lst y1) :: (R0, LCg.lst y0) :: x1 :: x2 :: x3 :: (L + 1 + 1 + 1 + 1 + 1 + 1, o6) :: (L + 1 + 1 + 1 + 1 + 1, o5) :: (L + 1 + 1 + 1 + 1, o4) :: (L + 1 + 1 + 1, o3) :: x4 :: (L + 1, o1) :: tl, @Ne Nat p.1 (L + 1 + 1 + 1) → h'.get? p.1 = some p.2 ∧ p.1 ≠ L ∧ h₀.get? p.1 = none := fun p hp hne => ⟨hs.extBut _ _ hne (N p hp).1, (N p hp).2⟩
  have N' : News h₀ L h' [(D, LCg.lst [.ref R0, .ref R1, .ref R2]), (R0, LCg.lst y0), (R1, LCg.lst y1), (R2, LCg.lst y2), (L + 1 + 1 + 1 + 1 + 1 + 1, o6), (L + 1 + 1 + 1 + 1 + 1, o5), (L + 1 + 1 + 1 + 1, o4), (L + 1 + 1 + 1, oK), (L + 1, o1)] := by
    intro p hp
    simp only [List.mem_cons, List.not_mem_nil, or_false] at hp
    rcases hp with rfl | rfl | rfl | rfl | rfl | rfl | rfl | rfl | rfl
    · exact keep _ (.head _) (Ne.symm neD.2.2.2.1)
    · exact keep _ (.tail _ (.tail _ (.tail _ (.head _)))) (Ne.symm neR0.2.2.2.1)
    · exact keep _ (.tail _ (.tail _ (.head _))) (Ne.symm neR1.2.2.2.1)
    · exact keep _ (.tail _ (.head _)) (Ne.symm neR2.2.2.2.1)
    · exact keep _ (.tail _ (.tail _ (.tail _ (.tail _ (.tail _ (.tail _ (.tail _ (.head _)))))))) (by dsimp only; first | exact neN (by omega) | omega)
    · exact keep _ (.tail _ (.tail _ (.tail _ (.tail _ (.tail _ (.tail _ (.tail _ (.tail _ (.head _))))))))) (by dsimp only; first | exact neN (by omega) | omega)
    · exact keep _ (.tail _ (.tail _ (.tail _ (.tail _ (.tail _ (.tail _ (.tail _ (.tail _ (.tail _ (.head _)))))))))) (by dsimp only; first | exact neN (by omega) | omega)
    · exact ⟨hoK, hKL, hK0⟩
    · exact keep _ (.tail _ (.tail _ (.tail _ (.tail _ (.tail _ (.tail _ (.tail _ (.tail _ (.tail _ (.tail _ (.tail _ (.tail _ (.head _))))))))))))) (by dsimp only; first | exact neN (by omega) | omega)
  have e0 : (List.map (fun k' : Int => if k' < 3 then ns.getD ((0 + ((0 : Nat) : Int)) * 3 + k').toNat 0 else k') (rangeKs 0 (Int.toNat (3 - 0)))) = [ns.getD 0 0, ns.getD 1 0, ns.getD 2 0] := by rfl
  have e1 : (List.map (fun k' : Int => if k' < 3 then ns.getD ((0 + ((0 + 1 : Nat) : Int)) * 3 + k').toNat 0 else k') (rangeKs 0 (Int.toNat (3 - 0)))) = [ns.getD 3 0, ns.getD 4 0, ns.getD 5 0] := by rfl
  have e2 : (List.map (fun k' : Int => if k' < 3 then ns.getD ((0 + ((0 + 1 + 1 : Nat) : Int)) * 3 + k').toNat 0 else k') (rangeKs 0 (Int.toNat (3 - 0)))) = [ns.getD 6 0, ns.getD 7 0, ns.getD 8 0] := by rfl
  rw [e0] at i0
  rw [e1] at i1
  rw [e2] at i2
  refine stage3 B (F.change hs hKL hK0) X T N' d1 hKd d4 d5 d6 neD neR0 neR1 neR2 i0 i1 i2 (rows_in ?_) hE (fun h' tk m' F' => hQ h' tk m' F')
  intro r hr n hn
  simp only [List.mem_cons, List.not_mem_nil, or_false] at hr
  rcases hr with rfl | rfl | rfl <;> (simp only [List.mem_cons, List.not_mem_nil, or_false] at hn; rcases hn with rfl | rfl | rfl <;> exact getD_in hin _)
end
end Mine
namespace Mine
open PyProof.V
section
variable {w : World} {mean : ExcName → Option Value} {mg mb : Str → Option Value} {h₀ : Heap} {L fa : Addr} {cd : Value} {m : Str → Option Value} {s : Shared} {Q : Flow → Shared → Prop} {Q₀ : Unit → Shared → Prop} {E : Value → Shared → Prop}
theorem table4 {D R0 R1 R2 R3 : Addr} {y0 y1 y2 y3 : List Value} {ns : List Int} {o1 o3 o4 o5 o6 : Obj} {v3 v4 v5 v6 : Option Value} {t1 : Tok} {x1 x2 x3 x4 : Addr × Obj} {tl : List (Addr × Obj)}
    (B : Below callerA h₀ [] h₀) (F : Fr h₀ L s.heap m) (X : (hd.heap_39 w.params).In h₀) (T : Top hd.view_39 (looseW hd.view_39 []) mean mg mb h₀)
    (N : News h₀ L s.heap ((D, LCg.lst [.ref R0, .ref R1, .ref R2, .ref R3]) :: (R3, LCg.lst y3) :: (R2, LCg.lst y2) :: (R1, LCg.lst y1) :: (R0, LCg.lst y0) :: x1 :: x2 :: x3 :: (L + 1 + 1 + 1 + 1 + 1 + 1, o6) :: (L + 1 + 1 + 1 + 1 + 1, o5) :: (L + 1 + 1 + 1 + 1, o4) :: (L + 1 + 1 + 1, o3) :: x4 :: (L + 1, o1) :: tl))
    (d1 : o1.data = .cell (some (.int 4 t1))) (d3 : o3.data = .cell v3) (d4 : o4.data = .cell v4) (d5 : o5.data = .cell v5) (d6 : o6.data = .cell v6)
    (neD : (@Ne Nat (L + 1 + 1 + 1 + 1 + 1 + 1) D) ∧ (@Ne Nat (L + 1 + 1 + 1 + 1 + 1) D) ∧ (@Ne Nat (L + 1 + 1 + 1 + 1) D) ∧ (@Ne Nat (L + 1 + 1 + 1) D) ∧ (@Ne Nat (L + 1) D)) (neR0 : (@Ne Nat (L + 1 + 1 + 1 + 1 + 1 + 1) R0) ∧ (@Ne Nat (L + 1 + 1 + 1 + 1 + 1) R0) ∧ (@Ne Nat (L + 1 + 1 + 1 + 1) R0) ∧ (@Ne Nat (L + 1 + 1 + 1) R0) ∧ (@Ne Nat (L + 1) R0)) (neR1 : (@Ne Nat (L + 1 + 1 + 1 + 1 + 1 + 1) R1) ∧ (@Ne Nat (L + 1 + 1 + 1 + 1 + 1) R1) ∧ (@Ne Nat (L + 1 + 1 + 1 + 1) R1) ∧ (@Ne Nat (L + 1 + 1 + 1) R1) ∧ (@Ne Nat (L + 1) R1)) (neR2 : (@Ne Nat (L + 1 + 1 + 1 + 1 + 1 + 1) R2) ∧ (@Ne Nat (L + 1 + 1 + 1 + 1 + 1) R2) ∧ (@Ne Nat (L + 1 + 1 + 1 + 1) R2) ∧ (@Ne Nat (L + 1 + 1 + 1) R2) ∧ (@Ne Nat (L + 1) R2)) (neR3 : (@Ne Nat (L + 1 + 1 + 1 + 1 + 1 + 1) R3) ∧ (@Ne Nat (L + 1 + 1 + 1 + 1 + 1) R3) ∧ (@Ne Nat (L + 1 + 1 + 1 + 1) R3) ∧ (@Ne Nat (L + 1 + 1 + 1) R3) ∧ (@Ne Nat (L + 1) R3))
    (i0 : IntsAre y0 (List.map (fun k' : Int => if k' < 4 then ns.getD ((0 + ((0 : Nat) : Int)) * 4 + k').toNat 0 else k') (rangeKs 0 (Int.toNat (4 - 0))))) (i1 : IntsAre y1 (List.map (fun k' : Int => if k' < 4 then ns.getD ((0 + ((0 + 1 : Nat) : Int)) * 4 + k').toNat 0 else k') (rangeKs 0 (Int.toNat (4 - 0))))) (i2 : IntsAre y2 (List.map (fun k' : Int => if k' < 4 then ns.getD ((0 + ((0 + 1 + 1 : Nat) : Int)) * 4 + k').toNat 0 else k') (rangeKs 0 (Int.toNat (4 - 0))))) (i3 : IntsAre y3 (List.map (fun k' : Int => if k' < 4 then ns.getD ((0 + ((0 + 1 + 1 + 1 : Nat) : Int)) * 4 + k').toNat 0 else k') (rangeKs 0 (Int.toNat (4 - 0)))))
    (hin : ∀ n ∈ ns, -1000000 ≤ n ∧ n ≤ 1000000)
    (hE : PassesOwn (model RP w) (callerA.deeper (lawEnv L fa cd)) (lawEnv L fa cd) E)
    (hQ : ∀ h' tk m', Fr h₀ L h' m' → Q (.ret (.bool true)) { s with heap := h', toks := tk })
    (hrest : ∀ s', wpAny (model RP w) (callerA.deeper (lawEnv L fa cd)) (execs rest7 (lawEnv L fa cd)) Q E s' → Q₀ () s') :
    wpAny (model RP w) (callerA.deeper (lawEnv L fa cd)) (storeName (lawEnv L fa cd) (Str.ofString "table") (.ref D)) Q₀ E s := by
  have hm3 : (L + 1 + 1 + 1, o3) ∈ (D, LCg.lst [.ref R0, .ref R1, .ref R2, .ref R3]) :: (R3, LCg.lst y3) :: (R2, LCg.lst y2) :: (R1, LCg.lst y1) :: (R0, LCg.lst y0) :: x1 :: x2 :: x3 :: (L + 1 + 1 + 1 + 1 + 1 + 1, o6) :: (L + 1 + 1 + 1 + 1 + 1, o5) :: (L + 1 + 1 + 1 + 1, o4) :: (L + 1 + 1 + 1, o3) :: x4 :: (L + 1, o1) :: tl := .tail _ (.tail _ (.tail _ (.tail _ (.tail _ (.tail _ (.tail _ (.tail _ (.tail _ (.tail _ (.tail _ (.head _)))))))))))
  have hKL := (N _ hm3).2.1
  have hK0 := (N _ hm3).2.2
  refine wpAny_storeName_cell (c := L + 1 + 1 + 1) (v₀ := v3) (by rfl) (by rfl) (by rfl) ⟨o3, (N _ hm3).1, d3⟩ (fun h' hc hs => hrest _ ?_)
  obtain ⟨oK, hoK, hKd⟩ := hc
  have keep : ∀ p ∈ (D, LCg.lst [.ref R0, .ref R1, .ref R2, .ref R3]) :: (R3, LCg.lst y3) :: (R2, LCg.lst y2) :: (R1, LCg.lst y1) :: (R0, LCg.lst y0) :: x1 :: x2 :: x3 :: (L + 1 + 1 + 1 + 1 + 1 + 1, o6) :: (L + 1 + 1 + 1 + 1 + 1, o5) :: (L + 1 + 1 + 1 + 1, o4) :: (L + 1 + 1 + 1, o3) :: x4 :: (L + 1, o1) :: tl, @Ne Nat p.1 (L + 1 + 1 + 1) → h'.get? p.1 = some p.2 ∧ p.1 ≠ L ∧ h₀.get? p.1 = none := fun p hp hne => ⟨hs.extBut _ _ hne (N p hp).1, (N p hp).2⟩
  have N' : News h₀ L h' [(D, LCg.lst [.ref R0, .ref R1, .ref R2, .ref R3]), (R0, LCg.lst y0), (R1, LCg.lst y1), (R2, LCg.lst y2), (R3, LCg.lst y3), (L + 1 + 1 + 1 + 1 + 1 + 1, o6), (L + 1 + 1 + 1 + 1 + 1, o5), (L + 1 + 1 + 1 + 1, o4), (L + 1 + 1 + 1, oK), (L + 1, o1)] := by
    intro p hp
    simp only [List.mem_cons, List.not_mem_nil, or_false] at hp
    rcases hp with rfl | rfl | rfl | rfl | rfl | rfl | rfl | rfl | rfl | rfl
    · exact keep _ (.head _) (Ne.symm neD.2.2.2.1)
    · exact keep _ (.tail _ (.tail _ (.tail _ (.tail _ (.head _))))) (Ne.symm neR0.2.2.2.1)
    · exact keep _ (.tail _ (.tail _ (.tail _ (.head _)))) (Ne.symm neR1.2.2.2.1)
    · exact keep _ (.tail _ (.tail _ (.head _))) (Ne.symm neR2.2.2.2.1)
    · exact keep _ (.tail _ (.head _)) (Ne.symm neR3.2.2.2.1)
    · exact keep _ (.tail _ (.tail _ (.tail _ (.tail _ (.tail _ (.tail _ (.tail _ (.tail _ (.head _))))))))) (by dsimp only; first | exact neN (by omega) | omega)
    · exact keep _ (.tail _ (.tail _ (.tail _ (.tail _ (.tail _ (.tail _ (.tail _ (.tail _ (.tail _ (.head _)))))))))) (by dsimp only; first | exact neN (by omega) | omega)
    · exact keep _ (.tail _ (.tail _ (.tail _ (.tail _ (.tail _ (.tail _ (.tail _ (.tail _ (.tail _ (.tail _ (.head _))))))))))) (by dsimp only; first | exact neN (by omega) | omega)
    · exact ⟨hoK, hKL, hK0⟩
    · exact keep _ (.tail _ (.tail _ (.tail _ (.tail _ (.tail _ (.tail _ (.tail _ (.tail _ (.tail _ (.tail _ (.tail _ (.tail _ (.tail _ (.head _)))))))))))))) (by dsimp only; first | exact neN (by omega) | omega)
  have e0 : (List.map (fun k' : Int => if k' < 4 then ns.getD ((0 + ((0 : Nat) : Int)) * 4 + k').toNat 0 else k') (rangeKs 0 (Int.toNat (4 - 0)))) = [ns.getD 0 0, ns.getD 1 0, ns.getD 2 0, ns.getD 3 0] := by rfl
  have e1 : (List.map (fun k' : Int => if k' < 4 then ns.getD ((0 + ((0 + 1 : Nat) : Int)) * 4 + k').toNat 0 else k') (rangeKs 0 (Int.toNat (4 - 0)))) = [ns.getD 4 0, ns.getD 5 0, ns.getD 6 0, ns.getD 7 0] := by rfl
  have e2 : (List.map (fun k' : Int => if k' < 4 then ns.getD ((0 + ((0 + 1 + 1 : Nat) : Int)) * 4 + k').toNat 0 else k') (rangeKs 0 (Int.toNat (4 - 0)))) = [ns.getD 8 0, ns.getD 9 0, ns.getD 10 0, ns.getD 11 0] := by rfl
  have e3 : (List.map (fun k' : Int => if k' < 4 then ns.getD ((0 + ((0 + 1 + 1 + 1 : Nat) : Int)) * 4 + k').toNat 0 else k') (rangeKs 0 (Int.toNat (4 - 0)))) = [ns.getD 12 0, ns.getD 13 0, ns.getD 14 0, ns.getD 15 0] := by rfl
  rw [e0] at i0
  rw [e1] at i1
  rw [e2] at i2
  rw [e3] at i3
  refine stage4 B (F.change hs hKL hK0) X T N' d1 hKd d4 d5 d6 neD neR0 neR1 neR2 neR3 i0 i1 i2 i3 (rows_in ?_) hE (fun h' tk m' F' => hQ h' tk m' F')
  intro r hr n hn
  simp only [List.mem_cons, List.not_mem_nil, or_false] at hr
  rcases hr with rfl | rfl | rfl | rfl <;> (simp only [List.mem_cons, List.not_mem_nil, or_false] at hn; rcases hn with rfl | rfl | rfl | rfl <;> exact getD_in hin _)
end
end Mine
namespace Mine
open PyProof.V
local macro_rules | `(tactic| walk_at "pyIter ref") => `(tactic| k_dflt (k_extra "my pyIter"))
local macro_rules | `(tactic| k_ne) => `(tactic| (refine neN ?_; (try dsimp only); first | assumption | exact Ne.symm (by assumption) | omega))
local macro_rules | `(tactic| walk_at "VPost") => `(tactic| dsimp only [VPost])
local macro_rules | `(tactic| walk_at "call ref") => `(tactic| k_dflt (k_extra "my call"))
local macro_rules | `(tactic| walk_at "binaryOp Add str str") => `(tactic| (k_here; k_dflt (refine PyProof.Rows.add_str (hsz := by (simp only [Str.length_append, l229b, lpr2]; rw [sizeLine_eq]; omega)) ?_; intro t' tk')))
local macro_rules | `(tactic| walk_at "subscriptTail Name Slice ref ref") => `(tactic| (k_here; k_dflt (refine' kmk_slice_ints ?F ?N ?l ?p ?q ?i ?m ?c ?_ ?s ?t ?z; (case F => k_asm); (case N => k_asm); (case l => kmk_list); (case p => kmk_part); (case q => kmk_part); (case i => l_ints); (case m => first | exact kmk_from (by l_ints) (Int.natCast_nonneg _) | exact kmk_upto (by l_ints) (by decide)); (case c => kmk_len); (case s => with_unfolding_all rfl); (case t => kmk_pure); (case z => kmk_size)); intro D' ws' h' F' N' l1 hI' hC' hL'; (try k_lt l1); (try k_sweep)))
local macro_rules | `(tactic| walk_at "call type:str") => `(tactic| (k_here; (with_reducible show wpAny _ _ (call (Value.type "str") [Value.ref _]) _ _ _); k_dflt (k_extra "my str")))
local macro_rules | `(tactic| walk_at "compareOp NotEq str str") => `(tactic| (k_here; k_dflt (refine ne_strs ?_)))
local macro_rules | `(tactic| walk_at "CompSrc") => `(tactic| (k_here; k_dflt (k_extra "my src")))
local macro_rules | `(tactic| walk_at "CompEnd") => `(tactic| (k_here; k_dflt (k_extra "my cend")))
local macro_rules | `(tactic| walk_at "eval ListComp ListComp") => `(tactic| (k_here; k_dflt (k_extra "my park")))
local macro_rules | `(tactic| walk_at "SrcX") => `(tactic| (k_here; k_dflt (k_extra "my srcx")))
local macro_rules | `(tactic| walk_at "EndX") => `(tactic| (k_here; k_dflt (k_extra "my endx")))
local macro_rules | `(tactic| walk_at "subscriptTail Name BinOp") => `(tactic| (k_here; k_dflt (k_extra "my told")))
local macro_rules | `(tactic| walk_at "subscriptTail Subscript") => `(tactic| (k_here; k_dflt (k_extra "my tup")))
local macro_rules | `(tactic| walk_at "KCfEl") => `(tactic| (k_dflt (k_extra "my kcf")))
local macro_rules | `(tactic| walk_at "storeName ref") => `(tactic| k_dflt (k_extra "my sref"))
local macro_rules | `(tactic| walk_at "execs cons") => `(tactic| k_dflt (k_extra "my execs"))
local macro_rules | `(tactic| walk_at "storeName int") => `(tactic| k_dflt (k_extra "my store"))
theorem t : PySem.Challenge.rw_rl0013_02.Holds := by
  w_on
  refine hd ?_
  k_go0
  (all_goals try k_fold)
  (k_with "my store" => refine Park.out ?_)
  k_steps
  refine ⟨?_⟩
  k_with_none
  rename List Int => script
  rcases two_cases script.length with h2 | h2
  · rw [h2, show (3 : Int) + 0 = 3 from rfl]
    k_with_none
    (k_with "my pyIter" => refine Park.out ?_)
    k_steps
    refine ⟨?_⟩
    k_with_none
    rename IntsAre _ (List.map _ _) => hN
    have hlen := row_len script 9 (by decide)
    have hin := row_in script 9
    generalize hns : List.map _ (List.take (3 * 3 : Int).toNat _) = ns at hN
    have hns' : List.map (fun k' => (k' + 1000000).fmod 2000001 - 1000000) (List.take 9 (List.take 16 script ++ [3, -1, 4, 1, -5, 9, 2, 6, -5, 3, 5, 8, -9, 7, 9, 3])) = ns := hns
    rw [hns'] at hlen hin
    clear hns' hns
    rename News _ _ _ _ => N9
    rename Fr _ _ _ _ => F9
    rename IsRange _ _ _ _ _ _ _ _ => R9
    refine told_loop 9 ns (by rfl) rfl R9 rfl rfl F9 N9 hlen ?_ ?_
    · (rename (@LT.lt Nat _ _ _) ∧ (@LT.lt Nat _ _ _) ∧ (@LT.lt Nat _ _ _) ∧ (@LT.lt Nat _ _ _) ∧ (@LT.lt Nat _ _ _) ∧ (@LT.lt Nat _ _ _) ∧ (@LT.lt Nat _ _ _) ∧ (@LT.lt Nat _ _ _) ∧ (@LT.lt Nat _ _ _) ∧ (@LT.lt Nat _ _ _) ∧ (@LT.lt Nat _ _ _) => l9)
      obtain ⟨g1, _, _, _, _, g6, g5, g4, g3, g2, g0⟩ := l9
      exact told_turn (by k_asm) (by k_asm) (by k_asm) (by decide) hlen hin hN (by assumption) ⟨Nat.ne_of_lt g1, Nat.ne_of_lt g6, Nat.ne_of_lt g5, Nat.ne_of_lt g4, Nat.ne_of_lt g3, Nat.ne_of_lt g2, Nat.ne_of_lt g0⟩
    · intro vs nn tl u h tk hvl hT hO F8 N8
      clear N9 F9 R9
      k_with_none
      (k_with "my str" => (refine str_told (by k_asm) (by k_asm) (told_via (by k_mem) (by intro p hp; k_ownIn) hT) (by omega) hin (by exact rfl) (by ktr_units) ?_; intro h' u' tk' F' N'))
      (k_with "my src" => (refine LCg.CompSrc.ledger (by rfl) (by k_asm) (by k_asm) (by k_mem) (by kcf_size) ?_; intro g'; (refine tup_rest [_, _, _, _, _, _, _, _] hN ?_ ?_); (intro k' t' I' oI' C' oC' D' m' ys' tl' h' tk' E' hk' hC' hx' F' N' off' ne'; (simp only [List.cons_append, List.nil_append] at N' off')); rotate_left; (intro ysT tl2 hT2 hsub; (replace hT := hT.mono hsub)); rotate_left))
      (k_with "my cend" => (refine tup_end (fx := [_, _, _, _, _, _, _, _]) (by k_asm) (by k_asm) off' (by omega) (by lcg_src)))
      (k_with "my str" => (refine str_told (by k_asm) (by k_asm) (told_via (by k_mem) (by intro p hp; k_ownIn) hT2) (by omega) hin (by exact rfl) (by ktr_units) ?_; intro h' u' tk' F' N'))
      (k_with "my park" => refine Park.out ?_)
      k_steps
      refine ⟨?_⟩
      k_with_none
      (refine ListComp_X (by k_asm) (by with_unfolding_all rfl) (fun _ => rfl) (fun _ => rfl) (by rfl) (by decide) (by rfl) ?_)
      (k_with "my told" => ((rename (_ : Int) < 0 + ((Int.toNat (3 - 0) : Nat) : Int) => hh9); (have hh8 : _ < (3 : Int) := hh9); clear hh9; refine told_item (by k_asm) (by k_mem) (by intro p hp; k_ownIn) hT (by omega) (by omega) (by omega) ?_; intro aT t1T t3T hmT))
      (k_with "my tup" => refine tup_one (by k_asm) hmT ?_)
      (k_with "my srcx" => (refine SrcX.range (by rfl) (by k_asm) (by k_asm) (by assumption) (by decide) (n := 3) (by rfl) (by rw [sizeLine_eq]; decide) ?_; intro g'; (intro v' I' oI' C' oC' K' oK' D' h' tk' E' hv' hK' F' N' off0 ap'); (obtain ⟨tv', rfl⟩ := hv')))
      (k_with "my kcf" => exact ⟨rfl, _, rfl⟩)
      (k_with "my endx" => (refine endx_one (by k_asm) (by k_asm) off0 (by k_asm) trivial ?_; clear off0; first | (refine RestX.zero ?_; intro D9 h9 tk9 F9 N9 o9; (simp only [LCg.Off1] at o9)) | ((intro v' I' oI' C' oC' K' oK' D' h' tk' E' hv' hK' F' N' off0 ap'); (obtain ⟨tv', rfl⟩ := hv'))))
      (k_with "my sref" => refine Park.out ?_)
      k_steps
      refine ⟨?_⟩
      k_with_none
      obtain ⟨_, _, _, _, _, _, a6, a5, a4, a3, _, a1, _⟩ := o9
      (rename (@Ne Nat _ _) ∧ (@Ne Nat _ _) ∧ (@Ne Nat _ _) ∧ (@Ne Nat _ _) ∧ (@Ne Nat _ _) ∧ (@Ne Nat _ _) ∧ (@Ne Nat _ _) ∧ (@Ne Nat _ _) ∧ (@Ne Nat _ _) ∧ (@Ne Nat _ _) ∧ (@Ne Nat _ _) ∧ (@Ne Nat _ _) ∧ (@Ne Nat _ _) ∧ (@Ne Nat _ _) ∧ (@Ne Nat _ _) ∧ LCg.Off1 _ _ => q2)
      obtain ⟨_, _, _, _, _, _, _, _, _, b26, b25, b24, b23, _, b21, _⟩ := q2
      (rename (@Ne Nat _ _) ∧ (@Ne Nat _ _) ∧ (@Ne Nat _ _) ∧ (@Ne Nat _ _) ∧ (@Ne Nat _ _) ∧ (@Ne Nat _ _) ∧ (@Ne Nat _ _) ∧ (@Ne Nat _ _) ∧ (@Ne Nat _ _) ∧ (@Ne Nat _ _) ∧ (@Ne Nat _ _) ∧ (@Ne Nat _ _) ∧ (@Ne Nat _ _) ∧ (@Ne Nat _ _) ∧ LCg.Off1 _ _ => q1)
      obtain ⟨_, _, _, _, _, _, _, _, b16, b15, b14, b13, _, b11, _⟩ := q1
      (rename (@Ne Nat _ _) ∧ (@Ne Nat _ _) ∧ (@Ne Nat _ _) ∧ (@Ne Nat _ _) ∧ (@Ne Nat _ _) ∧ (@Ne Nat _ _) ∧ (@Ne Nat _ _) ∧ (@Ne Nat _ _) ∧ (@Ne Nat _ _) ∧ (@Ne Nat _ _) ∧ (@Ne Nat _ _) ∧ (@Ne Nat _ _) ∧ (@Ne Nat _ _) ∧ LCg.Off1 _ _ => q0)
      obtain ⟨_, _, _, _, _, _, _, b06, b05, b04, b03, _, b01, _⟩ := q0
      refine table3 (by k_asm) F9 (by k_asm) (by k_asm) N9 (by assumption) (by assumption) (by assumption) (by assumption) (by assumption) ⟨a6, a5, a4, a3, a1⟩ ⟨b06, b05, b04, b03, b01⟩ ⟨b16, b15, b14, b13, b11⟩ ⟨b26, b25, b24, b23, b21⟩ (by assumption) (by assumption) (by assumption) hin (by passes_own) ?_ (fun _ h => h)
      intro h' tk m' F'
      k_steps
  · rw [h2, show (3 : Int) + 1 = 4 from rfl]
    k_with_none
    (k_with "my pyIter" => refine Park.out ?_)
    k_steps
    refine ⟨?_⟩
    k_with_none
    rename IntsAre _ (List.map _ _) => hN
    have hlen := row_len script 16 (by decide)
    have hin := row_in script 16
    generalize hns : List.map _ (List.take (4 * 4 : Int).toNat _) = ns at hN
    have hns' : List.map (fun k' => (k' + 1000000).fmod 2000001 - 1000000) (List.take 16 (List.take 16 script ++ [3, -1, 4, 1, -5, 9, 2, 6, -5, 3, 5, 8, -9, 7, 9, 3])) = ns := hns
    rw [hns'] at hlen hin
    clear hns' hns
    rename News _ _ _ _ => N9
    rename Fr _ _ _ _ => F9
    rename IsRange _ _ _ _ _ _ _ _ => R9
    refine told_loop 16 ns (by rfl) rfl R9 rfl rfl F9 N9 hlen ?_ ?_
    · (rename (@LT.lt Nat _ _ _) ∧ (@LT.lt Nat _ _ _) ∧ (@LT.lt Nat _ _ _) ∧ (@LT.lt Nat _ _ _) ∧ (@LT.lt Nat _ _ _) ∧ (@LT.lt Nat _ _ _) ∧ (@LT.lt Nat _ _ _) ∧ (@LT.lt Nat _ _ _) ∧ (@LT.lt Nat _ _ _) ∧ (@LT.lt Nat _ _ _) ∧ (@LT.lt Nat _ _ _) => l9)
      obtain ⟨g1, _, _, _, _, g6, g5, g4, g3, g2, g0⟩ := l9
      exact told_turn (by k_asm) (by k_asm) (by k_asm) (by decide) hlen hin hN (by assumption) ⟨Nat.ne_of_lt g1, Nat.ne_of_lt g6, Nat.ne_of_lt g5, Nat.ne_of_lt g4, Nat.ne_of_lt g3, Nat.ne_of_lt g2, Nat.ne_of_lt g0⟩
    · intro vs nn tl u h tk hvl hT hO F8 N8
      clear N9 F9 R9
      k_with_none
      (k_with "my str" => (refine str_told (by k_asm) (by k_asm) (told_via (by k_mem) (by intro p hp; k_ownIn) hT) (by omega) hin (by exact rfl) (by ktr_units) ?_; intro h' u' tk' F' N'))
      (k_with "my src" => (refine LCg.CompSrc.ledger (by rfl) (by k_asm) (by k_asm) (by k_mem) (by kcf_size) ?_; intro g'; (refine tup_rest [_, _, _, _, _, _, _, _] hN ?_ ?_); (intro k' t' I' oI' C' oC' D' m' ys' tl' h' tk' E' hk' hC' hx' F' N' off' ne'; (simp only [List.cons_append, List.nil_append] at N' off')); rotate_left; (intro ysT tl2 hT2 hsub; (replace hT := hT.mono hsub)); rotate_left))
      (k_with "my cend" => (refine tup_end (fx := [_, _, _, _, _, _, _, _]) (by k_asm) (by k_asm) off' (by omega) (by lcg_src)))
      (k_with "my str" => (refine str_told (by k_asm) (by k_asm) (told_via (by k_mem) (by intro p hp; k_ownIn) hT2) (by omega) hin (by exact rfl) (by ktr_units) ?_; intro h' u' tk' F' N'))
      (k_with "my park" => refine Park.out ?_)
      k_steps
      refine ⟨?_⟩
      k_with_none
      (refine ListComp_X (by k_asm) (by with_unfolding_all rfl) (fun _ => rfl) (fun _ => rfl) (by rfl) (by decide) (by rfl) ?_)
      (k_with "my told" => ((rename (_ : Int) < 0 + ((Int.toNat (4 - 0) : Nat) : Int) => hh9); (have hh8 : _ < (4 : Int) := hh9); clear hh9; refine told_item (by k_asm) (by k_mem) (by intro p hp; k_ownIn) hT (by omega) (by omega) (by omega) ?_; intro aT t1T t3T hmT))
      (k_with "my tup" => refine tup_one (by k_asm) hmT ?_)
      (k_with "my srcx" => (refine SrcX.range (by rfl) (by k_asm) (by k_asm) (by assumption) (by decide) (n := 4) (by rfl) (by rw [sizeLine_eq]; decide) ?_; intro g'; (intro v' I' oI' C' oC' K' oK' D' h' tk' E' hv' hK' F' N' off0 ap'); (obtain ⟨tv', rfl⟩ := hv')))
      (k_with "my kcf" => exact ⟨rfl, _, rfl⟩)
      (k_with "my endx" => (refine endx_one (by k_asm) (by k_asm) off0 (by k_asm) trivial ?_; clear off0; first | (refine RestX.zero ?_; intro D9 h9 tk9 F9 N9 o9; (simp only [LCg.Off1] at o9)) | ((intro v' I' oI' C' oC' K' oK' D' h' tk' E' hv' hK' F' N' off0 ap'); (obtain ⟨tv', rfl⟩ := hv'))))
      (k_with "my sref" => refine Park.out ?_)
      k_steps
      refine ⟨?_⟩
      k_with_none
      obtain ⟨_, _, _, _, _, _, _, a6, a5, a4, a3, _, a1, _⟩ := o9
      (rename (@Ne Nat _ _) ∧ (@Ne Nat _ _) ∧ (@Ne Nat _ _) ∧ (@Ne Nat _ _) ∧ (@Ne Nat _ _) ∧ (@Ne Nat _ _) ∧ (@Ne Nat _ _) ∧ (@Ne Nat _ _) ∧ (@Ne Nat _ _) ∧ (@Ne Nat _ _) ∧ (@Ne Nat _ _) ∧ (@Ne Nat _ _) ∧ (@Ne Nat _ _) ∧ (@Ne Nat _ _) ∧ (@Ne Nat _ _) ∧ (@Ne Nat _ _) ∧ LCg.Off1 _ _ => q3)
      obtain ⟨_, _, _, _, _, _, _, _, _, _, b36, b35, b34, b33, _, b31, _⟩ := q3
      (rename (@Ne Nat _ _) ∧ (@Ne Nat _ _) ∧ (@Ne Nat _ _) ∧ (@Ne Nat _ _) ∧ (@Ne Nat _ _) ∧ (@Ne Nat _ _) ∧ (@Ne Nat _ _) ∧ (@Ne Nat _ _) ∧ (@Ne Nat _ _) ∧ (@Ne Nat _ _) ∧ (@Ne Nat _ _) ∧ (@Ne Nat _ _) ∧ (@Ne Nat _ _) ∧ (@Ne Nat _ _) ∧ (@Ne Nat _ _) ∧ LCg.Off1 _ _ => q2)
      obtain ⟨_, _, _, _, _, _, _, _, _, b26, b25, b24, b23, _, b21, _⟩ := q2
      (rename (@Ne Nat _ _) ∧ (@Ne Nat _ _) ∧ (@Ne Nat _ _) ∧ (@Ne Nat _ _) ∧ (@Ne Nat _ _) ∧ (@Ne Nat _ _) ∧ (@Ne Nat _ _) ∧ (@Ne Nat _ _) ∧ (@Ne Nat _ _) ∧ (@Ne Nat _ _) ∧ (@Ne Nat _ _) ∧ (@Ne Nat _ _) ∧ (@Ne Nat _ _) ∧ (@Ne Nat _ _) ∧ LCg.Off1 _ _ => q1)
      obtain ⟨_, _, _, _, _, _, _, _, b16, b15, b14, b13, _, b11, _⟩ := q1
      (rename (@Ne Nat _ _) ∧ (@Ne Nat _ _) ∧ (@Ne Nat _ _) ∧ (@Ne Nat _ _) ∧ (@Ne Nat _ _) ∧ (@Ne Nat _ _) ∧ (@Ne Nat _ _) ∧ (@Ne Nat _ _) ∧ (@Ne Nat _ _) ∧ (@Ne Nat _ _) ∧ (@Ne Nat _ _) ∧ (@Ne Nat _ _) ∧ (@Ne Nat _ _) ∧ LCg.Off1 _ _ => q0)
      obtain ⟨_, _, _, _, _, _, _, b06, b05, b04, b03, _, b01, _⟩ := q0
      refine table4 (by k_asm) F9 (by k_asm) (by k_asm) N9 (by assumption) (by assumption) (by assumption) (by assumption) (by assumption) ⟨a6, a5, a4, a3, a1⟩ ⟨b06, b05, b04, b03, b01⟩ ⟨b16, b15, b14, b13, b11⟩ ⟨b26, b25, b24, b23, b21⟩ ⟨b36, b35, b34, b33, b31⟩ (by assumption) (by assumption) (by assumption) (by assumption) hin (by passes_own) ?_ (fun _ h => h)
      intro h' tk m' F'
      k_steps
end Mine
theorem PySem.Challenge.cw_rl0013_02_holds : PySem.Challenge.rw_rl0013_02.Holds := by
  exact Mine.t
