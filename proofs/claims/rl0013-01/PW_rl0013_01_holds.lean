import PyProof.Rows.All
import Wide.All
import OpenK.AllK
import Wide.FinOn
import PySem.Challenge.RW_rl0013_01
open PySem PySem.W PyProof.Rows PySem.Calls PySem.Spec
set_option Elab.async false
set_option maxRecDepth 100000
set_option maxHeartbeats 8000000
namespace Mine
open_top hd for PySem.Challenge.rw_rl0013_01
end Mine
namespace Mine
open PySem.StrLaws
theorem len_cps (x : Str) : x.length = x.cps.toList.length := by simp [Str.length]
theorem str_ext {x y : Str} (h : x.cps.toList = y.cps.toList) : x = y := Str.ext' (Array.toList_inj.mp h)
theorem cps_app (a b : Str) : (a ++ b).cps.toList = a.cps.toList ++ b.cps.toList := by rw [Str.cps_append]; simp
theorem slice_to {x : Str} {j : Nat} (h : j ≤ x.cps.toList.length) : Txt.slice x none (some (j : Int)) = ⟨(x.cps.toList.take j).toArray⟩ := by
  have := sliceText_to (x := x) (j := (j : Int)) ⟨by omega, by omega⟩
  show sliceText x none (some (j : Int)) = _
  simpa using this
theorem slice_mid {x : Str} {i j : Nat} (h : i ≤ j) (h2 : j ≤ x.cps.toList.length) : Txt.slice x (some (i : Int)) (some (j : Int)) = ⟨((x.cps.toList.drop i).take (j - i)).toArray⟩ := by
  have := sliceText_plain (x := x) (i := (i : Int)) (j := (j : Int)) ⟨by omega, by omega, by omega⟩
  have e : ((j : Int) - (i : Int)).toNat = j - i := by omega
  rw [e] at this
  show sliceText x (some (i : Int)) (some (j : Int)) = _
  simpa using this
theorem item_at {x : Str} {i : Nat} {c : Nat} (h : x.cps.toList[i]? = some c) : Txt.item x (i : Int) = ⟨#[c]⟩ := by
  have hi : i < x.length := by
    rw [len_cps]
    exact (List.getElem?_eq_some_iff.mp h).1
  unfold Txt.item Txt.charAt
  have h' : x.cps[i]? = some c := by rw [← Array.getElem?_toList]; exact h
  rw [seqIndex_nonneg (by omega) (by omega)]
  simp [h']
theorem find_at {x : Str} {c : Nat} {A B : List Nat} (h : x.cps.toList = A ++ c :: B) (hA : c ∉ A) : Txt.find x ⟨#[c]⟩ = (A.length : Int) := by
  have hc : x.cps.toList[A.length]? = some c := by rw [h]; simp
  have hlt : A.length < x.length := by rw [len_cps]; exact (List.getElem?_eq_some_iff.mp hc).1
  unfold Txt.find
  rcases occ_head x ⟨#[c]⟩ 1 (Nat.le_refl 1) with ⟨h0, hn⟩ | ⟨i, r, h0, hi, hn⟩
  · exact absurd ((subAt_one x c A.length).mpr hc) (hn A.length)
  · rw [h0]
    have hi' := (subAt_one x c i).mp hi
    have h1 : ¬ A.length < i := fun hl => hn _ hl ((subAt_one x c A.length).mpr hc)
    have h2 : ¬ i < A.length := fun hl => by
      rw [h, List.getElem?_append_left hl] at hi'
      exact hA (List.mem_of_getElem? hi')
    have : i = A.length := by omega
    subst this
    rfl
theorem find3_at {x : Str} {c : Nat} {A B : List Nat} {i : Nat} (h : x.cps.toList = A ++ c :: B) (hi : i ≤ A.length) (hA : c ∉ A.drop i) : Txt.find3 x ⟨#[c]⟩ (i : Int) = (A.length : Int) := by
  have hc : x.cps.toList[A.length]? = some c := by rw [h]; simp
  have hlt : A.length < x.length := by rw [len_cps]; exact (List.getElem?_eq_some_iff.mp hc).1
  have hf : fromIndex x.length (i : Int) = i := by unfold fromIndex; omega
  have gd := getD_of_getElem? hc
  rcases find3_spec x c (i : Int) with ⟨_, hn⟩ | ⟨k, h0, h1, h2, h3, h4⟩
  · exact absurd gd (hn A.length (by omega) hlt)
  · rw [h0]
    have h5 : ¬ A.length < k := fun hl => h4 A.length (by omega) hl gd
    have h6 : ¬ k < A.length := fun hl => by
      have h7 := getElem?_of_getD h2 h3
      rw [h, List.getElem?_append_left hl] at h7
      refine hA (List.mem_of_getElem? (i := k - i) ?_)
      rw [List.getElem?_drop, show i + (k - i) = k by omega]
      exact h7
    have : k = A.length := by omega
    rw [this]
theorem cons_mid_inj {c : Nat} : ∀ {a b : List Nat} {x y : List Nat}, c ∉ a → c ∉ b → a ++ c :: x = b ++ c :: y → a = b ∧ x = y
  | [], [], _, _, _, _, h => by simpa using h
  | [], b :: bs, _, _, _, hb, h => by
    simp at h
    exact absurd h.1 (by intro e; apply hb; rw [← e]; exact List.mem_cons_self ..)
  | a :: as, [], _, _, ha, _, h => by
    simp at h
    exact absurd h.1 (by intro e; apply ha; rw [e]; exact List.mem_cons_self ..)
  | a :: as, b :: bs, _, _, ha, hb, h => by
    simp at h
    obtain ⟨e1, e2⟩ := cons_mid_inj (a := as) (b := bs) (fun m => ha (List.mem_cons_of_mem _ m)) (fun m => hb (List.mem_cons_of_mem _ m)) h.2
    exact ⟨by rw [h.1, e1], e2⟩
def joinL (c : Nat) : List (List Nat) → List Nat
  | [] => []
  | [x] => x
  | x :: y :: r => x ++ c :: joinL c (y :: r)
theorem join_cps (c : Nat) : ∀ ps : List Str, (Str.join ⟨#[c]⟩ ps).cps.toList = joinL c (ps.map (·.cps.toList))
  | [] => rfl
  | [x] => rfl
  | x :: y :: r => by
    have := join_cps c (y :: r)
    show (x ++ ⟨#[c]⟩ ++ Str.join ⟨#[c]⟩ (y :: r)).cps.toList = _
    rw [cps_app, cps_app, this]
    simp [joinL]
theorem joinL_inj (c : Nat) : ∀ {ps qs : List (List Nat)}, ps ≠ [] → qs ≠ [] → (∀ p ∈ ps, c ∉ p) → (∀ q ∈ qs, c ∉ q) → joinL c ps = joinL c qs → ps = qs
  | [], _, h, _, _, _, _ => absurd rfl h
  | _, [], _, h, _, _, _ => absurd rfl h
  | [x], [y], _, _, _, _, h => by simpa [joinL] using h
  | [x], y :: z :: r, _, _, hp, _, h => by
    simp only [joinL] at h
    have := hp x (by simp)
    rw [h] at this
    exact absurd (by simp) this
  | x :: z :: r, [y], _, _, _, hq, h => by
    simp only [joinL] at h
    have := hq y (by simp)
    rw [← h] at this
    exact absurd (by simp) this
  | x :: z :: r, y :: u :: v, _, _, hp, hq, h => by
    simp only [joinL] at h
    obtain ⟨e1, e2⟩ := cons_mid_inj (hp x (by simp)) (hq y (by simp)) h
    have := joinL_inj c (ps := z :: r) (qs := u :: v) (by simp) (by simp) (fun p m => hp p (List.mem_cons_of_mem _ m)) (fun q m => hq q (List.mem_cons_of_mem _ m)) e2
    rw [e1, this]
theorem split_ne (x : Str) (c : Nat) : Txt.split x ⟨#[c]⟩ ≠ [] := by
  intro h
  have := join_split x ⟨#[c]⟩
  unfold Txt.split at h
  split at h
  · cases h
  · split at h
    · cases h
    · rw [partsBetween_eq] at h
      obtain ⟨p, r, e⟩ := partsFrom_ne x (⟨#[c]⟩ : Str).length 0 (Builtin.Str.occurrences x ⟨#[c]⟩ 0 x.length (x.length + 1))
      rw [e] at h
      cases h
theorem split_is {x : Str} {c : Nat} {qs : List Str} (hne : qs ≠ []) (h : x.cps.toList = joinL c (qs.map (·.cps.toList))) (hq : ∀ q ∈ qs, c ∉ q.cps.toList) : Txt.split x ⟨#[c]⟩ = qs := by
  have h1 := join_cps c (Txt.split x ⟨#[c]⟩)
  rw [join_split, h] at h1
  have h2 := joinL_inj c (by simpa using hne) (by simpa using split_ne x c) (by intro p hp; obtain ⟨q, m, rfl⟩ := List.mem_map.mp hp; exact hq q m)
    (by intro p hp; obtain ⟨q, m, rfl⟩ := List.mem_map.mp hp; exact split_free x c q m) h1
  have inj : ∀ {a b : List Str}, a.map (·.cps.toList) = b.map (·.cps.toList) → a = b := by
    intro a
    induction a with
    | nil => intro b h; cases b with | nil => rfl | cons _ _ => simp at h
    | cons x r ih =>
      intro b h
      cases b with
      | nil => simp at h
      | cons y t =>
        simp only [List.map_cons, List.cons.injEq] at h
        rw [str_ext h.1, ih h.2]
  exact (inj h2).symm
theorem int_signs (n : Int) : (Str.ofString (toString n)).cps.toList = (if n < 0 then [45] else []) ++ (Nat.toDigits 10 n.natAbs).map Char.toNat := by
  cases n with
  | ofNat m =>
    rw [if_neg (by simp)]
    exact KIN.signs_num m
  | negSucc m =>
    rw [if_pos (by omega), signs_ofString]
    show (("-" ++ Nat.repr (m + 1)).toList).map Char.toNat = _
    rw [String.toList_append, List.map_append, Nat.toList_repr]
    rfl
theorem digits_all (m : Nat) : NumText.AllDigits ((Nat.toDigits 10 m).map Char.toNat) := by
  intro c hc
  obtain ⟨ch, hch, e⟩ := List.mem_map.mp hc
  have r := digit_range (Nat.isDigit_of_mem_toDigits (by decide) (by decide) hch)
  rw [← e]
  exact r
theorem digits_ne (m : Nat) : (Nat.toDigits 10 m).map Char.toNat ≠ [] := by
  intro e
  have h := toDigits_len_ge 10 m
  rw [List.map_eq_nil_iff.mp e] at h
  exact absurd h (by decide)
theorem int_free {n : Int} {c : Nat} (h : c ∈ (Str.ofString (toString n)).cps.toList) : c = 45 ∨ (48 ≤ c ∧ c ≤ 57) := by
  rw [int_signs] at h
  rcases List.mem_append.mp h with h | h
  · split at h
    · exact .inl (by simpa using h)
    · cases h
  · exact .inr (digits_all _ c h)
theorem int_len {n : Int} (h1 : -10000000000 < n) (h2 : n < 10000000000) : (Str.ofString (toString n)).length ≤ 11 := by
  rw [len_cps, int_signs]
  have hd : ((Nat.toDigits 10 n.natAbs).map Char.toNat).length ≤ 10 := by
    have h0 : (0 : Int) ≤ (n.natAbs : Int) := by omega
    have := KT.len_num (n := (n.natAbs : Int)) h0 (by omega)
    rw [len_cps, KIN.signs_num] at this
    exact this
  split <;> simp only [List.length_append, List.length_cons, List.length_nil] <;> omega
theorem int_reads {n : Int} (h1 : -10000000000 < n) (h2 : n < 10000000000) : PySem.intText? (Str.ofString (toString n)) = some n := by
  have hl := int_len h1 h2
  have e := int_signs n
  by_cases hn : n < 0
  · rw [if_pos hn, List.cons_append, List.nil_append] at e
    rw [PySem.intText_neg e (digits_all _) (digits_ne _) (by omega), KIN.val_back]
    congr 1
    omega
  · rw [if_neg hn, List.nil_append] at e
    rw [PySem.intText_digits (by rw [e]; exact digits_all _) (by rw [e]; exact digits_ne _) (by omega), e, KIN.val_back]
    congr 1
    omega
/-- what the walk of parse229 asks of a reply -/
structure Reply (x : Str) (n : Int) (p0 p1 p2 p3 p4 : Str) : Prop where
  e1 : (Txt.slice x none (some 3) != Str.ofString "229") = false
  f1 : ¬ Txt.find x (Str.ofString "(") < 0
  f2 : ¬ Txt.find3 x (Str.ofString ")") (Txt.find x (Str.ofString "(") + 1) < 0
  f3 : Txt.find x (Str.ofString "(") + 1 < (x.length : Int)
  f4 : 0 ≤ Txt.find3 x (Str.ofString ")") (Txt.find x (Str.ofString "(") + 1) - 1
  f5 : Txt.find3 x (Str.ofString ")") (Txt.find x (Str.ofString "(") + 1) - 1 < (x.length : Int)
  e3 : (Txt.item x (Txt.find x (Str.ofString "(") + 1) != Txt.item x (Txt.find3 x (Str.ofString ")") (Txt.find x (Str.ofString "(") + 1) - 1)) = false
  e4 : Txt.split (Txt.slice x (some (Txt.find x (Str.ofString "(") + 1)) (some (Txt.find3 x (Str.ofString ")") (Txt.find x (Str.ofString "(") + 1)))) (Txt.item x (Txt.find x (Str.ofString "(") + 1)) = [p0, p1, p2, p3, p4]
  hn : PySem.intText? p3 = some n
  hnl : p3.length ≤ 640
theorem reply_is {x : Str} {A S : List Nat} {c : Nat} {K P : Str} {n : Int}
    (h : x.cps.toList = A ++ 40 :: c :: (K.cps.toList ++ c :: c :: (P.cps.toList ++ c :: 41 :: S))) (h3 : A.take 3 = [50, 50, 57])
    (hA : 40 ∉ A) (h40 : c ≠ 40) (h41 : c ≠ 41) (hK : c ∉ K.cps.toList) (hP : c ∉ P.cps.toList) (hK1 : 41 ∉ K.cps.toList) (hP1 : 41 ∉ P.cps.toList)
    (hn : PySem.intText? P = some n) (hl : P.length ≤ 640) : Reply x n ⟨#[]⟩ K ⟨#[]⟩ P ⟨#[]⟩ := by
  have o1 : Str.ofString "(" = ⟨#[40]⟩ := by decide
  have o2 : Str.ofString ")" = ⟨#[41]⟩ := by decide
  have hf : Txt.find x (Str.ofString "(") = (A.length : Int) := by rw [o1]; exact find_at h hA
  have hA3 : 3 ≤ A.length := by
    have := congrArg List.length h3
    simp only [List.length_take, List.length_cons, List.length_nil] at this
    omega
  let B := A ++ 40 :: c :: (K.cps.toList ++ c :: c :: (P.cps.toList ++ [c]))
  have hB : x.cps.toList = B ++ 41 :: S := by rw [h]; simp [B]
  have lB : B.length = A.length + 2 + K.cps.toList.length + 2 + P.cps.toList.length + 1 := by simp only [B, List.length_append, List.length_cons, List.length_nil]; omega
  have dB : B.drop (A.length + 1) = c :: (K.cps.toList ++ c :: c :: (P.cps.toList ++ [c])) := by
    simp [B, List.drop_append]
  have hf3 : Txt.find3 x (Str.ofString ")") (Txt.find x (Str.ofString "(") + 1) = (B.length : Int) := by
    rw [o2, hf, show ((A.length : Int) + 1) = ((A.length + 1 : Nat) : Int) by omega]
    refine find3_at hB (by omega) ?_
    rw [dB]
    simp only [List.mem_cons, List.mem_append, List.not_mem_nil, or_false, not_or]
    exact ⟨h41.symm, hK1, h41.symm, h41.symm, hP1, h41.symm⟩
  have lx : x.length = B.length + 1 + S.length := by rw [len_cps, hB]; simp; omega
  have i1 : Txt.item x (Txt.find x (Str.ofString "(") + 1) = ⟨#[c]⟩ := by
    rw [hf, show ((A.length : Int) + 1) = ((A.length + 1 : Nat) : Int) by omega]
    refine item_at ?_
    rw [h, List.getElem?_append_right (by omega), show A.length + 1 - A.length = 1 by omega]
    rfl
  have i2 : Txt.item x (Txt.find3 x (Str.ofString ")") (Txt.find x (Str.ofString "(") + 1) - 1) = ⟨#[c]⟩ := by
    rw [hf3, show ((B.length : Int) - 1) = ((B.length - 1 : Nat) : Int) by omega]
    refine item_at ?_
    rw [hB, List.getElem?_append_left (by omega)]
    have eB : B = (A ++ 40 :: c :: (K.cps.toList ++ c :: c :: P.cps.toList)) ++ [c] := by simp [B]
    have lB' : B.length - 1 = (A ++ 40 :: c :: (K.cps.toList ++ c :: c :: P.cps.toList)).length := by rw [eB]; simp only [List.length_append, List.length_cons, List.length_nil]; omega
    rw [lB', eB, List.getElem?_append_right (Nat.le_refl _)]
    simp
  have s1 : Txt.slice x (some (Txt.find x (Str.ofString "(") + 1)) (some (Txt.find3 x (Str.ofString ")") (Txt.find x (Str.ofString "(") + 1))) = ⟨(c :: (K.cps.toList ++ c :: c :: (P.cps.toList ++ [c]))).toArray⟩ := by
    rw [hf3, hf, show ((A.length : Int) + 1) = ((A.length + 1 : Nat) : Int) by omega]
    rw [slice_mid (by omega) (by rw [← len_cps]; omega)]
    congr 2
    rw [hB, List.drop_append, dB, List.take_append]
    have : (c :: (K.cps.toList ++ c :: c :: (P.cps.toList ++ [c]))).length = B.length - (A.length + 1) := by
      simp only [List.length_append, List.length_cons, List.length_nil]; omega
    rw [this, Nat.sub_self, List.take_zero, List.append_nil]
    exact List.take_of_length_le (by omega)
  refine ⟨?_, by omega, by omega, by omega, by omega, by omega, ?_, ?_, hn, hl⟩
  · have e : Txt.slice x none (some 3) = Str.ofString "229" := by
      have := slice_to (x := x) (j := 3) (by rw [← len_cps]; omega)
      refine Eq.trans this ?_
      rw [h, List.take_append_of_le_length (by omega), h3]
      decide
    rw [e]
    decide
  · rw [i1, i2]
    simp
  · rw [s1, i1]
    refine split_is (by simp) ?_ ?_
    · simp [joinL]
    · intro q hq
      simp only [List.mem_cons, List.not_mem_nil, or_false] at hq
      rcases hq with rfl | rfl | rfl | rfl | rfl <;> first | assumption | simp
end Mine
namespace Mine
open PySem.StrLaws
/-- what parse257 makes of the signs behind the first five -/
def dec : List Nat → List Nat
  | [] => []
  | c :: r => if c = 34 then (match r with
      | [] => []
      | d :: r' => if d = 34 then 34 :: dec r' else []) else c :: dec r
theorem dec_ne {c : Nat} {r : List Nat} (h : c ≠ 34) : dec (c :: r) = c :: dec r := by cases r <;> simp [dec, h]
def p257 (x : Str) : Str := ⟨(dec (x.cps.toList.drop 5)).toArray⟩
def Inv (x : Str) (i : Int) (d : Str) : Prop := d.cps.toList ++ dec (x.cps.toList.drop i.toNat) = dec (x.cps.toList.drop 5)
abbrev Word (x : Str) (i : Int) (d : Str) : Prop := Inv x i d ∧ 5 ≤ i ∧ i ≤ (x.length : Int) ∧ d.length ≤ i.toNat
theorem item_drop {x : Str} {i : Int} (h0 : 0 ≤ i) (h : i < (x.length : Int)) : ∃ c, Txt.item x i = ⟨#[c]⟩ ∧ x.cps.toList.drop i.toNat = c :: x.cps.toList.drop (i + 1).toNat := by
  have hi : i.toNat < x.cps.toList.length := by rw [← len_cps]; omega
  refine ⟨x.cps.toList[i.toNat], ?_, ?_⟩
  · have := item_at (x := x) (i := i.toNat) (List.getElem?_eq_getElem hi)
    rwa [Int.toNat_of_nonneg h0] at this
  · rw [List.drop_eq_getElem_cons hi, show (i + 1).toNat = i.toNat + 1 by omega]
theorem one_eq {c : Nat} : ((⟨#[c]⟩ : Str) == Str.ofString "\"") = decide (c = 34) := by
  have o : Str.ofString "\"" = ⟨#[34]⟩ := by decide
  rw [o, Bool.eq_iff_iff, beq_iff_eq, decide_eq_true_eq]
  constructor
  · intro h; injection h with h; injection h with h; injection h
  · rintro rfl; rfl
theorem inv_start {x : Str} (h : 5 ≤ x.length) : Word x 5 (Str.ofString "") := by
  refine ⟨?_, by omega, by omega, by decide⟩
  show ([] : List Nat) ++ _ = _
  rfl
theorem inv_two {x : Str} {i : Int} {d : Str} (I : Inv x i d) (h0 : 5 ≤ i) (h : i < (x.length : Int)) (hd : d.length ≤ i.toNat) (q : (Txt.item x i == Str.ofString "\"") = true)
    (h2 : ¬ (x.length : Int) ≤ i + 1) (q2 : (Txt.item x (i + 1) != Str.ofString "\"") = false) : Word x (i + 1 + 1) (d ++ Txt.item x i) := by
  obtain ⟨c, e, dr⟩ := item_drop (x := x) (i := i) (by omega) h
  obtain ⟨c2, e2, dr2⟩ := item_drop (x := x) (i := i + 1) (by omega) (by omega)
  rw [e, one_eq, decide_eq_true_eq] at q
  rw [bne, e2, one_eq, Bool.not_eq_false', decide_eq_true_eq] at q2
  subst q q2
  refine ⟨?_, by omega, by omega, ?_⟩
  · unfold Inv at I ⊢
    rw [dr, dr2] at I
    rw [cps_app, e, ← I]
    simp [dec]
  · rw [Str.length_append, e]
    show d.length + 1 ≤ _
    omega
theorem inv_one {x : Str} {i : Int} {d : Str} (I : Inv x i d) (h0 : 5 ≤ i) (h : i < (x.length : Int)) (hd : d.length ≤ i.toNat) (q : (Txt.item x i == Str.ofString "\"") = false) : Word x (i + 1) (d ++ Txt.item x i) := by
  obtain ⟨c, e, dr⟩ := item_drop (x := x) (i := i) (by omega) h
  rw [e, one_eq, decide_eq_false_iff_not] at q
  refine ⟨?_, by omega, by omega, ?_⟩
  · unfold Inv at I ⊢
    rw [dr] at I
    rw [cps_app, e, ← I, dec_ne q]
    simp
  · rw [Str.length_append, e]
    show d.length + 1 ≤ _
    omega
theorem p_of {x : Str} {d : Str} (h : d.cps.toList = dec (x.cps.toList.drop 5)) : d = p257 x := str_ext (by rw [h]; simp [p257])
theorem end_last {x : Str} {i : Int} {d : Str} (I : Inv x i d) (h0 : 5 ≤ i) (h : i < (x.length : Int)) (q : (Txt.item x i == Str.ofString "\"") = true) (h2 : (x.length : Int) ≤ i + 1) : d = p257 x := by
  obtain ⟨c, e, dr⟩ := item_drop (x := x) (i := i) (by omega) h
  rw [e, one_eq, decide_eq_true_eq] at q
  subst q
  refine p_of ?_
  unfold Inv at I
  rw [dr, List.drop_of_length_le (by rw [← len_cps]; omega)] at I
  rw [← I]
  simp [dec]
theorem end_odd {x : Str} {i : Int} {d : Str} (I : Inv x i d) (h0 : 5 ≤ i) (h : i < (x.length : Int)) (q : (Txt.item x i == Str.ofString "\"") = true) (h2 : ¬ (x.length : Int) ≤ i + 1) (q2 : (Txt.item x (i + 1) != Str.ofString "\"") = true) : d = p257 x := by
  obtain ⟨c, e, dr⟩ := item_drop (x := x) (i := i) (by omega) h
  obtain ⟨c2, e2, dr2⟩ := item_drop (x := x) (i := i + 1) (by omega) (by omega)
  rw [e, one_eq, decide_eq_true_eq] at q
  rw [bne, e2, one_eq, Bool.not_eq_true', decide_eq_false_iff_not] at q2
  subst q
  refine p_of ?_
  unfold Inv at I
  rw [dr, dr2] at I
  rw [← I]
  simp [dec, q2]
theorem end_all {x : Str} {i : Int} {d : Str} (I : Inv x i d) (h : ¬ i < (x.length : Int)) : d = p257 x := by
  refine p_of ?_
  unfold Inv at I
  rw [List.drop_of_length_le (by rw [← len_cps]; omega)] at I
  rw [← I]
  simp [dec]
/-- a 257 reply's head -/
def Head257 (x : Str) : Prop := x.cps.toList.take 5 = [50, 53, 55, 32, 34]
theorem head_len {x : Str} (h : Head257 x) : 5 ≤ x.length := by
  have := congrArg List.length h
  simp only [List.length_take, List.length_cons, List.length_nil] at this
  rw [len_cps]
  omega
theorem head_a {x : Str} (h : Head257 x) : (Txt.slice x none (some 3) != Str.ofString "257") = false := by
  have e : Txt.slice x none (some 3) = Str.ofString "257" := by
    have l := head_len h
    refine Eq.trans (slice_to (x := x) (j := 3) (by rw [← len_cps]; omega)) ?_
    have : x.cps.toList.take 3 = (x.cps.toList.take 5).take 3 := by rw [List.take_take]; rfl
    rw [this, h]
    decide
  rw [e]
  decide
theorem head_b {x : Str} (h : Head257 x) : (Txt.slice x (some 3) (some 5) != Str.ofString " \"") = false := by
  have e : Txt.slice x (some 3) (some 5) = Str.ofString " \"" := by
    have l := head_len h
    refine Eq.trans (slice_mid (x := x) (i := 3) (j := 5) (by omega) (by rw [← len_cps]; omega)) ?_
    have : (x.cps.toList.drop 3).take (5 - 3) = (x.cps.toList.take 5).drop 3 := by rw [List.drop_take]
    rw [this, h]
    decide
  rw [e]
  decide
end Mine
namespace Mine
open PySem.StrLaws
theorem mul_two (c : Nat) : (Txt.mul (⟨#[c]⟩ : Str) 2).cps.toList = [c, c] := by
  unfold Txt.mul
  rw [if_neg (by decide), if_neg (by simp [Str.length])]
  rfl
def marks (c : Nat) : Prop := c = 124 ∨ c = 33 ∨ c = 120 ∨ c = 47
theorem marks_free {c : Nat} {n : Int} (h : marks c) : c ∉ (Str.ofString (toString n)).cps.toList := by
  intro hm
  have := int_free hm
  unfold marks at h
  omega
theorem mark_at {r : Int} (h0 : 0 ≤ r) (h1 : r < 4) : ∃ c, Txt.item (Str.ofString "|!x/") r = ⟨#[c]⟩ ∧ marks c := by
  have : r = 0 ∨ r = 1 ∨ r = 2 ∨ r = 3 := by omega
  rcases this with rfl | rfl | rfl | rfl
  · exact ⟨124, by decide, .inl rfl⟩
  · exact ⟨33, by decide, .inr (.inl rfl)⟩
  · exact ⟨120, by decide, .inr (.inr (.inl rfl))⟩
  · exact ⟨47, by decide, .inr (.inr (.inr rfl))⟩
theorem side_free {r : Int} (h0 : 0 ≤ r) (h1 : r < 2) : 40 ∉ (Txt.mul (Str.ofString "z") r).cps.toList := by
  have : r = 0 ∨ r = 1 := by omega
  rcases this with rfl | rfl <;> decide
theorem reply_core {x : Str} {A S : List Nat} {c : Nat} {k p : Int} (h : x.cps.toList = A ++ 40 :: c :: ((Str.ofString (toString k)).cps.toList ++ c :: c :: ((Str.ofString (toString p)).cps.toList ++ c :: 41 :: S))) (h3 : A.take 3 = [50, 50, 57]) (hA : 40 ∉ A) (hc : marks c)
    (hp1 : -10000000000 < p) (hp2 : p < 10000000000) : Reply x p ⟨#[]⟩ (Str.ofString (toString k)) ⟨#[]⟩ (Str.ofString (toString p)) ⟨#[]⟩ := by
  have n41 : ∀ n : Int, 41 ∉ (Str.ofString (toString n)).cps.toList := by
    intro n hm
    have := int_free hm
    omega
  refine reply_is h h3 hA ?_ ?_ (marks_free hc) (marks_free hc) (n41 k) (n41 p) (int_reads hp1 hp2) (Nat.le_trans (int_len hp1 hp2) (by decide))
  · rcases hc with rfl | rfl | rfl | rfl <;> decide
  · rcases hc with rfl | rfl | rfl | rfl <;> decide
theorem reply_side {side mark : Str} {c : Nat} {k p : Int} (hm : mark = ⟨#[c]⟩) (hc : marks c) (hS : 40 ∉ side.cps.toList) (hp1 : -10000000000 < p) (hp2 : p < 10000000000) :
    Reply (Str.ofString "229 " ++ side ++ Str.ofString "(" ++ mark ++ Str.ofString (toString k) ++ Txt.mul mark 2 ++ Str.ofString (toString p) ++ mark ++ Str.ofString ")" ++ side) p ⟨#[]⟩ (Str.ofString (toString k)) ⟨#[]⟩ (Str.ofString (toString p)) ⟨#[]⟩ := by
  have o1 : (Str.ofString "229 ").cps.toList = [50, 50, 57, 32] := by decide
  have o2 : (Str.ofString "(").cps.toList = [40] := by decide
  have o3 : (Str.ofString ")").cps.toList = [41] := by decide
  subst hm
  refine reply_core (A := [50, 50, 57, 32] ++ side.cps.toList) (S := side.cps.toList) (c := c) ?_ rfl ?_ hc hp1 hp2
  · simp only [cps_app, o1, o2, o3, mul_two, List.append_assoc, List.cons_append, List.nil_append]
  · intro hm
    rcases List.mem_append.mp hm with hm | hm
    · revert hm; decide
    · exact hS hm
theorem reply_plain {mark : Str} {c : Nat} {k p : Int} (hm : mark = ⟨#[c]⟩) (hc : marks c) (hp1 : -10000000000 < p) (hp2 : p < 10000000000) :
    Reply (Str.ofString "229 (" ++ mark ++ Str.ofString (toString k) ++ Txt.mul mark 2 ++ Str.ofString (toString p) ++ mark ++ Str.ofString ")") p ⟨#[]⟩ (Str.ofString (toString k)) ⟨#[]⟩ (Str.ofString (toString p)) ⟨#[]⟩ := by
  have o1 : (Str.ofString "229 (").cps.toList = [50, 50, 57, 32, 40] := by decide
  have o3 : (Str.ofString ")").cps.toList = [41] := by decide
  subst hm
  refine reply_core (A := [50, 50, 57, 32]) (S := []) (c := c) ?_ rfl (by decide) hc hp1 hp2
  simp only [cps_app, o1, o3, mul_two, List.append_assoc, List.cons_append, List.nil_append]
end Mine
namespace Mine
def pairD (p : Int) : PyData := .tuple [.str (Str.ofString "mirror"), .int p]
theorem log_small {p : Int} (h1 : -10000000000 < p) (h2 : p < 10000000000) : p.natAbs.log2 < 1920 := by
  by_cases h : p.natAbs = 0
  · rw [h]; decide
  · have : p.natAbs.log2 < 40 := (Nat.log2_lt h).mpr (by omega)
    omega
theorem pair_len {p : Int} (h1 : -10000000000 < p) (h2 : p < 10000000000) : (pairD p).shown.length ≤ 30 := by
  unfold pairD
  simp only [PyData.shown, PyData.shownAll]
  have e : reprText (Str.ofString "mirror") = Str.ofString "'mirror'" := by decide +kernel
  rw [e]
  have hl := int_len h1 h2
  show (("(" : Str) ++ (Str.ofString "'mirror'" ++ (", " : Str) ++ Str.ofString (toString p)) ++ (")" : Str)).length ≤ 30
  simp only [Str.length_append]
  have a1 : (("(" : Str)).length = 1 := by decide
  have a2 : ((Str.ofString "'mirror'")).length = 8 := by decide
  have a3 : ((", " : Str)).length = 2 := by decide
  have a4 : ((")" : Str)).length = 1 := by decide
  omega
theorem pair_show {p : Int} (h1 : -10000000000 < p) (h2 : p < 10000000000) : (pairD p).showable = true := by
  unfold pairD
  simp only [PyData.showable, PyData.showableAll, Bool.true_and, Bool.and_true, decide_eq_true_eq]
  exact log_small h1 h2
abbrev tupOf (vs : List Value) : Obj := { cls := .type "tuple", data := .seq vs.toArray 0 }
theorem pair_via {h₀ : Heap} {news : List (Addr × Obj)} {a : Addr} {p : Int} {t1 t3 : Tok} (hm : (a, tupOf [.str (Str.ofString "mirror") t1, .int p t3]) ∈ news) : ReadsVia h₀ news (.ref a) (pairD p) :=
  ReadsVia.tuple hm (.cons (.str _ _) (.cons (.int _ _) .nil))
theorem str_pair {prog : Program} {w : World} {A : Around} {E : Value → Shared → Prop} {s : Shared} {h₀ : Heap} {L a : Addr} {m : Str → Option Value} {news : List (Addr × Obj)} {p : Int} {t1 t3 : Tok} {Q : Value → Shared → Prop}
    (F : Fr h₀ L s.heap m) (N : News h₀ L s.heap news) (hm : (a, tupOf [.str (Str.ofString "mirror") t1, .int p t3]) ∈ news) (h1 : -10000000000 < p) (h2 : p < 10000000000) (hg : A.guards = some []) (hu : A.units + 4 < cLine)
    (hQ : ∀ h' u tk, Fr h₀ L h' m → News h₀ L h' news → Q (.str (pairD p).shown u) { s with heap := h', toks := tk }) : wpAny (model prog w) A (call (.type "str") [.ref a]) Q E s :=
  str_via (pair_via hm) F N (pair_show h1 h2) rfl rfl hg hu hQ (Nat.le_trans (pair_len h1 h2) (by rw [sizeLine_eq]; decide))
end Mine
namespace Mine
abbrev RP : Program := Challenge.rw_rl0013_01.row.prog
theorem fill : Challenge.rw_rl0013_01 = Challenge.rw_rl0013_01 ∧ hd.heap_39 = hd.heap_39 := by
  k_fill
  exact ⟨rfl, rfl⟩
def singleF (n : Int) : Bool := if n = 0 then false else Builtin.bitAnd n (n - 1) == 0
def highF (n : Int) : Int := ((Builtin.Int.intBits n : Nat) : Int) - 1
/-- where a call of a def stands: the frames below, the frame at hand, the written part, the ledger, the top -/
structure At (r : Nat) (w : World) (mean : ExcName → Option Value) (mg mb : Str → Option Value) (dp un : Nat) (cs : Scope) (outer : List Env) (A₀ : Around) (base h₀ : Heap) (L : Addr) (m : Str → Option Value) (news : List (Addr × Obj)) (h : Heap) : Prop where
  B : Below A₀ base outer h₀
  F : Fr h₀ L h m
  X : (hd.heap_39 w.params).In h₀
  N : News h₀ L h news
  T : Top hd.view_39 (looseW hd.view_39 []) mean mg mb h₀
  hk : cs.kind = .function
  hd : dp + r < recursionLimit
  hu : un + 10 * r < cLine
section
variable {w : World} {mean : ExcName → Option Value} {mg mb : Str → Option Value} {dp un : Nat} {gd : Option (List Code)} {cn : Str} {cs : Scope} {a : Addr} {ccd : Value} {cl : List (Str × Addr)} {outer : List Env} {A₀ : Around} {base h₀ : Heap} {L : Addr} {m : Str → Option Value} {news : List (Addr × Obj)} {s : Shared} {Q E : Value → Shared → Prop}
theorem c257 {x : Str} {t : Tok} (Z : At 2 w mean mg mb dp un cs outer A₀ base h₀ L m news s.heap) (hx : Head257 x) (hxl : x.length ≤ 1000)
    (hret : ∀ (t : Tok) (h' : Heap) (tk' : Nat), Fr h₀ L h' m → News h₀ L h' news → Q (.str (p257 x) t) { s with heap := h', toks := tk' }) :
    wpAny (model RP w) (ktrTop dp un gd cn cs L a ccd cl outer) (call (.ref 65) [.str x t]) Q E s := by
  obtain ⟨B, F, X, N, T, hk, hd, hu⟩ := Z
  have e1 := head_a hx
  have e2 := head_b hx
  have hx5 := head_len hx
  (k_with "exec While Compare cons nil" => k_while (fun _ i d => Word x i d) (fun _ i _ => x.length - i.toNat) "i" "dirname")
  (k_with "state" => first | exact inv_start hx5 | exact inv_two (by assumption) (by assumption) (by assumption) (by assumption) (by assumption) (by assumption) (by assumption) | exact inv_one (by assumption) (by assumption) (by assumption) (by assumption) (by assumption))
  w_top off
  refine wpAny_call ?_
  k_dflt cell_enter
  k_steps
  all_goals k_with_none
  · obtain rfl := end_last (x := x) (by assumption) (by assumption) (by assumption) (by assumption) (by assumption)
    exact hret _ _ _ (by k_asm) (by k_asm)
  · obtain rfl := end_odd (x := x) (by assumption) (by assumption) (by assumption) (by assumption) (by assumption) (by assumption)
    exact hret _ _ _ (by k_asm) (by k_asm)
  · obtain rfl := end_all (x := x) (by assumption) (by assumption)
    exact hret _ _ _ (by k_asm) (by k_asm)
theorem c229 {x : Str} {t : Tok} {l : Addr} {k : Int} {t1 t2 : Tok} {nn : Nat} {p0 p1 p2 p3 p4 : Str} {n : Int} (Z : At 2 w mean mg mb dp un cs outer A₀ base h₀ L m ((l, listOf [.str (Str.ofString "mirror") t1, .int k t2].toArray nn) :: news) s.heap)
    (hx : Reply x n p0 p1 p2 p3 p4) (hxl : x.length ≤ 1000)
    (hret : ∀ (D : Addr) (t3 : Tok) (h' : Heap) (tk' : Nat), Fr h₀ L h' m → News h₀ L h' ((D, tupOf [.str (Str.ofString "mirror") t1, .int n t3]) :: (l, listOf [.str (Str.ofString "mirror") t1, .int k t2].toArray nn) :: news) → l < D → AllLt D news → Q (.ref D) { s with heap := h', toks := tk' }) :
    wpAny (model RP w) (ktrTop dp un gd cn cs L a ccd cl outer) (call (.ref 58) [.str x t, .ref l]) Q E s := by
  obtain ⟨B, F, X, N, T, hk, hd, hu⟩ := Z
  obtain ⟨e1, f1, f2, f3, f4, f5, e3, e4, hn, hnl⟩ := hx
  (k_with "call type:int" => ((rename List.map _ _ = Txt.split _ _ => hq); (rename (List.map _ _)[Int.toNat 3]? = some _ => hy); rw [hq, e4] at hy; (replace hy := Option.some.inj hy); subst hy; refine KIN.call_text hn hnl ?_))
  w_top off
  refine wpAny_call ?_
  k_dflt cell_enter
  k_steps
  all_goals k_with_none
  · exfalso
    (rename List.map _ _ = Txt.split _ _ => hq)
    (rename ((_ : Nat) : Int) ≠ 5 => h5)
    have hq' := congrArg List.length hq
    rw [e4, List.length_map] at hq'
    simp only [List.length_cons, List.length_nil] at hq'
    omega
  · rename _ ∧ _ ∧ AllLt _ news => hlt
    rename News h₀ L _ _ => kN
    exact hret _ _ _ _ (by k_asm) (fun p hp => kN p (by
      rcases List.mem_cons.mp hp with rfl | hp
      · exact List.mem_cons_self ..
      · exact List.mem_cons_of_mem _ (List.mem_cons_of_mem _ hp))) hlt.2.1 hlt.2.2
theorem csingle {n : Int} {t : Tok} (Z : At 2 w mean mg mb dp un cs outer A₀ base h₀ L m news s.heap)
    (hret : ∀ (h' : Heap) (tk' : Nat), Fr h₀ L h' m → News h₀ L h' news → Q (.bool (singleF n)) { s with heap := h', toks := tk' }) :
    wpAny (model RP w) (ktrTop dp un gd cn cs L a ccd cl outer) (call (.ref 72) [.int n t]) Q E s := by
  obtain ⟨B, F, X, N, T, hk, hd, hu⟩ := Z
  w_top off
  refine wpAny_call ?_
  k_dflt cell_enter
  k_steps
  · rename n = 0 => h0
    have e : singleF n = false := by unfold singleF; rw [if_pos h0]
    rw [e] at hret
    exact hret _ _ (by k_asm) (by k_asm)
  · rename n ≠ 0 => h0
    have e : singleF n = (Builtin.bitAnd n (n - 1) == 0) := by unfold singleF; rw [if_neg h0]
    rw [e] at hret
    exact hret _ _ (by k_asm) (by k_asm)
theorem chigh {n : Int} {t : Tok} (Z : At 2 w mean mg mb dp un cs outer A₀ base h₀ L m news s.heap)
    (hret : ∀ (t : Tok) (h' : Heap) (tk' : Nat), Fr h₀ L h' m → News h₀ L h' news → Q (.int (highF n) t) { s with heap := h', toks := tk' }) :
    wpAny (model RP w) (ktrTop dp un gd cn cs L a ccd cl outer) (call (.ref 79) [.int n t]) Q E s := by
  obtain ⟨B, F, X, N, T, hk, hd, hu⟩ := Z
  w_top off
  refine wpAny_call ?_
  k_dflt cell_enter
  k_steps
  exact hret _ _ _ (by k_asm) (by k_asm)
end
end Mine
namespace Mine
theorem clear_low (a : Int) : ∀ e : Nat, Builtin.bitAnd (2 ^ e * (2 * a + 1)) (2 ^ e * (2 * a + 1) - 1) = 2 ^ e * (2 * a + 1) - 2 ^ e
  | 0 => by
    rw [kbt_halves]
    have h1 : (2 ^ 0 * (2 * a + 1) : Int) / 2 = a := by omega
    have h2 : (2 ^ 0 * (2 * a + 1) - 1 : Int) / 2 = a := by omega
    rw [h1, h2, bitAnd_self, if_neg (by omega)]
    omega
  | e + 1 => by
    have ih := clear_low a e
    rw [kbt_halves]
    have hp : (2 : Int) ^ (e + 1) * (2 * a + 1) = 2 * (2 ^ e * (2 * a + 1)) := by rw [Int.pow_succ, Int.mul_comm (2 ^ e) 2, Int.mul_assoc]
    rw [hp]
    generalize (2 : Int) ^ e * (2 * a + 1) = w at *
    have h1 : (2 * w : Int) / 2 = w := by omega
    have h2 : (2 * w - 1 : Int) / 2 = w - 1 := by omega
    rw [h1, h2, ih, if_neg (by omega), Int.pow_succ]
    omega
theorem low_form {w : Int} {e : Nat} (h : w % 2 ^ (e + 1) = 2 ^ e) : ∃ a, w = 2 ^ e * (2 * a + 1) := by
  refine ⟨w / 2 ^ (e + 1), ?_⟩
  have := Int.mul_ediv_add_emod w (2 ^ (e + 1))
  rw [h] at this
  rw [Int.mul_add, Int.mul_one, ← Int.mul_assoc, ← Int.pow_succ]
  exact this.symm
theorem pow_pos' (e : Nat) : (0 : Int) < 2 ^ e := Int.pow_pos (by decide)
theorem low_and {w : Int} {e : Nat} (h : w % 2 ^ (e + 1) = 2 ^ e) : Builtin.bitAnd w (-w) = 2 ^ e := by
  obtain ⟨a, rfl⟩ := low_form h
  exact kbt_low e a
theorem low_and1 {w : Int} {e : Nat} (h : w % 2 ^ (e + 1) = 2 ^ e) : Builtin.bitAnd w (w - 1) = w - 2 ^ e := by
  obtain ⟨a, rfl⟩ := low_form h
  exact clear_low a e
theorem low_ne {w : Int} {e : Nat} (h : w % 2 ^ (e + 1) = 2 ^ e) : w ≠ 0 := by
  rintro rfl
  rw [Int.zero_emod] at h
  have := pow_pos' e
  omega
theorem pow_low (e : Nat) : (2 : Int) ^ e % 2 ^ (e + 1) = 2 ^ e := Int.emod_eq_of_lt (Int.le_of_lt (pow_pos' e)) (by rw [Int.pow_succ]; have := pow_pos' e; omega)
theorem bits_pow (e : Nat) : Builtin.Int.intBits (2 ^ e) = e + 1 := by
  have h0 : (2 : Int) ^ e ≠ 0 := by have := pow_pos' e; omega
  have e1 : ((2 : Int) ^ e).natAbs = 2 ^ e := by rw [Int.natAbs_pow]; rfl
  unfold Builtin.Int.intBits
  rw [if_neg (by simpa using h0), e1, Nat.log2_two_pow]
theorem bits_pow1 (e : Nat) : Builtin.Int.intBits (2 ^ e - 1) = e := by
  apply Nat.le_antisymm
  · rw [intBits_le_iff]
    have := pow_pos' e
    have : ((2 : Int) ^ e - 1).natAbs = 2 ^ e - 1 := by
      have h1 : ((2 : Int) ^ e) = ((2 ^ e : Nat) : Int) := by simp
      rw [h1]
      have : 0 < 2 ^ e := Nat.two_pow_pos e
      omega
    rw [this]
    have : 0 < 2 ^ e := Nat.two_pow_pos e
    omega
  · cases e with
    | zero => exact Nat.zero_le _
    | succ e =>
      apply Nat.le_of_not_lt
      intro hlt
      have h := intBits_le_iff.mp (Nat.le_of_lt_succ hlt)
      have h1 : ((2 : Int) ^ (e + 1)) = ((2 ^ (e + 1) : Nat) : Int) := by simp
      rw [h1, Nat.pow_succ] at h
      have : 0 < 2 ^ e := Nat.two_pow_pos e
      omega
end Mine
namespace Mine
local macro_rules | `(tactic| walk_at "pyIter ref") => `(tactic| k_dflt (k_extra "my pyIter"))
local macro_rules | `(tactic| walk_at "subscriptTail") => `(tactic| k_dflt (k_extra "my subscriptTail"))
local macro_rules | `(tactic| walk_at "call ref") => `(tactic| k_dflt (k_extra "my call"))
theorem fillR : Challenge.rw_rl0013_01 = Challenge.rw_rl0013_01 ∧ hd.heap_39 = hd.heap_39 := by
  k_fill
  exact ⟨rfl, rfl⟩
theorem last_text {prog : Program} {w : World} {A : Around} {E : Value → Shared → Prop} {s : Shared} {h₀ : Heap} {L l : Addr} {news : List (Addr × Obj)} {vs : List Value} {ts : List Str} {n : Nat} {u : Tok} {value slice : PySem.Expr} {Q : Value → Shared → Prop}
    (N : News h₀ L s.heap news) (hm : (l, listOf vs.toArray n) ∈ news) (hS : StrsAre vs ts) (h1 : 1 ≤ ts.length) (h : ∀ y t, ts.getLast? = some y → Q (.str y t) s)
    (hs : subscripted slice false (.ref l) (.int (-1) u) = operate [.ref l, .int (-1) u] (getItem (.ref l) (.int (-1) u)) := by with_unfolding_all rfl) :
    wpAny (model prog w) A (subscriptTail value slice (.ref l) (.int (-1) u)) Q E s := by
  have hl : s.heap.IsList l vs.toArray := News.isList N hm
  have hlen := hS.length
  have hlt : ts.length - 1 < ts.length := by omega
  obtain ⟨t, ht⟩ := StrsAre.get hS (ts.length - 1) (ts[ts.length - 1]) (List.getElem?_eq_getElem hlt)
  refine tail_any hl.typeIs slot_list_getitem.lookup (wpAny_getItem_list_neg hl (by omega) (by simp; omega) (by omega) (x := .str (ts[ts.length - 1]) t) ?_ (h _ t ?_)) hs
  · rw [List.size_toArray, show ((-1 : Int) + (vs.length : Int)).toNat = ts.length - 1 by omega, List.getElem?_toArray]
    exact ht
  · rw [List.getLast?_eq_getElem?]
    exact List.getElem?_eq_getElem hlt
def rstep (ts : List Str) : List Str := match ts.getLast? with
  | some y => if Txt.endswith y (Str.ofString "z") = true then ts ++ [p257 (Str.ofString "257 \"" ++ y)] else ts
  | none => ts
def reads (c : Int) : Nat → List Str
  | 0 => [Txt.mul (Str.ofString "\"") c ++ Str.ofString "z"]
  | n + 1 => rstep (reads c n)
def RInv (c : Int) (n : Nat) (ts : List Str) : Prop := ts = reads c n
theorem rinv_start {c : Int} {P : Prop} (h : P) : RInv c 0 [Txt.mul (Str.ofString "\"") c ++ Str.ofString "z"] ∧ P := ⟨rfl, h⟩
theorem strs_one {h₀ : Heap} {L l : Addr} {h : Heap} {x : Str} {t : Tok} {n : Nat} {news : List (Addr × Obj)} (_ : News h₀ L h ((l, listOf #[.str x t] n) :: news)) : StrsAre [.str x t] [x] := .cons _ _ .nil
theorem head_cat (y : Str) : Head257 (Str.ofString "257 \"" ++ y) := by
  unfold Head257
  rw [cps_app]
  have : (Str.ofString "257 \"").cps.toList = [50, 53, 55, 32, 34] := by decide
  rw [this]
  rfl
theorem dec_len : ∀ (n : Nat) (l : List Nat), l.length ≤ n → (dec l).length ≤ l.length
  | _, [], _ => by simp [dec]
  | 0, _ :: _, h => by simp at h
  | n + 1, c :: r, h => by
    by_cases hc : c = 34
    · subst hc
      cases r with
      | nil => simp [dec]
      | cons d r' =>
        by_cases hd : d = 34
        · subst hd
          have := dec_len n r' (by simp at h ⊢; omega)
          simp [dec]
          omega
        · simp [dec, hd]
    · rw [dec_ne hc]
      have := dec_len n r (by simp at h ⊢; omega)
      simp
      omega
theorem p257_len (y : Str) : (p257 (Str.ofString "257 \"" ++ y)).length ≤ y.length := by
  unfold p257
  rw [len_cps, len_cps]
  show (dec _).length ≤ _
  have h5 : (Str.ofString "257 \"").cps.toList = [50, 53, 55, 32, 34] := by decide
  rw [cps_app, h5]
  exact dec_len _ _ (Nat.le_refl _)
theorem mul_len {c : Int} (h1 : 1 ≤ c) : (Txt.mul (Str.ofString "\"") c ++ Str.ofString "z").cps.toList = List.replicate c.toNat 34 ++ [122] := by
  have o : Str.ofString "\"" = ⟨#[34]⟩ := by decide
  have oz : (Str.ofString "z").cps.toList = [122] := by decide
  rw [cps_app, oz, o]
  congr 1
  unfold Txt.mul
  rw [if_neg (by omega)]
  split
  · rename_i h
    have : c = 1 := by simpa [Str.length] using h
    subst this
    rfl
  · have : ∀ (n : Nat) (acc : Array Nat), ((List.replicate n (#[34] : Array Nat)).foldl (· ++ ·) acc).toList = acc.toList ++ List.replicate n 34 := by
      intro n
      induction n with
      | zero => intro acc; simp
      | succ n ih => intro acc; rw [List.replicate_succ, List.foldl_cons, ih, List.replicate_succ]; simp
    rw [this]
    simp
theorem reads_all {c : Int} (h1 : 1 ≤ c) (h2 : c ≤ 30) : ∀ n, ∀ y ∈ reads c n, y.length ≤ 31
  | 0 => by
    intro y hy
    rw [List.mem_singleton.mp hy, len_cps, mul_len h1]
    simp
    omega
  | n + 1 => by
    intro y hy
    have ih := reads_all h1 h2 n
    simp only [reads, rstep] at hy
    split at hy
    · rename_i z hz
      split at hy
      · rcases List.mem_append.mp hy with hy | hy
        · exact ih y hy
        · rw [List.mem_singleton.mp hy]
          exact Nat.le_trans (p257_len z) (ih z (List.mem_of_getLast? hz))
      · exact ih y hy
    · exact ih y hy
theorem reads_len {c : Int} {n : Nat} {ts : List Str} {y : Str} (h1 : 1 ≤ c) (h2 : c ≤ 30) (I : RInv c n ts) (h : ts.getLast? = some y) : y.length ≤ 31 := by
  rw [I] at h
  exact reads_all h1 h2 n y (List.mem_of_getLast? h)
theorem rinv_go {c : Int} {pre : List Int} {k e : Int} {ts : List Str} {y y' : Str} (I : RInv c pre.length ts) (h3 : Txt.endswith y' (Str.ofString "z") = true) (h1 : ts.getLast? = some y) (h2 : ts.getLast? = some y') (hl : ts.length ≤ pre.length + 1) (h6 : pre.length < (e - 0).toNat) (he : e = 6) :
    RInv c (pre ++ [k]).length (ts ++ [p257 (Str.ofString "257 \"" ++ y)]) ∧ (pre ++ [k]).length ≤ 6 ∧ 1 ≤ (ts ++ [p257 (Str.ofString "257 \"" ++ y)]).length ∧ (ts ++ [p257 (Str.ofString "257 \"" ++ y)]).length ≤ (pre ++ [k]).length + 1 := by
  have e : y' = y := Option.some.inj (h2.symm.trans h1)
  subst e
  refine ⟨?_, by simp; omega, by simp, by simp; omega⟩
  unfold RInv at I ⊢
  rw [List.length_append, List.length_singleton]
  simp only [reads, rstep]
  rw [← I, h1]
  dsimp only
  rw [if_pos h3]
theorem rinv_stay {c : Int} {pre : List Int} {k e : Int} {ts : List Str} {y' : Str} (I : RInv c pre.length ts) (h2 : ts.getLast? = some y') (h3 : Txt.endswith y' (Str.ofString "z") = false) (h1 : 1 ≤ ts.length) (hl : ts.length ≤ pre.length + 1) (h6 : pre.length < (e - 0).toNat) (he : e = 6) :
    RInv c (pre ++ [k]).length ts ∧ (pre ++ [k]).length ≤ 6 ∧ 1 ≤ ts.length ∧ ts.length ≤ (pre ++ [k]).length + 1 := by
  refine ⟨?_, by simp; omega, h1, by simp; omega⟩
  unfold RInv at I ⊢
  rw [List.length_append, List.length_singleton]
  simp only [reads, rstep]
  rw [← I, h2]
  dsimp only
  rw [if_neg (by rw [h3]; decide)]
section
variable {w : World} {mean : ExcName → Option Value} {mg mb : Str → Option Value} {dp un : Nat} {gd : Option (List Code)} {cn : Str} {cs : Scope} {a : Addr} {ccd : Value} {cl : List (Str × Addr)} {outer : List Env} {A₀ : Around} {base h₀ : Heap} {L : Addr} {m : Str → Option Value} {news : List (Addr × Obj)} {s : Shared} {Q E : Value → Shared → Prop}
theorem cread {c : Int} {t : Tok} (Z : At 4 w mean mg mb dp un cs outer A₀ base h₀ L m news s.heap) (hc : 1 ≤ c) (hc2 : c ≤ 30)
    (hret : ∀ (l : Addr) (vs : List Value) (n : Nat) (h' : Heap) (tk' : Nat), Fr h₀ L h' m → News h₀ L h' ((l, listOf vs.toArray n) :: news) → StrsAre vs (reads c 6) → (∀ p ∈ news, p.1 < l) → Q (.ref l) { s with heap := h', toks := tk' }) :
    wpAny (model RP w) (ktrTop dp un gd cn cs L a ccd cl outer) (call (.ref 86) [.int c t]) Q E s := by
  obtain ⟨B, F, X, N, T, hk, hd, hu⟩ := Z
  (k_with "state" => first | exact rinv_start ⟨by omega, by simp, by simp⟩ | exact rinv_go (by assumption) (by assumption) (by assumption) (by assumption) (by assumption) (by assumption) (by assumption) | exact rinv_stay (by assumption) (by assumption) (by assumption) (by assumption) (by assumption) (by assumption) (by assumption))
  (k_with "my pyIter" => ((rename IsRange _ _ 0 6 1 _ _ _ => rg6); (obtain ⟨e6, he6, rg7⟩ : ∃ e : Int, e = 6 ∧ IsRange _ _ 0 e 1 _ _ _ := ⟨6, rfl, rg6⟩); clear rg6; rename News _ _ _ _ => N9; (have hS := strs_one N9); k_state (fun pre ts => RInv c pre.length ts ∧ pre.length ≤ 6 ∧ 1 ≤ ts.length ∧ ts.length ≤ pre.length + 1) "texts$"; all_goals (try clear hS)))
  (k_with "my subscriptTail" => (refine' last_text ?k1 ?k2 ?k3 ?k4 ?_ ?k6; (case k1 => k_asm); (case k2 => k_mem); (case k3 => assumption); (case k4 => assumption); (case k6 => with_unfolding_all rfl); intro y9 t9 hy9; (have hyl := reads_len hc hc2 (by assumption) hy9)))
  (k_with "my call" => (refine' c257 ⟨?k1, ?k2, ?k3, ?k4, ?k5, ?k6, ?k7, ?k8⟩ (head_cat _) ?k9 ?_; (case k1 => k_asm); (case k2 => k_asm); (case k3 => k_asm); (case k4 => k_asm); (case k5 => k_asm); (case k6 => first | rfl | assumption); (case k7 => ktr_room); (case k8 => ktr_units); (case k9 => (rw [Str.length_append, show (Str.ofString "257 \"").length = 5 by decide]; omega)); intro t8 h8 tk8 F8 N8; (have hS9 := StrsAre.append' (by assumption) (StrsAre.cons (p257 (Str.ofString "257 \"" ++ y9)) t8 StrsAre.nil))))
  w_top off
  refine wpAny_call ?_
  k_dflt cell_enter
  k_steps
  all_goals k_with_none
  · rename RInv _ _ _ => I9
    rename StrsAre _ _ => S9
    rename News h₀ L _ _ => kN
    have e6' : (rangeKs 0 (e6 - 0).toNat).length = 6 := by rw [rangeKs_length]; omega
    rw [e6'] at I9
    rw [I9] at S9
    exact hret _ _ _ _ _ (by k_asm) kN S9 (by assumption)
end
end Mine
namespace Mine
local macro_rules | `(tactic| walk_at "exec While") => `(tactic| k_dflt (k_extra "my while"))
local macro_rules | `(tactic| walk_at "exec While Compare cons nil") => `(tactic| k_dflt (k_extra "my while"))
local macro_rules | `(tactic| walk_at "binaryOp Add ref ref") => `(tactic| k_dflt (k_extra "my add"))
local macro_rules | `(tactic| walk_at "KswEnd") => `(tactic| k_dflt (k_extra "my end"))
theorem fillH : Challenge.rw_rl0013_01 = Challenge.rw_rl0013_01 ∧ hd.heap_39 = hd.heap_39 := by
  k_fill
  exact ⟨rfl, rfl⟩
abbrev qz (n : Int) : Str := Txt.mul (Str.ofString "\"") n ++ Str.ofString "z"
def tlH : Nat → Int → List Str
  | 0, _ => []
  | f + 1, n => if Int.fmod n 2 = 0 then qz (Int.fdiv n 2) :: tlH f (Int.fdiv n 2) else [Txt.mul (Str.ofString "\"") (Int.fdiv n 2)]
def halves (c : Int) : List Str := qz c :: tlH 6 c
def HInv (c n : Int) (ts : List Str) : Prop := ∃ f, n < 2 ^ f ∧ f + ts.length = 7 ∧ ts ++ tlH f n = halves c
abbrev HWord (c n : Int) (ts : List Str) : Prop := HInv c n ts ∧ 1 ≤ n ∧ n ≤ 30 ∧ 1 ≤ ts.length ∧ ts.length ≤ 7 ∧ 0 ≤ Int.fdiv n 2 ∧ Int.fdiv n 2 ≤ 30
theorem fdiv2 (n : Int) : Int.fdiv n 2 = n / 2 := Int.fdiv_eq_ediv_of_nonneg _ (by omega)
theorem hinv_start {c : Int} (h1 : 1 ≤ c) (h2 : c ≤ 30) : HWord c c [qz c] := ⟨⟨6, by omega, rfl, rfl⟩, h1, h2, by simp, by simp, by rw [fdiv2]; omega, by rw [fdiv2]; omega⟩
theorem hinv_go {c n : Int} {ts : List Str} (I : HInv c n ts) (h1 : 1 ≤ n) (h2 : n ≤ 30) (h : Int.fmod n 2 = 0) : HWord c (Int.fdiv n 2) (ts ++ [qz (Int.fdiv n 2)]) := by
  obtain ⟨f, hf, hl, e⟩ := I
  have e2 : Int.fdiv n 2 = n / 2 := Int.fdiv_eq_ediv_of_nonneg _ (by omega)
  have e3 : Int.fmod n 2 = n % 2 := Int.fmod_eq_emod_of_nonneg _ (by omega)
  cases f with
  | zero => simp at hf; omega
  | succ f =>
    have hp : (2 : Int) ^ (f + 1) = 2 * 2 ^ f := by rw [Int.pow_succ]; omega
    rw [hp] at hf
    refine ⟨⟨f, by rw [e2]; omega, by simp; omega, ?_⟩, by rw [e2]; omega, by rw [e2]; omega, by simp, ?_, by rw [fdiv2, e2]; omega, by rw [fdiv2, e2]; omega⟩
    · rw [← e, tlH, if_pos h]
      simp
    · cases f with
      | zero => simp at hf; omega
      | succ f => simp; omega
theorem hinv_end {c n : Int} {ts : List Str} (I : HInv c n ts) (h1 : 1 ≤ n) (h : ¬ Int.fmod n 2 = 0) : ts ++ [Txt.mul (Str.ofString "\"") (Int.fdiv n 2)] = halves c := by
  obtain ⟨f, hf, _, e⟩ := I
  cases f with
  | zero => simp at hf; omega
  | succ f => rw [← e, tlH, if_neg h]
theorem add_lsts {prog : Program} {w : World} {A : Around} {E : Value → Shared → Prop} {s : Shared} {h₀ : Heap} {L l b : Addr} {m : Str → Option Value} {news : List (Addr × Obj)} {vs ws : List Value} {n1 n2 : Nat} {Q : Value → Shared → Prop}
    (F : Fr h₀ L s.heap m) (N : News h₀ L s.heap news) (h1 : (l, listOf vs.toArray n1) ∈ news) (h2 : (b, listOf ws.toArray n2) ∈ news) (hsz : vs.length + ws.length ≤ 1000)
    (h : ∀ D h', Fr h₀ L h' m → News h₀ L h' ((D, listOf (vs ++ ws).toArray 0) :: news) → (∀ p ∈ news, p.1 < D) → Q (.ref D) { s with heap := h' }) : wpAny (model prog w) A (binaryOp .Add (.ref l) (.ref b)) Q E s :=
  add_arrays (its := vs.toArray) (its2 := ws.toArray) (hsz := by rw [List.size_toArray, List.size_toArray, sizeLine_eq]; omega) F N (News.isList N h1) (News.isList N h2) fun h' F' N' => h _ h' F' N' fun p hp => Heap.lt_size (N p hp).1
theorem strs_push {h₀ : Heap} {L l : Addr} {h : Heap} {x : Str} {t : Tok} {n : Nat} {vs : List Value} {ts : List Str} {news : List (Addr × Obj)} (_ : News h₀ L h ((l, listOf (vs.toArray.push (.str x t)) n) :: news)) (S : StrsAre vs ts) : StrsAre (vs ++ [.str x t]) (ts ++ [x]) := StrsAre.append' S (.cons _ _ .nil)
section
variable {w : World} {mean : ExcName → Option Value} {mg mb : Str → Option Value} {dp un : Nat} {gd : Option (List Code)} {cn : Str} {cs : Scope} {a : Addr} {ccd : Value} {cl : List (Str × Addr)} {outer : List Env} {A₀ : Around} {base h₀ : Heap} {L : Addr} {m : Str → Option Value} {news : List (Addr × Obj)} {s : Shared} {Q E : Value → Shared → Prop}
theorem chalve {c : Int} {t : Tok} (Z : At 4 w mean mg mb dp un cs outer A₀ base h₀ L m news s.heap) (hc : 1 ≤ c) (hc2 : c ≤ 30)
    (hret : ∀ (l : Addr) (vs : List Value) (n : Nat) (h' : Heap) (tk' : Nat), Fr h₀ L h' m → News h₀ L h' ((l, listOf vs.toArray n) :: news) → StrsAre vs (halves c) → (∀ p ∈ news, p.1 < l) → Q (.ref l) { s with heap := h', toks := tk' }) :
    wpAny (model RP w) (ktrTop dp un gd cn cs L a ccd cl outer) (call (.ref 93) [.int c t]) Q E s := by
  obtain ⟨B, F, X, N, T, hk, hd, hu⟩ := Z
  (k_with "state" => first | exact hinv_start hc hc2 | exact hinv_go (by assumption) (by assumption) (by assumption) (by assumption))
  (k_with "my while" => (rename News _ _ _ _ => N9; (have hS := strs_one N9); k_while (fun _ n ts => HWord c n ts) (fun _ n _ => n.toNat) "count" "texts$"; all_goals (try clear hS)))
  (k_with "measure" => ((rename (_ : Int).fmod 2 = 0 => q9); rw [fdiv2]; omega))
  (k_with "my add" => (refine' add_lsts ?k1 ?k2 ?k3 ?k4 ?k5 ?_; (case k1 => k_asm); (case k2 => k_asm); (case k3 => k_mem); (case k4 => k_mem); (case k5 => (simp only [List.length_cons, List.length_nil]; omega)); intro D9 h9 F9 N9 l9))
  (k_with "my end" => (rename News _ _ _ _ => N9; rename StrsAre _ _ => S9; (have hS9 := strs_push N9 S9); clear S9; ksw_close))
  w_top off
  refine wpAny_call ?_
  k_dflt cell_enter
  k_steps
  all_goals k_with_none
  · rename StrsAre _ _ => S9
    rename News h₀ L _ _ => kN
    refine hret _ _ _ _ _ (by k_asm) (fun p hp => kN p (by
      rcases List.mem_cons.mp hp with rfl | hp
      · exact List.mem_cons_self ..
      · exact List.mem_cons_of_mem _ (List.mem_cons_of_mem _ (List.mem_cons_of_mem _ hp)))) ?_ (fun p hp => l9 p (List.mem_cons_of_mem _ (List.mem_cons_of_mem _ hp)))
    rw [← hinv_end (c := c) (by assumption) (by assumption) (by assumption)]
    exact StrsAre.append' S9 (.cons _ _ .nil)
end
end Mine
namespace Mine
theorem fillP : Challenge.rw_rl0013_01 = Challenge.rw_rl0013_01 ∧ hd.heap_39 = hd.heap_39 := by
  k_fill
  exact ⟨rfl, rfl⟩
def priceF (n : Int) : Int := (2 * Int.fmod n 1000000 + 1) * (1 - Int.fmod n 2 * 2)
section
variable {w : World} {mean : ExcName → Option Value} {mg mb : Str → Option Value} {dp un : Nat} {gd : Option (List Code)} {cn : Str} {cs : Scope} {a : Addr} {ccd : Value} {cl : List (Str × Addr)} {outer : List Env} {A₀ : Around} {base h₀ : Heap} {L : Addr} {m : Str → Option Value} {news : List (Addr × Obj)} {s : Shared} {Q E : Value → Shared → Prop}
theorem cprice {n : Int} {t : Tok} (Z : At 2 w mean mg mb dp un cs outer A₀ base h₀ L m news s.heap)
    (hret : ∀ (t : Tok) (h' : Heap) (tk' : Nat), Fr h₀ L h' m → News h₀ L h' news → Q (.int (priceF n) t) { s with heap := h', toks := tk' }) :
    wpAny (model RP w) (ktrTop dp un gd cn cs L a ccd cl outer) (call (.ref 100) [.int n t]) Q E s := by
  obtain ⟨B, F, X, N, T, hk, hd, hu⟩ := Z
  have hm1 : 0 ≤ Int.fmod n 1000000 := Int.fmod_nonneg_of_pos _ (by decide)
  have hm2 : Int.fmod n 1000000 < 1000000 := Int.fmod_lt_of_pos _ (by decide)
  have hm3 : 0 ≤ Int.fmod n 2 := Int.fmod_nonneg_of_pos _ (by decide)
  have hm4 : Int.fmod n 2 < 2 := Int.fmod_lt_of_pos _ (by decide)
  w_top off
  refine wpAny_call ?_
  k_dflt cell_enter
  k_steps
  exact hret _ _ _ (by k_asm) (by k_asm)
end
end Mine
namespace Mine
theorem fin_nat {P : Int → Prop} (h : ∀ n : Fin 30, P (n.val : Int)) {k : Int} (h0 : 0 ≤ k) (h1 : k < 30) : P k := by
  obtain ⟨n, rfl⟩ := Int.eq_ofNat_of_zero_le h0
  exact h ⟨n, by omega⟩
set_option maxHeartbeats 4000000 in
theorem read_half {k : Int} (h1 : 1 ≤ k) (h2 : k ≤ 29) : reads k 6 = halves k := by
  have : ∀ n : Fin 30, (1 : Int) ≤ (n.val : Int) → reads (n.val : Int) 6 = halves (n.val : Int) := by decide +kernel
  exact fin_nat (P := fun k => 1 ≤ k → reads k 6 = halves k) this (by omega) (by omega) h1
theorem single_last {k : Int} (h1 : 1 ≤ k) (h2 : k ≤ 29) : ∀ y, (halves k).getLast? = some y → singleF k = (y == Str.ofString "") := by
  have : ∀ n : Fin 30, (1 : Int) ≤ (n.val : Int) → (halves (n.val : Int)).getLast?.all (fun y => singleF (n.val : Int) == (y == Str.ofString "")) = true := by decide +kernel
  have := fin_nat (P := fun k => 1 ≤ k → (halves k).getLast?.all (fun y => singleF k == (y == Str.ofString "")) = true) this (k := k) (by omega) (by omega) h1
  intro y hy
  rw [hy] at this
  simpa using this
theorem p257_marks {k : Int} (h1 : 1 ≤ k) (h2 : k ≤ 29) : p257 (Str.ofString "257 \"" ++ Txt.mul (Str.ofString "\"") k) = Txt.mul (Str.ofString "\"") (Int.fdiv k 2) := by
  have : ∀ n : Fin 30, (1 : Int) ≤ (n.val : Int) → p257 (Str.ofString "257 \"" ++ Txt.mul (Str.ofString "\"") (n.val : Int)) = Txt.mul (Str.ofString "\"") (Int.fdiv (n.val : Int) 2) := by decide +kernel
  exact fin_nat (P := fun k => 1 ≤ k → p257 (Str.ofString "257 \"" ++ Txt.mul (Str.ofString "\"") k) = Txt.mul (Str.ofString "\"") (Int.fdiv k 2)) this (by omega) (by omega) h1
theorem half_lay {k : Int} (h1 : 1 ≤ k) (h2 : k ≤ 29) : PyData.canLayAll0 ((halves k).map .str) = true := by
  have : ∀ n : Fin 30, (1 : Int) ≤ (n.val : Int) → PyData.canLayAll0 ((halves (n.val : Int)).map .str) = true := by decide +kernel
  exact fin_nat (P := fun k => 1 ≤ k → PyData.canLayAll0 ((halves k).map .str) = true) this (by omega) (by omega) h1
theorem strs_via {h₀ : Heap} {news : List (Addr × Obj)} {a : Addr} {vs : List Value} {ts : List Str} {n : Nat} (hm : (a, listOf vs.toArray n) ∈ news) (S : StrsAre vs ts) : ReadsVia h₀ news (.ref a) (.list (ts.map .str)) := fun h _ hn =>
  ⟨[a], .list (hn _ hm) rfl rfl (by rw [List.toList_toArray]; exact StrsAre.reads h S)⟩
theorem ne_texts {prog : Program} {w : World} {A : Around} {E : Value → Shared → Prop} {s : Shared} {h₀ : Heap} {L a b : Addr} {m : Str → Option Value} {news : List (Addr × Obj)} {vs us : List Value} {ts : List Str} {n k : Nat} {Q : Value → Shared → Prop}
    (F : Fr h₀ L s.heap m) (N : News h₀ L s.heap news) (hm : (a, listOf vs.toArray n) ∈ news) (hk : (b, listOf us.toArray k) ∈ news) (S : StrsAre vs ts) (T : StrsAre us ts) (hl : PyData.canLayAll0 (ts.map .str) = true) (hu : A.units + 2 < cLine)
    (h : Q (.bool false) s) : wpAny (model prog w) A (compareOp .NotEq (.ref a) (.ref b)) Q E s := by
  have hd : ∀ l : List Str, PyData.depthAll (l.map .str) = 0 := by
    intro l
    induction l with
    | nil => rfl
    | cons x r ih => simp [PyData.depthAll, PyData.depth, ih]
  refine compareNe_via (strs_via hm S) (strs_via hk T) F N hl hl ?_ ?_
  · simp only [PyData.depth, hd]
    omega
  · have : PyData.eqv (.list (ts.map .str)) (.list (ts.map .str)) = true := PySem.SeqAt.eqv_refl _ hl
    rw [this]
    exact h
end Mine
namespace Mine
def v2 (k : Int) : Int := if k % 2 = 1 then 0 else if k % 4 = 2 then 1 else if k % 8 = 4 then 2 else if k % 16 = 8 then 3 else 4
theorem half_len {k : Int} (h1 : 1 ≤ k) (h2 : k ≤ 29) : ((halves k).length : Int) - 2 = v2 k := by
  have : ∀ n : Fin 30, (1 : Int) ≤ (n.val : Int) → ((halves (n.val : Int)).length : Int) - 2 = v2 (n.val : Int) := by decide +kernel
  exact fin_nat (P := fun k => 1 ≤ k → ((halves k).length : Int) - 2 = v2 k) this (by omega) (by omega) h1
def prodL (l : List Int) : Int := l.foldl (· * ·) 1
def uppF (ns : List Int) (f P : Int) (pre : List Int) : Int := pre.foldl (fun u k => u + priceF (ns.getD (2 + k - (1 + f)).toNat 0) * Int.fdiv P k) 0
def mxL (l : List Int) : Int := l.foldl max 0
def ksOf (f g : Int) : List Int := rangeKs (1 + f) (1 + f + 1 + g + 1 - (1 + f)).toNat
def eA (f g : Int) : Nat := ((ksOf f g).map v2).sum.toNat
def eM (f g : Int) : Int := mxL ((ksOf f g).map v2)
def eB (f g : Int) : Nat := (((ksOf f g).map v2).sum - eM f g).toNat
abbrev Facts (f g : Int) : Prop := highF (Builtin.bitXor (1 + f - 1) (1 + f + 1 + g)) = eM f g ∧ eM f g ∈ (ksOf f g).map v2 ∧ (∀ a ∈ (ksOf f g).map v2, a ≤ eM f g) ∧ ((ksOf f g).map v2).sum = (eA f g : Int) ∧ ((ksOf f g).map v2).sum - eM f g = (eB f g : Int) ∧
  prodL (ksOf f g) % 2 ^ (eA f g + 1) = 2 ^ eA f g ∧ (∀ k ∈ ksOf f g, Int.fdiv (prodL (ksOf f g)) k % 2 ^ eB f g = 0) ∧ ((ksOf f g).map (Int.fdiv (prodL (ksOf f g)))).sum % 2 ^ (eB f g + 1) = 2 ^ eB f g
theorem facts_all : ∀ f : Fin 24, ∀ g : Fin 5, Facts (f.val : Int) (g.val : Int) := by decide +kernel
theorem facts_of {f g : Int} (hf1 : 0 ≤ f) (hf2 : f < 24) (hg1 : 0 ≤ g) (hg2 : g < 5) : Facts f g := by
  obtain ⟨m, rfl⟩ := Int.eq_ofNat_of_zero_le hf1
  obtain ⟨n, rfl⟩ := Int.eq_ofNat_of_zero_le hg1
  exact facts_all ⟨m, by omega⟩ ⟨n, by omega⟩
theorem price_odd (n : Int) : priceF n % 2 = 1 := by
  unfold priceF
  have hm3 : 0 ≤ Int.fmod n 2 := Int.fmod_nonneg_of_pos _ (by decide)
  have hm4 : Int.fmod n 2 < 2 := Int.fmod_lt_of_pos _ (by decide)
  have : Int.fmod n 2 = 0 ∨ Int.fmod n 2 = 1 := by omega
  rcases this with h | h <;> rw [h] <;> omega
theorem odd_mul {p c : Int} {e : Nat} (hp : p % 2 = 1) (hc : c % 2 ^ e = 0) : (p * c - c) % 2 ^ (e + 1) = 0 := by
  obtain ⟨q, rfl⟩ : ∃ q, p = 2 * q + 1 := ⟨p / 2, by omega⟩
  obtain ⟨d, rfl⟩ := Int.dvd_of_emod_eq_zero hc
  apply Int.emod_eq_zero_of_dvd
  refine ⟨q * d, ?_⟩
  rw [Int.pow_succ, Int.add_mul, Int.one_mul]
  have : 2 * q * (2 ^ e * d) + 2 ^ e * d - 2 ^ e * d = 2 * q * (2 ^ e * d) := by omega
  rw [this, Int.mul_comm (2 ^ e) 2, Int.mul_assoc, Int.mul_assoc, Int.mul_left_comm q]
theorem upp_mod (p : Int → Int) (P : Int) (e : Nat) (hp : ∀ k, p k % 2 = 1) : ∀ (l : List Int) (u v : Int), (∀ k ∈ l, Int.fdiv P k % 2 ^ e = 0) → (u - v) % 2 ^ (e + 1) = 0 →
    (l.foldl (fun u k => u + p k * Int.fdiv P k) u - (v + (l.map (Int.fdiv P)).sum)) % 2 ^ (e + 1) = 0
  | [], u, v, _, h => by simpa using h
  | k :: r, u, v, hl, h => by
    have h1 := odd_mul (e := e) (hp k) (hl k (List.mem_cons_self ..))
    have h2 : (u + p k * Int.fdiv P k - (v + Int.fdiv P k)) % 2 ^ (e + 1) = 0 := by
      have : u + p k * Int.fdiv P k - (v + Int.fdiv P k) = (u - v) + (p k * Int.fdiv P k - Int.fdiv P k) := by omega
      rw [this, Int.add_emod, h, h1]
      simp
    have := upp_mod p P e hp r _ _ (fun k hk => hl k (List.mem_cons_of_mem _ hk)) h2
    rw [List.foldl_cons, List.map_cons, List.sum_cons, ← Int.add_assoc]
    exact this
theorem upper_low {ns : List Int} {f g : Int} (hf1 : 0 ≤ f) (hf2 : f < 24) (hg1 : 0 ≤ g) (hg2 : g < 5) : uppF ns f (prodL (ksOf f g)) (ksOf f g) % 2 ^ (eB f g + 1) = 2 ^ eB f g := by
  obtain ⟨_, _, _, _, _, _, h1, h2⟩ := facts_of hf1 hf2 hg1 hg2
  have := upp_mod (fun k => priceF (ns.getD (2 + k - (1 + f)).toNat 0)) (prodL (ksOf f g)) (eB f g) (fun k => price_odd _) (ksOf f g) 0 0 h1 (by simp)
  rw [Int.zero_add] at this
  unfold uppF
  rw [← h2]
  exact Int.emod_eq_emod_iff_emod_sub_eq_zero.mpr this
end Mine
namespace Mine
theorem nums_len (w : List Int) : (List.take (Int.toNat 8) w ++ List.drop (((List.take (Int.toNat 8) w).length : Int)).toNat [8, 3, 0, -1, 2, 1, -3, 2]).length = 8 := by
  rw [List.length_append, List.length_drop, List.length_take, show Int.toNat 8 = 8 from rfl]
  simp only [List.length_cons, List.length_nil]
  omega
theorem news_one {h₀ : Heap} {L : Addr} {h : Heap} {p : Addr × Obj} {news : List (Addr × Obj)} (N : News h₀ L h (p :: news)) : News h₀ L h [p] := fun q hq => N q (by rw [List.mem_singleton.mp hq]; exact List.mem_cons_self ..)
abbrev PWord (pre : List Int) (p : Int) : Prop := p = prodL pre ∧ 0 < p ∧ p ≤ 29 ^ pre.length ∧ p ≤ 594823321
theorem pow29 {n : Nat} (h : n ≤ 6) : (29 : Int) ^ n ≤ 594823321 := by
  have : ∀ n : Fin 7, (29 : Int) ^ n.val ≤ 594823321 := by decide
  exact this ⟨n, by omega⟩
theorem prod_start : PWord [] 1 := ⟨rfl, by decide, by decide, by decide⟩
theorem prod_go {pre : List Int} {p k f g : Int} (h1 : p = prodL pre) (h2 : 0 < p) (h3 : p ≤ 29 ^ pre.length) (hk : k = 1 + f + (pre.length : Int)) (hlt : pre.length < (1 + f + 1 + g + 1 - (1 + f)).toNat) (hf1 : 0 ≤ f) (hf2 : f < 24) (hg2 : g < 5) : PWord (pre ++ [k]) (p * k) := by
  have hp : pre.length ≤ 5 := by omega
  have hk1 : 0 < k := by omega
  have hk2 : k ≤ 29 := by omega
  have hb : p * k ≤ 29 ^ (pre ++ [k]).length := by
    rw [List.length_append, List.length_singleton, Int.pow_succ]
    exact Int.mul_le_mul h3 hk2 (by omega) (by have := Int.pow_pos (n := 29) (m := pre.length) (by decide); omega)
  refine ⟨?_, Int.mul_pos h2 hk1, hb, Int.le_trans hb (pow29 (by rw [List.length_append, List.length_singleton]; omega))⟩
  rw [h1]
  simp [prodL]
abbrev MWord (ns : List Int) (f P : Int) (pre : List Int) (kept : List Int) (upper : Int) : Prop := kept = pre.map v2 ∧ upper = uppF ns f P pre ∧ kept.length = pre.length
theorem main_start {ns : List Int} {f P : Int} : MWord ns f P [] [] 0 := ⟨rfl, rfl, rfl⟩
theorem price_lo (n : Int) : -2000000 ≤ priceF n := by
  have hm1 : 0 ≤ Int.fmod n 1000000 := Int.fmod_nonneg_of_pos _ (by decide)
  have hm2 : Int.fmod n 1000000 < 1000000 := Int.fmod_lt_of_pos _ (by decide)
  have hm3 : 0 ≤ Int.fmod n 2 := Int.fmod_nonneg_of_pos _ (by decide)
  have hm4 : Int.fmod n 2 < 2 := Int.fmod_lt_of_pos _ (by decide)
  unfold priceF
  have : Int.fmod n 2 = 0 ∨ Int.fmod n 2 = 1 := by omega
  rcases this with h | h <;> rw [h] <;> omega
theorem price_hi (n : Int) : priceF n ≤ 2000000 := by
  have hm1 : 0 ≤ Int.fmod n 1000000 := Int.fmod_nonneg_of_pos _ (by decide)
  have hm2 : Int.fmod n 1000000 < 1000000 := Int.fmod_lt_of_pos _ (by decide)
  have hm3 : 0 ≤ Int.fmod n 2 := Int.fmod_nonneg_of_pos _ (by decide)
  have hm4 : Int.fmod n 2 < 2 := Int.fmod_lt_of_pos _ (by decide)
  unfold priceF
  have : Int.fmod n 2 = 0 ∨ Int.fmod n 2 = 1 := by omega
  rcases this with h | h <;> rw [h] <;> omega
theorem l229 : (Str.ofString "229 ").length = 4 := by decide
theorem lpl : (Str.ofString "(").length = 1 := by decide
theorem lpr : (Str.ofString ")").length = 1 := by decide
theorem lz : (Str.ofString "z").length = 1 := by decide
theorem lq : (Str.ofString "\"").length = 1 := by decide
theorem l257 : (Str.ofString "257 \"").length = 5 := by decide
theorem mul_le (x : Str) (n : Int) : (Txt.mul x n).length ≤ x.length * n.toNat := by
  unfold Txt.mul
  split
  · exact Nat.zero_le _
  · split
    · rename_i h1 h2
      simp only [Bool.or_eq_true, beq_iff_eq] at h2
      rcases h2 with h2 | h2
      · subst h2; simp
      · rw [h2]; simp
    · have : ∀ (n : Nat) (acc : Array Nat), ((List.replicate n x.cps).foldl (· ++ ·) acc).size = acc.size + x.length * n := by
        intro n
        induction n with
        | zero => intro acc; simp
        | succ n ih => intro acc; rw [List.replicate_succ, List.foldl_cons, ih, Array.size_append, Nat.mul_succ]; simp only [Str.length]; omega
      show ((List.replicate n.toNat x.cps).foldl (· ++ ·) #[]).size ≤ _
      rw [this]
      simp
theorem main_go {ns : List Int} {f P k upper : Int} {pre kept : List Int} (h1 : kept = pre.map v2) (h2 : upper = uppF ns f P pre) (h3 : kept.length = pre.length) (hk1 : 1 ≤ k) (hk2 : k ≤ 29) :
    MWord ns f P (pre ++ [k]) (kept ++ [((halves k).length : Int) - 2]) (upper + priceF (ns.getD (2 + k - (1 + f)).toNat 0) * Int.fdiv P k) := by
  refine ⟨?_, ?_, by simp [h3]⟩
  · rw [half_len hk1 hk2, List.map_append, ← h1]
    rfl
  · rw [h2]
    simp [uppF]
theorem max_is {prog : Program} {w : World} {A : Around} {E : Value → Shared → Prop} {s : Shared} {h₀ : Heap} {L l : Addr} {m : Str → Option Value} {news : List (Addr × Obj)} {vs : List Value} {ns : List Int} {Q : Value → Shared → Prop} {M : Int}
    (F : Fr h₀ L s.heap m) (N : News h₀ L s.heap news) (hl : s.heap.IsList l vs.toArray) (hi : IntsAre vs ns) (h1 : M ∈ ns) (h2 : ∀ a ∈ ns, a ≤ M) (hh : A.handled = none)
    (h : ∀ h' (t : Tok) tk, Fr h₀ L h' m → News h₀ L h' news → Q (.int M t) { s with heap := h', toks := tk }) : wpAny (model prog w) A (call (.builtin "max") [.ref l]) Q E s :=
  kso_max F N hl hi (List.length_pos_of_mem h1) hh fun h' M' t tk F' N' a b => by
    have e : M' = M := Int.le_antisymm (h2 _ a) (b _ h1)
    subst e
    exact h h' t tk F' N'
theorem isnot_same {M : Model} {A : Around} {E : Value → Shared → Prop} {s : Shared} {Q : Value → Shared → Prop} {c d : Bool} (e : c = d) (h : Q (.bool false) s) : wpAny M A (compareOp .IsNot (.bool c) (.bool d)) Q E s := by
  refine isnot_bool ?_
  subst e
  cases c <;> exact h
theorem ne_same {prog : Program} {w : World} {A : Around} {E : Value → Shared → Prop} {s : Shared} {Q : Value → Shared → Prop} {a b : Int} {t u : Tok} (e : a = b) (h : Q (.bool false) s) : wpAny (model prog w) A (compareOp .NotEq (.int a t) (.int b u)) Q E s := by
  refine PyProof.Rows.ne_int ?_
  subst e
  rw [bne_self_eq_false]
  exact h
theorem and_low {prog : Program} {w : World} {A : Around} {E : Value → Shared → Prop} {s : Shared} {Q : Value → Shared → Prop} {n : Int} {t u : Tok} {e : Nat} (hl : n % 2 ^ (e + 1) = 2 ^ e) (h : Q (.int (2 ^ e) s.toks) { s with toks := s.toks + 1 }) : wpAny (model prog w) A (binaryOp .BitAnd (.int n t) (.int (-n) u)) Q E s := by
  refine PyProof.Rows.and_int ?_
  rw [low_and hl]
  exact h
theorem single_whole {w : Int} {e : Nat} (h : w % 2 ^ (e + 1) = 2 ^ e) : singleF w = (w == 2 ^ e) := by
  unfold singleF
  rw [if_neg (low_ne h), low_and1 h, Bool.eq_iff_iff, beq_iff_eq, beq_iff_eq]
  omega
theorem single_pow (e : Nat) : singleF (2 ^ e) = true := by
  rw [single_whole (pow_low e), beq_self_eq_true]
theorem high_pow (e : Nat) : highF (2 ^ e) = (e : Int) := by
  unfold highF
  rw [bits_pow]
  omega
theorem high_pow1 (e : Nat) : highF (2 ^ e - 1) = (e : Int) - 1 := by
  unfold highF
  rw [bits_pow1]
theorem len_strs {prog : Program} {w : World} {A : Around} {E : Value → Shared → Prop} {s : Shared} {h₀ : Heap} {L l : Addr} {news : List (Addr × Obj)} {vs : List Value} {ts : List Str} {n : Nat} {Q : Value → Shared → Prop}
    (N : News h₀ L s.heap news) (hm : (l, listOf vs.toArray n) ∈ news) (S : StrsAre vs ts) (hb : ts.length ≤ 1000) (h : Q (.int ts.length (s.toks + 1)) { s with toks := s.toks + 1 + 1 }) : wpAny (model prog w) A (call (.builtin "len") [.ref l]) Q E s := by
  have e : vs.toArray.size = ts.length := by simp [S.length]
  refine PyProof.Rows.len_list (News.isList N hm) ?_ (by rw [e]; exact h)
  rw [e]
  omega
theorem half_short {k : Int} (h1 : 1 ≤ k) (h2 : k ≤ 29) : (halves k).length ≤ 1000 := by
  have := half_len h1 h2
  have hv : v2 k ≤ 4 := by unfold v2; split; omega; split; omega; split; omega; split <;> omega
  omega
theorem ne_strs {prog : Program} {w : World} {A : Around} {E : Value → Shared → Prop} {s : Shared} {Q : Value → Shared → Prop} {x : Str} {t u : Tok} (h : Q (.bool false) s) : wpAny (model prog w) A (compareOp .NotEq (.str x t) (.str x u)) Q E s := by
  refine PySem.P.ne_str ?_
  rw [bne_self_eq_false]
  exact h
end Mine
namespace Mine
local macro_rules | `(tactic| walk_at "pyIter ref") => `(tactic| k_dflt (k_extra "my pyIter"))
local macro_rules | `(tactic| walk_at "subscriptTail Name Slice ref ref") => `(tactic| (k_here; k_dflt (refine' kmk_slice_ints ?F ?N ?l ?p ?q ?i ?m ?c ?_ ?s ?t ?z; (case F => k_asm); (case N => k_asm); (case l => kmk_list); (case p => kmk_part); (case q => kmk_part); (case i => l_ints); (case m => first | exact kmk_from (by l_ints) (Int.natCast_nonneg _) | exact kmk_upto (by l_ints) (by decide)); (case c => kmk_len); (case s => with_unfolding_all rfl); (case t => kmk_pure); (case z => kmk_size)); intro D' ws' h' F' N' l1 hI' hC' hL'; (try k_lt l1); (try k_sweep)))
local macro_rules | `(tactic| walk_at "subscriptTail List") => `(tactic| (k_here; k_dflt (refine kba_turn (value' := PySem.Expr.Name (PySem.Str.ofString "_") ⟨0, 0, 0, 0⟩) (fun _ => rfl) ?_)))
local macro_rules | `(tactic| walk_at "binaryOp Add str str") => `(tactic| (k_here; k_dflt (refine PyProof.Rows.add_str (hsz := by (simp only [Str.length_append, l229, lpl, lpr, lz, lq, l257]; rw [sizeLine_eq]; omega)) ?_; intro t' tk')))
local macro_rules | `(tactic| walk_at "call type:str") => `(tactic| (k_here; (with_reducible show wpAny _ _ (call (Value.type "str") [Value.ref _]) _ _ _); k_dflt (refine' str_pair ?F ?N ?m ?a ?b ?g ?u ?_; (case F => k_asm); (case N => k_asm); (case m => k_mem); (case a => omega); (case b => omega); (case g => exact rfl); (case u => ktr_units); intro h' u' tk' F' N'; (try k_sweep))))
local macro_rules | `(tactic| walk_at "call ref") => `(tactic| k_dflt (k_extra "my call"))
local macro_rules | `(tactic| walk_at "binaryOp BitAnd int int") => `(tactic| (k_here; k_dflt (k_extra "my and")))
local macro_rules | `(tactic| walk_at "compareOp IsNot bool bool") => `(tactic| (k_here; k_dflt (k_extra "my isnot")))
local macro_rules | `(tactic| walk_at "compareOp NotEq int int") => `(tactic| (k_here; k_dflt (k_extra "my ne")))
local macro_rules | `(tactic| walk_at "eval Call") => `(tactic| (k_here; k_dflt (k_extra "my eval")))
local macro_rules | `(tactic| walk_at "compareOp NotEq str str") => `(tactic| (k_here; k_dflt (refine ne_strs ?_)))
local macro_rules | `(tactic| walk_at "compareOp NotEq ref ref") => `(tactic| (k_here; k_dflt (k_extra "my texts")))
local macro_rules | `(tactic| walk_at "subscriptTail Name UnaryOp") => `(tactic| (k_here; k_dflt (k_extra "my last")))
local macro_rules | `(tactic| walk_at "call builtin:len") => `(tactic| (k_here; k_dflt (k_extra "my len")))
local macro_rules | `(tactic| walk_at "call builtin:max") => `(tactic| (k_here; k_dflt (k_extra "my max")))
structure Park (P : Prop) : Prop where
  out : P
theorem t : PySem.Challenge.rw_rl0013_01.Holds := by
  w_on
  refine hd ?_
  k_go0
  (all_goals try k_fold)
  (k_with "my pyIter" => refine Park.out ?_)
  k_steps
  refine ⟨?_⟩
  rename IntsAre _ (List.take 8 _ ++ List.drop _ _) => hN
  rename List Int => script
  have hlen := nums_len script
  rename News _ _ _ _ => N9
  have N8 := news_one N9
  clear N9
  generalize hns : List.take (Int.toNat 8) script ++ List.drop (((List.take (Int.toNat 8) script).length : Int)).toNat [8, 3, 0, -1, 2, 1, -3, 2] = ns at *
  clear hns
  have hf1 : 0 ≤ (ns.getD (Int.toNat 0) 0).fmod 24 := Int.fmod_nonneg_of_pos _ (by decide)
  have hf2 : (ns.getD (Int.toNat 0) 0).fmod 24 < 24 := Int.fmod_lt_of_pos _ (by decide)
  have hg1 : 0 ≤ (ns.getD (Int.toNat 1) 0).fmod 5 := Int.fmod_nonneg_of_pos _ (by decide)
  have hg2 : (ns.getD (Int.toNat 1) 0).fmod 5 < 5 := Int.fmod_lt_of_pos _ (by decide)
  generalize (ns.getD (Int.toNat 0) 0).fmod 24 = f at *
  generalize (ns.getD (Int.toNat 1) 0).fmod 5 = g at *
  (k_with "state" => first | exact prod_start | exact prod_go (by assumption) (by assumption) (by assumption) (by assumption) (by assumption) (by assumption) (by assumption) (by assumption))
  k_state (fun pre p => PWord pre p) "product"
  k_steps
  refine ⟨?_⟩
  k_with_none
  (k_with "state" => first | exact main_start)
  k_state_given ["product"] (fun P pre kept upper => MWord ns f P pre kept upper) "kept" "upper"
  · have hk1 : 1 ≤ kN := by omega
    have hk2 : kN ≤ 29 := by omega
    have hk3 : 0 ≤ Int.fmod kN 4 := Int.fmod_nonneg_of_pos _ (by decide)
    have hk4 : Int.fmod kN 4 < 4 := Int.fmod_lt_of_pos _ (by decide)
    have hk5 : 0 ≤ Int.fmod kN 2 := Int.fmod_nonneg_of_pos _ (by decide)
    have hk6 : Int.fmod kN 2 < 2 := Int.fmod_lt_of_pos _ (by decide)
    have hp1 := price_lo (ns.getD (2 + kN - (1 + f)).toNat 0)
    have hp2 := price_hi (ns.getD (2 + kN - (1 + f)).toNat 0)
    have hl1 := int_len (n := kN) (by omega) (by omega)
    have hl2 := int_len (n := priceF (ns.getD (2 + kN - (1 + f)).toNat 0)) (by omega) (by omega)
    have hl3 : (Txt.mul (Str.ofString "z") (kN.fmod 2)).length ≤ 1 := Nat.le_trans (mul_le _ _) (by rw [lz]; omega)
    have hl4 : (Txt.mul (Txt.item (Str.ofString "|!x/") (kN.fmod 4)) 2).length ≤ 2 := Nat.le_trans (mul_le _ _) (by show 1 * 2 ≤ 2; omega)
    have hl5 : (Txt.item (Str.ofString "|!x/") (kN.fmod 4)).length = 1 := rfl
    have hne : ((pairD (priceF (ns.getD (2 + kN - (1 + f)).toNat 0))).shown != (pairD (priceF (ns.getD (2 + kN - (1 + f)).toNat 0))).shown) = false := by simp
    have hd1 : 0 < kN := by omega
    obtain ⟨cm, hcm1, hcm2⟩ := mark_at hk3 hk4
    (k_with "my call" => (refine cprice ⟨by k_asm, by k_asm, by k_asm, by k_asm, by k_asm, by first | rfl | assumption, by ktr_room, by ktr_units⟩ ?_; intro t8 h8 tk8 F8 N8))
    (k_with "my call" => (refine c229 ⟨by k_asm, by k_asm, by k_asm, by k_asm, by k_asm, by first | rfl | assumption, by ktr_room, by ktr_units⟩ (reply_side hcm1 hcm2 (side_free hk5 hk6) (by omega) (by omega)) (by (simp only [Str.length_append, l229, lpl, lpr, lz, lq, l257]; omega)) ?_; intro D8 t9 h9 tk9 F9 N9 lt8 lt9; clear hcm1; (simp only [AllLt, and_true] at lt9)))
    (k_with "my call" => (refine cread ⟨by k_asm, by k_asm, by k_asm, by k_asm, by k_asm, by first | rfl | assumption, by ktr_room, by ktr_units⟩ hk1 (by omega) ?_; intro l7 vs7 n7 h7 tk7 F7 N7 S7 lt7; rw [read_half hk1 hk2] at S7; k_lt lt7))
    (k_with "my call" => (refine chalve ⟨by k_asm, by k_asm, by k_asm, by k_asm, by k_asm, by first | rfl | assumption, by ktr_room, by ktr_units⟩ hk1 (by omega) ?_; intro l6 vs6 n6 h6 tk6 F6 N6 S6 lt6; k_lt lt6))
    (k_with "my texts" => refine ne_texts (by k_asm) (by k_asm) (by k_mem) (by k_mem) S7 S6 (half_lay hk1 hk2) (by ktr_units) ?_)
    (k_with "my eval" => refine Call_ ?_)
    (k_with "my call" => (refine csingle ⟨by k_asm, by k_asm, by k_asm, by k_asm, by k_asm, by first | rfl | assumption, by ktr_room, by ktr_units⟩ ?_; intro h5 tk5 F5 N5))
    (k_with "my last" => (refine last_text (by k_asm) (by k_mem) S7 (by simp [halves]) ?_; intro y9 t9 hy9; (have hsl := single_last hk1 hk2 y9 hy9); clear hy9 hl3 hl4 hl5 hcm2))
    (k_with "my isnot" => (refine isnot_same hsl ?_; clear hsl))
    (k_with "my call" => (refine c257 ⟨by k_asm, by k_asm, by k_asm, by k_asm, by k_asm, by first | rfl | assumption, by ktr_room, by ktr_units⟩ (head_cat _) (by (have hl6 := mul_le (Str.ofString "\"") kN; rw [lq] at hl6; rw [Str.length_append, l257]; omega)) ?_; intro t4 h4 tk4 F4 N4; rw [p257_marks hk1 hk2]))
    (k_with "my len" => refine len_strs (by k_asm) (by k_mem) S7 (half_short hk1 hk2) ?_)
    (k_with "state" => exact main_go (by assumption) (by assumption) (by assumption) hk1 hk2)
    k_steps
    all_goals k_with_none
  · obtain ⟨hA1, hA2, hA3, hA4, hA5, hA6, hA7, hA8⟩ := facts_of hf1 hf2 hg1 hg2
    have hU := upper_low (ns := ns) hf1 hf2 hg1 hg2
    have hKs : rangeKs (1 + f) (1 + f + 1 + g + 1 - (1 + f)).toNat = ksOf f g := rfl
    rename (_ : List Int) = List.map v2 _ => hK
    rename (_ : Int) = uppF _ _ _ _ => hUp
    rename (_ : Int) = prodL _ => hPr
    rw [hKs] at hK hUp hPr
    rw [hPr] at hUp
    rw [← hUp] at hU
    rw [← hPr] at hA6
    rw [← hK] at hA2 hA3 hA4 hA5
    rename (_ : Int) ≤ 594823321 => hPb
    clear hA7 hA8 hUp hPr hK hKs
    (rename (_ : Int) ≤ 29 ^ _ => hq1); clear hq1
    (rename List.length _ = List.length (rangeKs _ _) => hq2); clear hq2
    (rename IsRange _ _ _ _ _ _ _ _ => hq3); clear hq3
    (rename IsRange _ _ _ _ _ _ _ _ => hq4); clear hq4
    generalize eM f g = M at *
    generalize eA f g = eA at *
    generalize eB f g = eB at *
    have hS1 : highF (2 ^ eA) = _ := (high_pow eA).trans hA4.symm
    have hS2 : highF (2 ^ eA - 1) = _ := (high_pow1 eA).trans (congrArg (· - 1) hA4.symm)
    have hS3 : highF (2 ^ eB) = _ := (high_pow eB).trans hA5.symm
    have hS4 : highF (2 ^ eB - 1) = _ := (high_pow1 eB).trans (congrArg (· - 1) hA5.symm)
    have hT1 := single_whole hA6
    have hT2 := single_whole hU
    have hT3 := single_pow eA
    have hT4 := single_pow eB
    (k_with "my and" => first | refine and_low hA6 ?_ | refine and_low hU ?_)
    (k_with "my isnot" => refine isnot_same (by assumption) ?_)
    (k_with "my ne" => refine ne_same (by assumption) ?_)
    (k_with "my eval" => refine Call_ ?_)
    (k_with "my call" => first | (refine csingle ⟨by k_asm, by k_asm, by k_asm, by k_asm, by k_asm, by first | rfl | assumption, by ktr_room, by ktr_units⟩ ?_; intro h5 tk5 F5 N5) | (refine chigh ⟨by k_asm, by k_asm, by k_asm, by k_asm, by k_asm, by first | rfl | assumption, by ktr_room, by ktr_units⟩ ?_; intro t8 h8 tk8 F8 N8))
    (k_with "my max" => (refine max_is (by k_asm) (by k_asm) (by kso_list) (by l_ints) hA2 hA3 (by with_unfolding_all rfl) ?_; intro h7 t7 tk7 F7 N7))
    k_steps
end Mine
theorem PySem.Challenge.cw_rl0013_01_holds : PySem.Challenge.rw_rl0013_01.Holds := by
  exact Mine.t
