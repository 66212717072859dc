import PyProof.Rows.All
import Wide.All
import OpenK.AllK
import Wide.FinOn
import KE.KDictIter
import Lean
import PySem.Challenge.RW_rw0018_02
set_option Elab.async false
section
open PySem PySem.W PyProof.Rows
set_option Elab.async false
set_option maxRecDepth 100000
namespace Mine
open Builtin Builtin.Str in
section
def ofL (l : List Nat) : Str := ⟨l.toArray⟩
theorem len_eq (x : Str) : x.cps.toList.length = x.length := by simp [PySem.Str.length]
theorem ofL_toList (x : Str) : ofL x.cps.toList = x := PySem.Str.ext' rfl
theorem ofL_length (l : List Nat) : (ofL l).length = l.length := by simp [ofL, PySem.Str.length]
theorem ofL_append (a b : List Nat) : ofL a ++ ofL b = ofL (a ++ b) := PySem.Str.ext' (by simp [ofL, PySem.Str.cps_append])
theorem ofL_list (l : List Nat) : (ofL l).cps.toList = l := rfl
theorem ofL_inj {a b : List Nat} : ofL a = ofL b ↔ a = b := ⟨fun h => by have := congrArg (fun s : Str => s.cps.toList) h; simpa [ofL] using this, fun h => by rw [h]⟩
theorem ofL_beq (a b : List Nat) : (ofL a == ofL b) = (a == b) := by
  rw [Bool.eq_iff_iff, beq_iff_eq, beq_iff_eq, ofL_inj]
theorem ofL_bne (a b : List Nat) : (ofL a != ofL b) = (a != b) := by
  unfold bne; rw [ofL_beq]
theorem eq_ofL {x : Str} {l : List Nat} (h : x.cps.toList = l) : x = ofL l := by rw [← h, ofL_toList]

/-! replace, on lists -/
def repL (p z : List Nat) : Nat → List Nat → List Nat
  | _, [] => []
  | k + 1, _ :: r => repL p z k r
  | 0, c :: r => if p.isPrefixOf (c :: r) then z ++ repL p z (p.length - 1) r else c :: repL p z 0 r
theorem repL_nil (p z : List Nat) (k : Nat) : repL p z k [] = [] := by cases k <;> rfl
theorem repL_skip (p z : List Nat) : ∀ (k : Nat) (l : List Nat), repL p z k l = repL p z 0 (l.drop k)
  | 0, _ => rfl
  | k + 1, [] => by rw [List.drop_nil, repL_nil, repL_nil]
  | k + 1, _ :: r => by rw [List.drop_succ_cons]; exact repL_skip p z k r
theorem repL_hit {p z l : List Nat} (hp : p ≠ []) (h : p <+: l) : repL p z 0 l = z ++ repL p z 0 (l.drop p.length) := by
  cases l with
  | nil => exact absurd (List.prefix_nil.mp h) hp
  | cons c r =>
    show (if p.isPrefixOf (c :: r) then z ++ repL p z (p.length - 1) r else c :: repL p z 0 r) = _
    rw [if_pos (List.isPrefixOf_iff_prefix.mpr h), repL_skip]
    obtain ⟨a, q, rfl⟩ : ∃ a q, p = a :: q := by cases p with | nil => exact absurd rfl hp | cons a q => exact ⟨a, q, rfl⟩
    rfl
theorem repL_miss {p z r : List Nat} {c : Nat} (h : ¬ p <+: (c :: r)) : repL p z 0 (c :: r) = c :: repL p z 0 r := by
  show (if p.isPrefixOf (c :: r) then z ++ repL p z (p.length - 1) r else c :: repL p z 0 r) = _
  rw [if_neg (fun q => h (List.isPrefixOf_iff_prefix.mp q))]
theorem repL_none {p z : List Nat} : ∀ (l : List Nat), (∀ k, k < l.length → ¬ p <+: l.drop k) → repL p z 0 l = l
  | [], _ => rfl
  | c :: r, h => by
    rw [repL_miss (h 0 (Nat.succ_pos _)), repL_none r fun k hk => h (k + 1) (Nat.succ_lt_succ hk)]
theorem repL_first {p z : List Nat} (hp : p ≠ []) : ∀ (n : Nat) (l : List Nat), (∀ j, j < n → ¬ p <+: l.drop j) → p <+: l.drop n → repL p z 0 l = l.take n ++ (z ++ repL p z 0 (l.drop (n + p.length)))
  | 0, l, _, h => by rw [Nat.zero_add]; exact repL_hit hp h
  | n + 1, [], _, h => by rw [List.drop_nil] at h; exact absurd (List.prefix_nil.mp h) hp
  | n + 1, c :: r, hn, h => by
    rw [repL_miss (hn 0 (Nat.succ_pos _)), repL_first hp n r (fun j hj => hn (j + 1) (Nat.succ_lt_succ hj)) h]
    have e : n + 1 + p.length = (n + p.length) + 1 := by omega
    rw [e, List.drop_succ_cons, List.take_succ_cons]
    rfl

theorem at_iff (x y : Str) (hy : 1 ≤ y.length) (k : Nat) : StrLaws.At x y x.length k ↔ y.cps.toList <+: x.cps.toList.drop k := by
  unfold StrLaws.At
  rw [StrLaws.subAt_eq, beq_iff_eq, List.prefix_iff_eq_take, len_eq]
  constructor
  · exact fun h => h.2.symm
  · intro h
    refine ⟨?_, h.symm⟩
    have h1 := congrArg List.length h
    rw [len_eq, List.length_take, List.length_drop, len_eq] at h1
    omega

theorem sub_tail (x : Str) (a : Nat) : (strSub x a x.length).cps.toList = x.cps.toList.drop a := by
  rw [StrLaws.strSub_toList]
  exact List.take_of_length_le (by rw [List.length_drop, len_eq]; omega)

theorem join_cons (z a : Str) {l : List Str} (h : l ≠ []) : Str.join z (a :: l) = a ++ z ++ Str.join z l := by
  cases l with
  | nil => exact absurd rfl h
  | cons b r => rfl
theorem partsFrom_ne' (x : Str) (w a : Nat) (cuts : List Nat) : StrLaws.partsFrom x w a cuts ≠ [] := by
  cases cuts <;> exact List.cons_ne_nil _ _

theorem join_parts (x y z : Str) (hy : 1 ≤ y.length) : ∀ (cuts : List Nat) (a f : Nat), StrLaws.ChainG x y x.length a cuts f → (∀ k, f ≤ k → ¬ StrLaws.At x y x.length k) →
    (Str.join z (StrLaws.partsFrom x y.length a cuts)).cps.toList = repL y.cps.toList z.cps.toList 0 (x.cps.toList.drop a)
  | [], a, f, h, hn => by
    have e : f = a := h
    subst e
    show (strSub x f x.length).cps.toList = _
    rw [sub_tail, repL_none]
    intro k hk
    rw [List.drop_drop]
    exact fun q => hn (f + k) (by omega) ((at_iff x y hy _).mpr q)
  | c :: r, a, f, h, hn => by
    obtain ⟨hac, hat, hno, hr⟩ := h
    show (Str.join z (strSub x a c :: StrLaws.partsFrom x y.length (c + y.length) r)).cps.toList = _
    rw [join_cons z _ (partsFrom_ne' _ _ _ _)]
    simp only [PySem.Str.cps_append, Array.toList_append]
    rw [join_parts x y z hy r _ f hr hn, StrLaws.strSub_toList]
    have hp : y.cps.toList ≠ [] := by
      intro q
      have := congrArg List.length q
      rw [len_eq] at this
      simp at this; omega
    have e1 : c = a + (c - a) := by omega
    rw [repL_first (n := c - a) (l := x.cps.toList.drop a) hp, List.drop_drop, List.append_assoc]
    · rw [len_eq, show a + (c - a + y.length) = c + y.length by omega]
    · intro j hj
      rw [List.drop_drop]
      exact fun q => hno (a + j) (by omega) (by omega) ((at_iff x y hy _).mpr q)
    · rw [List.drop_drop, ← e1]
      exact (at_iff x y hy _).mp hat

theorem replace_list (x y z : Str) (hy : 1 ≤ y.length) : (Txt.replace x y z).cps.toList = repL y.cps.toList z.cps.toList 0 x.cps.toList := by
  obtain ⟨f, hc, hn⟩ := StrLaws.occ_tight x y hy
  have h := join_parts x y z hy _ 0 f hc hn
  rw [List.drop_zero] at h
  rw [← h]
  have hy0 : (y.length == 0) = false := by simp; omega
  unfold Txt.replace
  rw [hy0, Bool.false_and, Bool.or_false]
  cases he : (occurrences x y 0 x.length (x.length + 1)).isEmpty
  · rw [if_neg Bool.false_ne_true, StrLaws.glued_eq_join, StrLaws.partsBetween_eq]
  · rw [if_pos rfl]
    rw [List.isEmpty_iff] at he
    rw [he]
    show x.cps.toList = (strSub x 0 x.length).cps.toList
    rw [sub_tail, List.drop_zero]
theorem replace_ofL (l p z : List Nat) (hp : p ≠ []) : Txt.replace (ofL l) (ofL p) (ofL z) = ofL (repL p z 0 l) := by
  refine eq_ofL ?_
  have h1 : 1 ≤ (ofL p).length := by
    rw [ofL_length]
    cases p with
    | nil => exact absurd rfl hp
    | cons a r => exact Nat.succ_pos _
  rw [replace_list _ _ _ h1]
  rfl

theorem repL_len {p z : List Nat} (hz : z.length ≤ p.length) : ∀ (n : Nat) (l : List Nat), l.length ≤ n → (repL p z 0 l).length ≤ l.length
  | _, [], _ => by rw [repL_nil]; exact Nat.le_refl _
  | 0, _ :: _, h => absurd h (Nat.not_succ_le_zero _)
  | n + 1, c :: r, h => by
    by_cases hp : p = []
    · subst hp
      have hz0 : z = [] := List.eq_nil_of_length_eq_zero (by simpa using hz)
      subst hz0
      show (if ([] : List Nat).isPrefixOf (c :: r) then [] ++ repL [] [] (0 - 1) r else _).length ≤ _
      rw [if_pos (show ([] : List Nat).isPrefixOf (c :: r) = true from rfl)]
      have := repL_len (p := []) (z := []) (by simp) n r (by simp at h; omega)
      simp only [List.nil_append, List.length_cons]
      exact Nat.le_succ_of_le this
    by_cases hq : p <+: (c :: r)
    · rw [repL_hit hp hq]
      have hl := hq.length_le
      have hpos : 1 ≤ p.length := by
        cases p with
        | nil => exact absurd rfl hp
        | cons a q => exact Nat.succ_pos _
      have := repL_len hz n ((c :: r).drop p.length) (by rw [List.length_drop]; simp only [List.length_cons] at h ⊢; omega)
      rw [List.length_append]
      rw [List.length_drop] at this
      omega
    · rw [repL_miss hq]
      have := repL_len hz n r (by simp only [List.length_cons] at h; omega)
      simp only [List.length_cons]; omega
theorem repL_len2 {p z : List Nat} (hz : z.length ≤ 2) : ∀ (n : Nat) (l : List Nat), l.length ≤ n → (repL p z 0 l).length ≤ 3 * l.length
  | _, [], _ => by rw [repL_nil]; exact Nat.zero_le _
  | 0, _ :: _, h => absurd h (Nat.not_succ_le_zero _)
  | n + 1, c :: r, h => by
    by_cases hq : p.isPrefixOf (c :: r) = true
    · show (if p.isPrefixOf (c :: r) then z ++ repL p z (p.length - 1) r else _).length ≤ _
      rw [if_pos hq, repL_skip, List.length_append]
      have := repL_len2 (p := p) hz n (r.drop (p.length - 1)) (by rw [List.length_drop]; simp only [List.length_cons] at h; omega)
      rw [List.length_drop] at this
      simp only [List.length_cons]; omega
    · show (if p.isPrefixOf (c :: r) then _ else c :: repL p z 0 r).length ≤ _
      rw [if_neg hq]
      have := repL_len2 (p := p) hz n r (by simp only [List.length_cons] at h; omega)
      simp only [List.length_cons]; omega

/-! one sign, two signs -/
def rep1 (a : Nat) (z : List Nat) (l : List Nat) : List Nat := l.flatMap fun c => if c = a then z else [c]
theorem repL_one (a : Nat) (z : List Nat) : ∀ l : List Nat, repL [a] z 0 l = rep1 a z l
  | [] => rfl
  | c :: r => by
    by_cases h : c = a
    · subst h
      rw [repL_hit (List.cons_ne_nil _ _) (by simp)]
      show z ++ repL [c] z 0 r = (if c = c then z else [c]) ++ rep1 c z r
      rw [if_pos rfl, repL_one c z r]
    · rw [repL_miss (by simp; exact fun q => h q.symm)]
      show c :: repL [a] z 0 r = (if c = a then z else [c]) ++ rep1 a z r
      rw [if_neg h, repL_one a z r]; rfl
theorem repL_two_hit (a b : Nat) (z r : List Nat) : repL [a, b] z 0 (a :: b :: r) = z ++ repL [a, b] z 0 r := by
  rw [repL_hit (List.cons_ne_nil _ _) (by simp)]; rfl
theorem repL_two_miss {a b c : Nat} (z r : List Nat) (h : c ≠ a) : repL [a, b] z 0 (c :: r) = c :: repL [a, b] z 0 r :=
  repL_miss (by simp; exact fun q => absurd q.symm h)
theorem repL_two_miss2 {a b c d : Nat} (z r : List Nat) (h : d ≠ b) : repL [a, b] z 0 (c :: d :: r) = c :: repL [a, b] z 0 (d :: r) :=
  repL_miss (by simp; exact fun _ q => absurd q.symm h)
theorem repL_two_one {a b c : Nat} (z : List Nat) : repL [a, b] z 0 [c] = [c] := by
  rw [repL_miss (by intro q; have := q.length_le; simp at this), repL_nil]

/-! split, on lists -/
def splitL (c : Nat) : List Nat → List (List Nat)
  | [] => [[]]
  | d :: r => if d = c then [] :: splitL c r else match splitL c r with
    | [] => [[d]]
    | h :: t => (d :: h) :: t
theorem splitL_ne (c : Nat) : ∀ l, splitL c l ≠ []
  | [] => List.cons_ne_nil _ _
  | d :: r => by
    unfold splitL
    split
    · exact List.cons_ne_nil _ _
    · split <;> exact List.cons_ne_nil _ _
def joinL (z : List Nat) : List (List Nat) → List Nat
  | [] => []
  | [a] => a
  | a :: b :: r => a ++ z ++ joinL z (b :: r)
theorem join_list (z : Str) : ∀ l : List Str, (Str.join z l).cps.toList = joinL z.cps.toList (l.map fun s => s.cps.toList)
  | [] => rfl
  | [_] => rfl
  | a :: b :: r => by
    show (a ++ z ++ Str.join z (b :: r)).cps.toList = a.cps.toList ++ z.cps.toList ++ joinL z.cps.toList ((b :: r).map fun s => s.cps.toList)
    simp only [PySem.Str.cps_append, Array.toList_append]
    rw [join_list z (b :: r)]
theorem splitL_cat (c : Nat) (r : List Nat) : ∀ a : List Nat, c ∉ a → splitL c (a ++ [c] ++ r) = a :: splitL c r
  | [], _ => by show (if c = c then [] :: splitL c r else _) = _; rw [if_pos rfl]
  | d :: a, h => by
    have hd : d ≠ c := fun q => h (q ▸ List.mem_cons_self)
    show (if d = c then _ else match splitL c (a ++ [c] ++ r) with | [] => [[d]] | h :: t => (d :: h) :: t) = _
    rw [if_neg hd, splitL_cat c r a (fun q => h (List.mem_cons_of_mem _ q))]
theorem splitL_free (c : Nat) : ∀ a : List Nat, c ∉ a → splitL c a = [a]
  | [], _ => rfl
  | d :: a, h => by
    have hd : d ≠ c := fun q => h (q ▸ List.mem_cons_self)
    show (if d = c then _ else match splitL c a with | [] => [[d]] | h :: t => (d :: h) :: t) = _
    rw [if_neg hd, splitL_free c a (fun q => h (List.mem_cons_of_mem _ q))]
theorem splitL_join (c : Nat) : ∀ P : List (List Nat), P ≠ [] → (∀ a ∈ P, c ∉ a) → splitL c (joinL [c] P) = P
  | [], h, _ => absurd rfl h
  | [a], _, h => splitL_free c a (h a List.mem_cons_self)
  | a :: b :: r, _, h => by
    show splitL c (a ++ [c] ++ joinL [c] (b :: r)) = _
    rw [splitL_cat c _ a (h a List.mem_cons_self), splitL_join c (b :: r) (List.cons_ne_nil _ _) fun q hq => h q (List.mem_cons_of_mem _ hq)]
theorem split_ne (x y : Str) : Txt.split x y ≠ [] := by
  unfold Txt.split
  split
  · exact List.cons_ne_nil _ _
  · split
    · exact List.cons_ne_nil _ _
    · rw [StrLaws.partsBetween_eq]; exact partsFrom_ne' _ _ _ _
theorem split_list (x : Str) (c : Nat) : (Txt.split x (ofL [c])).map (fun s => s.cps.toList) = splitL c x.cps.toList := by
  have h1 := StrLaws.join_split x (ofL [c])
  have h2 : joinL [c] ((Txt.split x (ofL [c])).map fun s => s.cps.toList) = x.cps.toList := by
    rw [← congrArg (fun s : Str => s.cps.toList) h1, join_list]; rfl
  rw [← h2]
  refine (splitL_join c _ (by simpa using split_ne x (ofL [c])) fun a ha => ?_).symm
  obtain ⟨s, hs, rfl⟩ := List.mem_map.mp ha
  exact StrLaws.split_free x c s hs
theorem split_ofL (l : List Nat) (c : Nat) : Txt.split (ofL l) (ofL [c]) = (splitL c l).map ofL := by
  have h := split_list (ofL l) c
  rw [ofL_list] at h
  rw [← h, List.map_map]
  refine (List.map_id _).symm.trans (List.map_congr_left fun s _ => (ofL_toList s).symm)
end
end Mine
end
section
open PySem PySem.W PyProof.Rows
set_option Elab.async false
set_option maxRecDepth 100000
namespace Mine
/-! sending: rows end in return and feed; a row's first dot is doubled -/
def sendG : Bool → List Nat → List Nat
  | _, [] => []
  | b, c :: r =>
    if c = 13 then 13 :: 10 :: (match r with
      | [] => []
      | d :: r' => if d = 10 then sendG true r' else sendG true (d :: r'))
    else if c = 10 then 13 :: 10 :: sendG true r
    else if b = true ∧ c = 46 then 46 :: 46 :: sendG false r
    else c :: sendG false r
theorem sendG_nil (b : Bool) : sendG b [] = [] := by unfold sendG; rfl
theorem sendG_rf (b : Bool) (r : List Nat) : sendG b (13 :: 10 :: r) = 13 :: 10 :: sendG true r := by rw [sendG.eq_def]; simp
theorem sendG_r (b : Bool) {d : Nat} (r : List Nat) (h : d ≠ 10) : sendG b (13 :: d :: r) = 13 :: 10 :: sendG true (d :: r) := by rw [sendG.eq_def]; simp [h]
theorem sendG_r1 (b : Bool) : sendG b [13] = [13, 10] := by rw [sendG.eq_def]; simp
theorem sendG_f (b : Bool) (r : List Nat) : sendG b (10 :: r) = 13 :: 10 :: sendG true r := by rw [sendG.eq_def]; simp
theorem sendG_dot (r : List Nat) : sendG true (46 :: r) = 46 :: 46 :: sendG false r := by rw [sendG.eq_def]; simp
theorem sendG_c (b : Bool) {c : Nat} (r : List Nat) (h1 : c ≠ 13) (h2 : c ≠ 10) (h3 : ¬ (b = true ∧ c = 46)) : sendG b (c :: r) = c :: sendG false r := by
  rw [sendG.eq_def]; simp only [h1, h2, h3, if_false]
theorem sendG_false {c : Nat} (r : List Nat) (h1 : c ≠ 13) (h2 : c ≠ 10) : sendG false (c :: r) = c :: sendG false r := sendG_c false r h1 h2 (by simp)

/-- cases on a text's head, as sending looks at it -/
theorem send_cases {P : List Nat → Prop} (h0 : P []) (h1 : ∀ r, P r → P (13 :: 10 :: r)) (h2 : P [13]) (h3 : ∀ d r, d ≠ 10 → P (d :: r) → P (13 :: d :: r)) (h4 : ∀ r, P r → P (10 :: r)) (h5 : ∀ c r, c ≠ 13 → c ≠ 10 → P r → P (c :: r)) : ∀ l, P l := by
  have key : ∀ n (l : List Nat), l.length ≤ n → P l := by
    intro n
    induction n with
    | zero => intro l hl; rw [List.length_eq_zero_iff.mp (Nat.le_zero.mp hl)]; exact h0
    | succ n ih =>
      intro l hl
      match l, hl with
      | [], _ => exact h0
      | [c], _ =>
        by_cases hc : c = 13
        · subst hc; exact h2
        · by_cases hd : c = 10
          · subst hd; exact h4 [] h0
          · exact h5 c [] hc hd h0
      | c :: d :: r, hl =>
        simp only [List.length_cons] at hl
        by_cases hc : c = 13
        · subst hc
          by_cases hd : d = 10
          · subst hd; exact h1 r (ih r (by omega))
          · exact h3 d r hd (ih (d :: r) (by simp only [List.length_cons]; omega))
        · by_cases hd : c = 10
          · subst hd; exact h4 _ (ih _ (by simp only [List.length_cons]; omega))
          · exact h5 c _ hc hd (ih _ (by simp only [List.length_cons]; omega))
  exact fun l => key l.length l (Nat.le_refl _)

theorem sendG_len (l : List Nat) : ∀ b, (sendG b l).length ≤ 2 * l.length := by
  refine send_cases (P := fun l => ∀ b, (sendG b l).length ≤ 2 * l.length) ?_ ?_ ?_ ?_ ?_ ?_ l
  · intro b; rw [sendG_nil]; exact Nat.zero_le _
  · intro r ih b; rw [sendG_rf]; have := ih true; simp only [List.length_cons]; omega
  · intro b; rw [sendG_r1]; simp
  · intro d r hd ih b; rw [sendG_r b r hd]; have := ih true; simp only [List.length_cons] at this ⊢; omega
  · intro r ih b; rw [sendG_f]; have := ih true; simp only [List.length_cons]; omega
  · intro c r h1 h2 ih b
    have := ih false
    by_cases h3 : b = true ∧ c = 46
    · obtain ⟨rfl, rfl⟩ := h3; rw [sendG_dot]; simp only [List.length_cons]; omega
    · rw [sendG_c b r h1 h2 h3]; simp only [List.length_cons]; omega

/-! by rows -/
def n1 (l : List Nat) : List Nat := rep1 13 [10] (repL [13, 10] [10] 0 l)
theorem rep1_cons (a : Nat) (z : List Nat) (c : Nat) (r : List Nat) : rep1 a z (c :: r) = (if c = a then z else [c]) ++ rep1 a z r := rfl
theorem n1_rf (r : List Nat) : n1 (13 :: 10 :: r) = 10 :: n1 r := by unfold n1; rw [repL_two_hit, List.singleton_append, rep1_cons]; rfl
theorem n1_r {d : Nat} (r : List Nat) (h : d ≠ 10) : n1 (13 :: d :: r) = 10 :: n1 (d :: r) := by unfold n1; rw [repL_two_miss2 _ _ h, rep1_cons]; rfl
theorem n1_r1 : n1 [13] = [10] := by unfold n1; rw [repL_two_one]; rfl
theorem n1_c {c : Nat} (r : List Nat) (h : c ≠ 13) : n1 (c :: r) = c :: n1 r := by unfold n1; rw [repL_two_miss _ _ h, rep1_cons, if_neg h]; rfl
def dotIf (b : Bool) (p : List Nat) : List Nat := if b = true ∧ p.head? = some 46 then 46 :: p else p
theorem splitL_hit (c : Nat) (r : List Nat) : splitL c (c :: r) = [] :: splitL c r := by show (if c = c then [] :: splitL c r else _) = _; rw [if_pos rfl]
theorem splitL_miss {c d : Nat} {r p : List Nat} {t : List (List Nat)} (h : d ≠ c) (e : splitL c r = p :: t) : splitL c (d :: r) = (d :: p) :: t := by
  show (if d = c then _ else match splitL c r with | [] => [[d]] | h :: t => (d :: h) :: t) = _
  rw [if_neg h, e]
theorem splitL_some (c : Nat) (l : List Nat) : ∃ p t, splitL c l = p :: t := by
  cases h : splitL c l with
  | nil => exact absurd h (splitL_ne c l)
  | cons p t => exact ⟨p, t, rfl⟩
theorem joinL_cons (z a : List Nat) {P : List (List Nat)} (h : P ≠ []) : joinL z (a :: P) = a ++ z ++ joinL z P := by
  cases P with
  | nil => exact absurd rfl h
  | cons b r => rfl
theorem joinL_push (z a : List Nat) (c : Nat) (P : List (List Nat)) : joinL z ((c :: a) :: P) = c :: joinL z (a :: P) := by
  cases P with
  | nil => rfl
  | cons b r => rfl
theorem rows_send (l : List Nat) : ∀ b p t, splitL 10 (n1 l) = p :: t → joinL [13, 10] (dotIf b p :: t.map (dotIf true)) = sendG b l := by
  refine send_cases (P := fun l => ∀ b p t, splitL 10 (n1 l) = p :: t → joinL [13, 10] (dotIf b p :: t.map (dotIf true)) = sendG b l) ?_ ?_ ?_ ?_ ?_ ?_ l
  · intro b p t h
    have h' : [[]] = p :: t := h
    obtain ⟨rfl, rfl⟩ := List.cons.inj h'
    rw [sendG_nil]; cases b <;> rfl
  · intro r ih b p t h
    rw [n1_rf, splitL_hit] at h
    obtain ⟨rfl, rfl⟩ := List.cons.inj h
    obtain ⟨p', t', e⟩ := splitL_some 10 (n1 r)
    rw [e, sendG_rf, List.map_cons, joinL_cons _ _ (List.cons_ne_nil _ _), ih true p' t' e]
    cases b <;> rfl
  · intro b p t h
    rw [n1_r1, splitL_hit] at h
    obtain ⟨rfl, rfl⟩ := List.cons.inj h
    rw [sendG_r1]; cases b <;> rfl
  · intro d r hd ih b p t h
    rw [n1_r r hd, splitL_hit] at h
    obtain ⟨rfl, rfl⟩ := List.cons.inj h
    obtain ⟨p', t', e⟩ := splitL_some 10 (n1 (d :: r))
    rw [e, sendG_r b r hd, List.map_cons, joinL_cons _ _ (List.cons_ne_nil _ _), ih true p' t' e]
    cases b <;> rfl
  · intro r ih b p t h
    rw [n1_c r (by decide), splitL_hit] at h
    obtain ⟨rfl, rfl⟩ := List.cons.inj h
    obtain ⟨p', t', e⟩ := splitL_some 10 (n1 r)
    rw [e, sendG_f, List.map_cons, joinL_cons _ _ (List.cons_ne_nil _ _), ih true p' t' e]
    cases b <;> rfl
  · intro c r h1 h2 ih b p t h
    obtain ⟨p', t', e⟩ := splitL_some 10 (n1 r)
    rw [n1_c r h1, splitL_miss h2 e] at h
    obtain ⟨rfl, rfl⟩ := List.cons.inj h
    have hi := ih false p' t' e
    have e0 : dotIf false p' = p' := by unfold dotIf; rw [if_neg (by simp)]
    rw [e0] at hi
    by_cases h3 : b = true ∧ c = 46
    · obtain ⟨rfl, rfl⟩ := h3
      rw [sendG_dot, show dotIf true (46 :: p') = 46 :: 46 :: p' by unfold dotIf; rw [if_pos ⟨rfl, rfl⟩], joinL_push, joinL_push, hi]
    · rw [sendG_c b r h1 h2 h3, show dotIf b (c :: p') = c :: p' by unfold dotIf; rw [if_neg (by simpa using h3)], joinL_push, hi]
def sendL (l : List Nat) : List Nat := sendG true l
theorem rows_sendL (l : List Nat) : joinL [13, 10] ((splitL 10 (n1 l)).map (dotIf true)) = sendL l := by
  obtain ⟨p, t, e⟩ := splitL_some 10 (n1 l)
  rw [e, List.map_cons]
  exact rows_send l true p t e
end Mine
end
section
open PySem PySem.W PyProof.Rows
set_option Elab.async false
set_option maxRecDepth 100000
namespace Mine
theorem join_fit {x : Str} {texts : List Str} (h : (texts.map fun y => y.length).sum + texts.length * x.length ≤ 1000000) : JoinOk x texts = true := by
  unfold JoinOk Builtin.Str.tooLong
  rw [StrLaws.joinTotal, sizeLine_eq, Bool.not_eq_true']
  exact decide_eq_false (by omega)
section
variable {prog : Program} {w : World} {A : Around} {E : Value → Shared → Prop} {s : Shared} {x : Str} {t : Tok} {Q : Value → Shared → Prop}
theorem joinP {D : Addr} {l : List (Str × Tok)} (hl : s.heap.IsList D (strValues l).toArray) (hok : ((l.map fun x => x.1).map fun y => y.length).sum + (l.map fun x => x.1).length * x.length ≤ 1000000)
    (hq : ∀ t' k, Q (.str (Str.join x (l.map fun x => x.1)) t') { s with toks := k }) : wpAny (model prog w) A (call (.builtin "str.join") [.str x t, .ref D]) Q E s :=
  SC.join hl rfl (join_fit hok) fun t' k => by
    have h := hq t' k
    rw [← StrLaws.glued_eq_join] at h
    exact h
end

end Mine
end
section
open PySem PySem.W PyProof.Rows
set_option Elab.async false
set_option maxRecDepth 100000
namespace Mine

def Hold (P : Prop) : Prop := P
theorem hold_intro {P : Prop} (h : Hold P) : P := h
theorem hold_out {P : Prop} (h : P) : Hold P := h

def WTurn (h₀ : Heap) (L : Addr) (news : List (Addr × Obj)) (J : Nat → (Str → Option Value) → Prop) (n : Nat) (s : Shared) (Q : Flow → Shared → Prop) (f : Flow) (s' : Shared) : Prop :=
  match f with
  | .ret v => Q (.ret v) s'
  | .brk => Q .next s'
  | _ => ∃ h tk m k, s' = { s with heap := h, toks := tk } ∧ Fr h₀ L h m ∧ News h₀ L h news ∧ k < n ∧ J k m

section
variable {h₀ : Heap} {L : Addr} {news : List (Addr × Obj)} {J : Nat → (Str → Option Value) → Prop} {n : Nat} {s s' : Shared} {Q : Flow → Shared → Prop}
theorem wturn_brk (h : Q .next s') : WTurn h₀ L news J n s Q .brk s' := h
theorem wturn_ret {v : Value} (h : Q (.ret v) s') : WTurn h₀ L news J n s Q (.ret v) s' := h
theorem wturn_next {h : Heap} {tk k : Nat} {m : Str → Option Value} (F : Fr h₀ L h m) (N : News h₀ L h news) (hk : k < n) (hJ : J k m) : WTurn h₀ L news J n s Q .next ⟨h, s.gens, s.drawn, tk, s.os⟩ := ⟨h, tk, m, k, rfl, F, N, hk, hJ⟩
theorem wturn_cont {h : Heap} {tk k : Nat} {m : Str → Option Value} (F : Fr h₀ L h m) (N : News h₀ L h news) (hk : k < n) (hJ : J k m) : WTurn h₀ L news J n s Q .cont ⟨h, s.gens, s.drawn, tk, s.os⟩ := ⟨h, tk, m, k, rfl, F, N, hk, hJ⟩
end

theorem Fr_congr {h₀ : Heap} {L : Addr} {h : Heap} {m m' : Str → Option Value} (F : Fr h₀ L h m) (e : ∀ y, m' y = m y) : Fr h₀ L h m' := by
  have : m' = m := funext e
  subst this; exact F

def putAll : List (Str × Value) → (Str → Option Value) → (Str → Option Value)
  | [], m => m
  | p :: r, m => fun y => if y = p.1 then some p.2 else putAll r m y
def AllAt (m : Str → Option Value) : List (Str × Value) → Prop
  | [] => True
  | p :: r => m p.1 = some p.2 ∧ AllAt m r
theorem putAll_eq {m : Str → Option Value} : ∀ (l : List (Str × Value)), AllAt m l → ∀ y, putAll l m y = m y
  | [], _, _ => rfl
  | p :: r, e, y => by
    show (if y = p.1 then some p.2 else putAll r m y) = m y
    by_cases q : y = p.1
    · subst q; rw [if_pos rfl, e.1]
    · rw [if_neg q]; exact putAll_eq r e.2 y
theorem Fr_puts {h₀ : Heap} {L : Addr} {h : Heap} {m : Str → Option Value} {l : List (Str × Value)} (F : Fr h₀ L h m) (e : AllAt m l) : Fr h₀ L h (putAll l m) := Fr_congr F (putAll_eq l e)

theorem Fr_get {h₀ : Heap} {L : Addr} {h : Heap} {m : Str → Option Value} (_F : Fr h₀ L h m) (x : Str) {v : Value} (e : m x = some v) : ∃ v', v' = v ∧ m x = some v' := ⟨v, rfl, e⟩

theorem gen_toks {α : Type} {M : Model} {A : Around} {t : Sem α} {Q : α → Shared → Prop} {E : Value → Shared → Prop} {h : Heap} {g : Array GenState} {d : Drawn} {X : Nat} {o : OsState}
    (hpos : 0 < X) (k : ∀ tk, 0 < tk → wpAny M A t Q E ⟨h, g, d, tk, o⟩) : wpAny M A t Q E ⟨h, g, d, X, o⟩ := k X hpos

section
variable {prog : Program} {w : World} {A : Around} {E : Value → Shared → Prop} {s : Shared} {env : Env} {h₀ : Heap} {news : List (Addr × Obj)} {m₀ : Str → Option Value} {test : Expr} {body : List Stmt} {pos : Pos} {Q : Flow → Shared → Prop}

/-- a while loop whose turns change the frame alone and never raise -/
theorem while_inv (J : Nat → (Str → Option Value) → Prop) (n₀ : Nat) (F : Fr h₀ env.locals s.heap m₀) (N : News h₀ env.locals s.heap news) (hs : 0 < s.toks) (hj : J n₀ m₀)
    (turn : ∀ n m₁ h tk, 0 < tk → J n m₁ → Fr h₀ env.locals h m₁ → News h₀ env.locals h news →
      wpAny (model prog w) A (isTrue test env (eval test env)) (fun b s₂ => if b then wpAny (model prog w) A (execs body env) (WTurn h₀ env.locals news J n s Q) (fun _ _ => False) s₂ else Q .next s₂) (fun _ _ => False) ⟨h, s.gens, s.drawn, tk, s.os⟩) :
    wpAny (model prog w) A (exec (.While test body [] pos) env) Q E s := by
  refine wpAny_While ?_
  let I : Nat → Shared → Prop := fun n s' => ∃ h tk m, s' = ⟨h, s.gens, s.drawn, tk, s.os⟩ ∧ 0 < tk ∧ Fr h₀ env.locals h m ∧ News h₀ env.locals h news ∧ J n m
  refine codeAny_whileLoop I (fun n s₁ hI => ?_) n₀ ⟨s.heap, s.toks, m₀, rfl, hs, F, N, hj⟩
  obtain ⟨h, tk, m, rfl, htk, F₁, N₁, hJ⟩ := hI
  refine wpAny_with_toks (n := 1) htk ?_
  refine wpAny_mono (turn n m h tk htk hJ F₁ N₁) (fun b s₂ h₂ htk₂ => ?_) (fun _ _ h' _ => h'.elim)
  cases b with
  | false => exact wpAny_pure h₂
  | true =>
    simp only [if_true] at h₂ ⊢
    refine wpAny_with_toks (n := 1) htk₂ ?_
    refine wpAny_mono h₂ (fun f s₃ h₃ htk₃ => ?_) (fun _ _ h' _ => h'.elim)
    cases f with
    | next => obtain ⟨h', tk', m', k, e, F', N', hk, hJ'⟩ := h₃; subst e; exact ⟨k, hk, h', tk', m', rfl, htk₃, F', N', hJ'⟩
    | cont => obtain ⟨h', tk', m', k, e, F', N', hk, hJ'⟩ := h₃; subst e; exact ⟨k, hk, h', tk', m', rfl, htk₃, F', N', hJ'⟩
    | brk => exact h₃
    | ret v => exact h₃
end

/-- what a call of a def of the text's gives: a value of which R is so, the ledger as it was -/
def FnOk (prog : Program) (w : World) (K : Frag) (p : Program) (loose : List Str) (mean : ExcName → Option Value) (mg mb : Str → Option Value) (f : Addr) (d : Nat) (news : List (Addr × Obj)) (vs : List Value) (R : Value → Prop) : Prop :=
  ∀ (dp un : Nat) (gd : Option (List Code)) (cn : Str) (cs : Scope) (a : Addr) (ccd : Value) (cl : List (Str × Addr)) (outer : List Env) (A₀ : Around) (base h₀ : Heap) (L : Addr) (m : Str → Option Value) (s : Shared) (Q E : Value → Shared → Prop),
    Below A₀ base outer h₀ → Fr h₀ L s.heap m → K.In h₀ → News h₀ L s.heap news → Top p loose mean mg mb h₀ → cs.kind = .function → dp + d < recursionLimit → un + 8 * d < cLine →
    (∀ v h' tk', R v → Fr h₀ L h' m → News h₀ L h' news → Q v ⟨h', s.gens, s.drawn, tk', s.os⟩) →
      wpAny (model prog w) (ktrTop dp un gd cn cs L a ccd cl outer) (call (.ref f) vs) Q E s

section
variable {prog : Program} {w : World} {K : Frag} {p : Program} {loose : List Str} {mean : ExcName → Option Value} {mg mb : Str → Option Value} {f : Addr} {d : Nat} {news : List (Addr × Obj)} {vs : List Value} {R : Value → Prop}
  {dp un : Nat} {gd : Option (List Code)} {cn : Str} {cs : Scope} {a : Addr} {ccd : Value} {cl : List (Str × Addr)} {outer : List Env} {A₀ : Around} {base h₀ : Heap} {L : Addr} {m : Str → Option Value} {s : Shared} {Q E : Value → Shared → Prop}
theorem fn_use (H : FnOk prog w K p loose mean mg mb f d news vs R) (B : Below A₀ base outer h₀) (F : Fr h₀ L s.heap m) (X : K.In h₀) (N : News h₀ L s.heap news) (T : Top p loose mean mg mb h₀) (hk : cs.kind = .function) (hd : dp + d < recursionLimit) (hu : un + 8 * d < cLine)
    (ret : ∀ v h' tk', R v → Fr h₀ L h' m → News h₀ L h' news → Q v ⟨h', s.gens, s.drawn, tk', s.os⟩) :
    wpAny (model prog w) (ktrTop dp un gd cn cs L a ccd cl outer) (call (.ref f) vs) Q E s := H dp un gd cn cs a ccd cl outer A₀ base h₀ L m s Q E B F X N T hk hd hu ret
end

section
variable {prog : Program} {w : World} {A : Around} {E : Value → Shared → Prop} {s : Shared} {x y z : Str} {t u v : Tok} {Q : Value → Shared → Prop}
theorem replace_le (x y z : Str) (hz : z.length ≤ 2) (hy : 1 ≤ y.length) : (Txt.replace x y z).length ≤ 3 * x.length := by
  rw [← len_eq, ← len_eq, replace_list x y z hy]
  exact repL_len2 (by rw [len_eq]; exact hz) _ _ (Nat.le_refl _)
theorem replace_less (x y z : Str) (hy : 1 ≤ y.length) (hz : z.length ≤ y.length) : (Txt.replace x y z).length ≤ x.length := by
  rw [← len_eq, ← len_eq, replace_list x y z hy]
  exact repL_len (by rw [len_eq, len_eq]; exact hz) _ _ (Nat.le_refl _)
theorem replace_bound (x y z : Str) (hy : 1 ≤ y.length) (hz : z.length ≤ 2) : (Txt.replace x y z).length ≤ if z.length ≤ y.length then x.length else 3 * x.length := by
  split
  · rename_i h; exact replace_less x y z hy h
  · exact replace_le x y z hz hy
theorem of_if_t {a b c d : Nat} (h : a ≤ if b ≤ c then d else 3 * d) (q : b ≤ c) : a ≤ d := by rw [if_pos q] at h; exact h
theorem of_if_f {a b c d : Nat} (h : a ≤ if b ≤ c then d else 3 * d) (q : ¬ b ≤ c) : a ≤ 3 * d := by rw [if_neg q] at h; exact h
theorem replaceP (hs : 0 < s.toks) (hu : u ≠ 0) (hv : v ≠ 0) (huv : u ≠ v) (hyz : (y == z) = false) (hx : x.length ≤ 1048576) (hz : z.length ≤ 2) (hy : 1 ≤ y.length)
    (hq : ∀ t' k, 0 < k → ((Txt.replace x y z).length ≤ if z.length ≤ y.length then x.length else 3 * x.length) → Q (.str (Txt.replace x y z) t') { s with toks := k }) : wpAny (model prog w) A (call (.builtin "str.replace") [.str x t, .str y u, .str z v]) Q E s :=
  wpAny_with_toks (n := 1) hs (SC.replaceW hu hv huv hyz hx (by omega) fun t' k hk => hq t' k hk (replace_bound x y z hy hz))
end

theorem news_drop {h₀ h : Heap} {L : Addr} {q : Addr × Obj} {news : List (Addr × Obj)} (N : News h₀ L h (q :: news)) : News h₀ L h news := fun p hp => N p (.tail _ hp)

theorem strs_item {prog : Program} {w : World} {A : Around} {E : Value → Shared → Prop} {s : Shared} {value slice : PySem.Expr} {a : Addr} {l : List (Str × Tok)} {i : Int} {u : Tok} {Q : Value → Shared → Prop}
    (hl : s.heap.IsList a (strValues l).toArray) (h0 : 0 ≤ i) (h1 : i < l.length) (hf : l.length < 2 ^ 62) {n : Nat} (hb : ∀ z, z ∈ (l.map fun x => x.1) → z.length ≤ n) (h : ∀ z t, (l.map fun x => x.1)[i.toNat]? = some z → z.length ≤ n → Q (.str z t) s)
    (hs : subscripted slice false (.ref a) (.int i u) = operate [.ref a, .int i u] (getItem (.ref a) (.int i u)) := by with_unfolding_all rfl) :
    wpAny (model prog w) A (subscriptTail value slice (.ref a) (.int i u)) Q E s := by
  have hk : i.toNat < l.length := by omega
  refine tail_any hl.typeIs slot_list_getitem.lookup (wpAny_getItem_list (x := .str (l[i.toNat]).1 (l[i.toNat]).2) hl h0 (by omega) ?_ (h _ _ ?_ (hb _ (List.mem_map_of_mem (List.getElem_mem hk))))) hs
  · simp [strValues, hk]
  · simp [hk]

/-! a comprehension from texts to texts; join -/
def TxEl (news : List (Addr × Obj)) (r : Str) (y : Value) (news' : List (Addr × Obj)) : Prop := news' = news ∧ ∃ t : Tok, y = .str r t
theorem txEl {news : List (Addr × Obj)} {r r' : Str} {t : Tok} (e : r' = r) : TxEl news r (.str r' t) news := by subst e; exact ⟨rfl, t, rfl⟩
theorem txEnd {h₀ : Heap} {L I C D : Addr} {m : Str → Option Value} {s₁ : Shared} {oI oC oD : Obj} {S : List (Addr × Obj) → Prop} {h' : Heap} {tk : Nat} {all news : List (Addr × Obj)} {r r' : Str} {t : Tok}
    (F : Fr h₀ L h' m) (N : News h₀ L h' all) (sub : ∀ p ∈ (I, oI) :: (C, oC) :: (D, oD) :: news, p ∈ all) (off : LCg.Off3 I C D news) (hS : S news) (e : r' = r) :
    LCg.CompEnd h₀ L m s₁ I oI C oC D oD S (TxEl news r) (.str r' t) { s₁ with heap := h', toks := tk } := LCg.CompEnd.intro F N news sub off hS (txEl e)
section
variable {prog : Program} {w : World} {A : Around} {h₀ : Heap} {L : Addr} {m : Str → Option Value} {env : Env} {elt : Expr} {x : Str} {scope : Scope} {cl : List (Str × Addr)} {s : Shared} {S : List (Addr × Obj) → Prop} {Fin : List Value → List (Addr × Obj) → Prop} {news : List (Addr × Obj)}
theorem strValues_snoc (l : List (Str × Tok)) (y : Str) (t : Tok) : strValues l ++ [.str y t] = strValues (l ++ [(y, t)]) := by simp [strValues]
/-- by the turn's number: item i of the source is P i; the element is the text g i -/
theorem comp_texts {n : Nat} {P : Nat → Value → Prop} (g : Nat → Str) (hS : S news)
    (turn : ∀ i v I oI C oC D m₂ ys h tk (E' : Value → Shared → Prop), i < n → P i v → LCg.NsObj oC m₂ → m₂ x = some v → Fr h₀ L h m → News h₀ L h ((I, oI) :: (C, oC) :: (D, LCg.lst ys) :: news) → LCg.Off3 I C D news → ((@Ne Nat I C) ∧ (@Ne Nat I D) ∧ (@Ne Nat C D)) →
      wpAny (model prog w) A (eval elt (compEnvC scope cl C env)) (LCg.CompEnd h₀ L m { s with heap := h, toks := tk } I oI C oC D (LCg.lst ys) S (TxEl news (g i))) E' { s with heap := h, toks := tk })
    (fin : ∀ l' : List (Str × Tok), l'.map (fun x => x.1) = (List.range n).map g → Fin (strValues l') news) : LCg.CompRest prog w A h₀ L m env elt x scope cl s S P Fin n 0 [] news := by
  have key : ∀ (j i : Nat) (l' : List (Str × Tok)), i + j = n → l'.map (fun x => x.1) = (List.range i).map g → LCg.CompRest prog w A h₀ L m env elt x scope cl s S P Fin j i (strValues l') news := by
    intro j
    induction j with
    | zero =>
      intro i l' hi hy
      have e : i = n := by omega
      subst e
      exact LCg.CompRest.zero (fin l' hy)
    | succ j ih =>
      intro i l' hi hy
      refine LCg.CompRest.succ ?_
      intro v I oI C oC D m₂ h tk E' hv hC hx F N off ne
      refine wpAny_mono (turn i v I oI C oC D m₂ _ h tk E' (by omega) hv hC hx F N off ne) (fun y s₂ hq => ?_) fun _ _ e => e
      obtain ⟨h', tk', nw, e, F', N', off', hS', hn, t', hy'⟩ := hq
      subst hn
      subst hy'
      refine ⟨h', tk', nw, e, F', N', off', hS', ?_⟩
      show LCg.CompRest prog w A h₀ L m env elt x scope cl s S P Fin j (i + 1) (strValues l' ++ [.str (g i) t']) _
      rw [strValues_snoc]
      refine ih (i + 1) _ (by omega) ?_
      rw [List.map_append, hy, List.range_succ, List.map_append]
      rfl
  exact key n 0 [] (by omega) rfl
theorem comp_strs {l : List (Str × Tok)} (g : Str → Str) (hS : S news)
    (turn : ∀ z t I oI C oC D m₂ ys h tk (E' : Value → Shared → Prop), z ∈ l.map (fun x => x.1) → LCg.NsObj oC m₂ → m₂ x = some (.str z t) → Fr h₀ L h m → News h₀ L h ((I, oI) :: (C, oC) :: (D, LCg.lst ys) :: news) → LCg.Off3 I C D news → ((@Ne Nat I C) ∧ (@Ne Nat I D) ∧ (@Ne Nat C D)) →
      wpAny (model prog w) A (eval elt (compEnvC scope cl C env)) (LCg.CompEnd h₀ L m { s with heap := h, toks := tk } I oI C oC D (LCg.lst ys) S (TxEl news (g z))) E' { s with heap := h, toks := tk })
    (fin : ∀ l' : List (Str × Tok), l'.map (fun x => x.1) = (l.map fun x => x.1).map g → Fin (strValues l') news) : LCg.CompRest prog w A h₀ L m env elt x scope cl s S (fun i v => (strValues l).toArray[i]? = some v) Fin (strValues l).toArray.size 0 [] news := by
  have hsz : (strValues l).toArray.size = l.length := by simp [strValues]
  have hG : (List.range l.length).map (fun i => g ((l.getD i (Str.empty, 0)).1)) = (l.map fun x => x.1).map g := by
    refine List.ext_getElem (by simp) fun i h1 h2 => ?_
    simp only [List.length_map, List.length_range] at h1 h2
    simp [List.getD, h1]
  refine comp_texts (fun i => g ((l.getD i (Str.empty, 0)).1)) hS ?_ (fun l' e => fin l' (by rw [e, hsz, hG]))
  intro i v I oI C oC D m₂ ys h tk E' hi hP hC hx F N off ne
  rw [hsz] at hi
  have hv : v = .str (l[i]).1 (l[i]).2 := by
    have hP' : (strValues l)[i]? = some v := by simpa using hP
    simp only [strValues, List.getElem?_map, List.getElem?_eq_getElem hi, Option.map_some] at hP'
    exact (Option.some.inj hP').symm
  subst hv
  have e : (l.getD i (Str.empty, 0)).1 = (l[i]).1 := by simp [List.getD, hi]
  rw [e]
  exact turn _ _ I oI C oC D m₂ ys h tk E' (List.mem_map_of_mem (List.getElem_mem hi)) hC hx F N off ne
end
section
variable {prog : Program} {w : World} {A : Around} {h₀ : Heap} {L : Addr} {m : Str → Option Value} {env : Env} {elt : Expr} {x : Str} {scope : Scope} {cl : List (Str × Addr)} {s : Shared} {S : List (Addr × Obj) → Prop} {Fin : List Value → List (Addr × Obj) → Prop} {news : List (Addr × Obj)}
theorem ints_get : ∀ {vs : List Value} {ns : List Int}, IntsAre vs ns → ∀ {i : Nat} {v : Value}, vs[i]? = some v → ∃ k t, ns[i]? = some k ∧ v = .int k t
  | _, _, .nil, i, v, h => by cases h
  | _, _, .cons k t r, 0, v, h => ⟨k, t, rfl, (Option.some.inj h).symm⟩
  | _, _, .cons k t r, i + 1, v, h => ints_get r (by simpa using h)
theorem comp_ints {vs : List Value} {ns : List Int} (hi : IntsAre vs ns) (g : Int → Str) (hS : S news)
    (turn : ∀ k t I oI C oC D m₂ ys h tk (E' : Value → Shared → Prop), k ∈ ns → LCg.NsObj oC m₂ → m₂ x = some (.int k t) → Fr h₀ L h m → News h₀ L h ((I, oI) :: (C, oC) :: (D, LCg.lst ys) :: news) → LCg.Off3 I C D news → ((@Ne Nat I C) ∧ (@Ne Nat I D) ∧ (@Ne Nat C D)) →
      wpAny (model prog w) A (eval elt (compEnvC scope cl C env)) (LCg.CompEnd h₀ L m { s with heap := h, toks := tk } I oI C oC D (LCg.lst ys) S (TxEl news (g k))) E' { s with heap := h, toks := tk })
    (fin : ∀ l' : List (Str × Tok), l'.map (fun x => x.1) = ns.map g → Fin (strValues l') news) : LCg.CompRest prog w A h₀ L m env elt x scope cl s S (fun i v => vs.toArray[i]? = some v) Fin vs.toArray.size 0 [] news := by
  have hsz : vs.toArray.size = ns.length := by rw [List.size_toArray, hi.length]
  have hG : (List.range ns.length).map (fun i => g (ns.getD i 0)) = ns.map g := by
    refine List.ext_getElem (by simp) fun i h1 h2 => ?_
    simp only [List.length_map, List.length_range] at h1 h2
    simp [List.getD, h1]
  refine comp_texts (fun i => g (ns.getD i 0)) hS ?_ (fun l' e => fin l' (by rw [e, hsz, hG]))
  intro i v I oI C oC D m₂ ys h tk E' hi' hP hC hx F N off ne
  obtain ⟨k, t, hk, rfl⟩ := ints_get hi (by simpa using hP)
  have e : ns.getD i 0 = k := by simp [List.getD, hk]
  rw [e]
  exact turn k t I oI C oC D m₂ ys h tk E' (List.mem_of_getElem? hk) hC hx F N off ne
end
def StrIs (X : Str) (b : Nat) (v : Value) : Prop := ∃ t, v = .str X t ∧ X.length ≤ b

theorem fn_mono {prog : Program} {w : World} {K : Frag} {p : Program} {loose : List Str} {mean : ExcName → Option Value} {mg mb : Str → Option Value} {f : Addr} {d : Nat} {news : List (Addr × Obj)} {vs : List Value} {R R' : Value → Prop}
    (H : FnOk prog w K p loose mean mg mb f d news vs R) (h : ∀ v, R v → R' v) : FnOk prog w K p loose mean mg mb f d news vs R' :=
  fun dp un gd cn cs a ccd cl outer A₀ base h₀ L m s Q E B F X N T hk hd hu ret => H dp un gd cn cs a ccd cl outer A₀ base h₀ L m s Q E B F X N T hk hd hu fun v h' tk' r => ret v h' tk' (h v r)

/-! the texts as lists -/
def tellL : List Nat → List Nat
  | [] => []
  | c :: r => if c = 34 then (match r with | [] => [] | d :: r' => if d = 34 then 34 :: tellL r' else []) else c :: tellL r

theorem drop_getD (l : List Nat) (k : Nat) (h : k < l.length) : l.drop k = l.getD k 0 :: l.drop (k + 1) := by
  rw [List.drop_eq_getElem_cons h]; simp [List.getD, h]
theorem item_is (x : Str) (k : Nat) (h : k < x.length) : Txt.item x (k : Int) = ofL [x.cps.toList.getD k 0] := by
  rw [item_meets ⟨by omega, by omega⟩]
  refine PySem.Str.ext' ?_
  simp [ofL, Array.getD_eq_getD_getElem?, List.getD]
theorem lit_mark : Str.ofString "\"" = ofL [34] := by decide +kernel

theorem tell_nil : tellL [] = [] := by unfold tellL; rfl
theorem tell_other {c : Nat} {r : List Nat} (h : c ≠ 34) : tellL (c :: r) = c :: tellL r := by rw [tellL.eq_def]; exact if_neg h
theorem tell_end : tellL [34] = [] := by rw [tellL.eq_def]; simp
theorem tell_stop {d : Nat} {r : List Nat} (h : d ≠ 34) : tellL (34 :: d :: r) = [] := by rw [tellL.eq_def]; simp [h]
theorem tell_two (r : List Nat) : tellL (34 :: 34 :: r) = 34 :: tellL r := by rw [tellL.eq_def]; simp
theorem int_eq {a b : Int} {t : Tok} (h : a = b) : some (Value.int a t) = some (Value.int b t) := by rw [h]
theorem str_eq {a b : Str} {t : Tok} (h : a = b) : some (Value.str a t) = some (Value.str b t) := by rw [h]

section
variable {x : Str} {k : Nat}
theorem mark_at (h : (k : Int) < x.length) (b : Bool) (hm : (Txt.item x k == Str.ofString "\"") = b) : (x.cps.toList.getD k 0 == 34) = b := by
  rw [item_is x k (by omega), lit_mark, ofL_beq] at hm
  rw [← hm]; simp
theorem tell_at1 (h : (k : Int) < x.length) (hm : (Txt.item x k == Str.ofString "\"") = true) (he : (x.length : Int) ≤ k + 1) : tellL (x.cps.toList.drop k) = [] := by
  have h1 := mark_at h true hm
  have hl := len_eq x
  rw [drop_getD _ _ (by omega), beq_iff_eq.mp h1, List.drop_eq_nil_of_le (by omega)]
  exact tell_end
theorem tell_at2 (h : (k : Int) < x.length) (hm : (Txt.item x k == Str.ofString "\"") = true) (he : ¬ (x.length : Int) ≤ k + 1) (h2 : (Txt.item x ((k : Int) + 1) != Str.ofString "\"") = true) : tellL (x.cps.toList.drop k) = [] := by
  have h1 := mark_at h true hm
  have hl := len_eq x
  have e : (k : Int) + 1 = ((k + 1 : Nat) : Int) := by omega
  rw [e] at h2
  have h3 := mark_at (x := x) (k := k + 1) (by omega) false (by simpa [bne] using h2)
  rw [drop_getD _ _ (by omega), drop_getD _ (k + 1) (by omega), beq_iff_eq.mp h1]
  exact tell_stop (by simpa using h3)
theorem tell_at3 (h : (k : Int) < x.length) (hm : (Txt.item x k == Str.ofString "\"") = true) (he : ¬ (x.length : Int) ≤ k + 1) (h2 : (Txt.item x ((k : Int) + 1) != Str.ofString "\"") = false) :
    tellL (x.cps.toList.drop k) = 34 :: tellL (x.cps.toList.drop (k + 2)) ∧ Txt.item x k = ofL [34] := by
  have h1 := mark_at h true hm
  have hl := len_eq x
  have e : (k : Int) + 1 = ((k + 1 : Nat) : Int) := by omega
  rw [e] at h2
  have h3 := mark_at (x := x) (k := k + 1) (by omega) true (by simpa [bne] using h2)
  refine ⟨?_, by rw [item_is x k (by omega), beq_iff_eq.mp h1]⟩
  rw [drop_getD _ _ (by omega), drop_getD _ (k + 1) (by omega), beq_iff_eq.mp h1, beq_iff_eq.mp h3]
  exact tell_two _
theorem tell_at4 (h : (k : Int) < x.length) (hm : (Txt.item x k == Str.ofString "\"") = false) :
    tellL (x.cps.toList.drop k) = x.cps.toList.getD k 0 :: tellL (x.cps.toList.drop (k + 1)) ∧ Txt.item x k = ofL [x.cps.toList.getD k 0] := by
  have h1 := mark_at h false hm
  have hl := len_eq x
  refine ⟨?_, item_is x k (by omega)⟩
  rw [drop_getD _ _ (by omega)]
  exact tell_other (by simpa using h1)
end

/-! slices -/
theorem slice_sliceText (x : Str) (l u : Option Int) : Txt.slice x l u = StrLaws.sliceText x l u := rfl
theorem slice_to (l : List Nat) (j : Nat) (h : j ≤ l.length) : Txt.slice (ofL l) none (some (j : Int)) = ofL (l.take j) := by
  rw [slice_sliceText, StrLaws.sliceText_to ⟨by omega, by rw [ofL_list]; omega⟩, ofL_list]
  simp [ofL]
theorem slice_mid (l : List Nat) (i j : Nat) (hij : i ≤ j) (h : j ≤ l.length) : Txt.slice (ofL l) (some (i : Int)) (some (j : Int)) = ofL ((l.drop i).take (j - i)) := by
  rw [slice_sliceText, StrLaws.sliceText_nat _ hij (by rw [ofL_length]; omega), ofL_list]; rfl
theorem slice_from (l : List Nat) (i : Nat) (h : i ≤ l.length) : Txt.slice (ofL l) (some (i : Int)) none = ofL (l.drop i) := by
  rw [slice_sliceText, StrLaws.sliceText_from ⟨by omega, by rw [ofL_list]; omega⟩, ofL_list]
  simp only [ofL, Int.toNat_natCast]
  rw [List.take_of_length_le (by rw [List.length_drop]; omega)]

/-! a text that opens a quotation of a reply 257 -/
def tellS (y : Str) : Str := ofL (tellL y.cps.toList)
theorem lit_257q : Str.ofString "257 \"" = ofL [50, 53, 55, 32, 34] := by decide +kernel
theorem pre257 (y : Str) : Str.ofString "257 \"" ++ y = ofL (50 :: 53 :: 55 :: 32 :: 34 :: y.cps.toList) := by
  rw [lit_257q, ← ofL_toList y, ofL_append]; rfl
theorem pre257_3 (y : Str) : Txt.slice (Str.ofString "257 \"" ++ y) none (some 3) = Str.ofString "257" := by
  rw [pre257]
  exact (slice_to _ 3 (by simp)).trans (show ofL [50, 53, 55] = Str.ofString "257" by decide +kernel)
theorem pre257_5 (y : Str) : Txt.slice (Str.ofString "257 \"" ++ y) (some 3) (some 5) = Str.ofString " \"" := by
  rw [pre257]
  exact (slice_mid _ 3 5 (by decide) (by simp)).trans (show ofL [32, 34] = Str.ofString " \"" by decide +kernel)
theorem pre257_len (y : Str) : (Str.ofString "257 \"" ++ y).length = y.length + 5 := by
  rw [pre257, ofL_length]; simp [PySem.Str.length]
theorem pre257_drop (y : Str) : (Str.ofString "257 \"" ++ y).cps.toList.drop 5 = y.cps.toList := by rw [pre257]; rfl

/-! the law's own readings -/
def pairedS (y : Str) : Str := Txt.replace (Txt.replace y (Str.ofString "\\\\") (Str.ofString "e")) (Str.ofString "\\\"") (Str.ofString "q")
def wordS (y : Str) : Str := (Txt.split (pairedS y) (Str.ofString "\"")).headD Str.empty
def heardS (y : Str) : Str := Txt.replace (Txt.replace (Txt.replace (wordS y) (Str.ofString "\\") (Str.ofString "")) (Str.ofString "q") (Str.ofString "\"")) (Str.ofString "e") (Str.ofString "\\")
theorem tell_len : ∀ (n : Nat) (l : List Nat), l.length ≤ n → (tellL l).length ≤ l.length
  | _, [], _ => by rw [tell_nil]; exact Nat.le_refl _
  | 0, c :: r, h => absurd h (Nat.not_succ_le_zero _)
  | n + 1, [c], _ => by
    by_cases hc : c = 34
    · subst hc; rw [tell_end]; exact Nat.zero_le _
    · rw [tell_other hc, tell_nil]; exact Nat.le_refl _
  | n + 1, c :: d :: r, h => by
    by_cases hc : c = 34
    · subst hc
      by_cases hd : d = 34
      · subst hd
        rw [tell_two]
        have := tell_len n r (by simp only [List.length_cons] at h; omega)
        simp only [List.length_cons]; omega
      · rw [tell_stop hd]; exact Nat.zero_le _
    · rw [tell_other hc]
      have := tell_len n (d :: r) (by simp only [List.length_cons] at h ⊢; omega)
      simp only [List.length_cons] at this ⊢; omega
theorem tellS_len (y : Str) : (tellS y).length ≤ y.length := by
  unfold tellS
  rw [ofL_length, ← len_eq y]
  exact tell_len _ _ (Nat.le_refl _)
theorem pairedS_len (y : Str) : (pairedS y).length ≤ y.length := by
  unfold pairedS
  have h1 := replace_less y (Str.ofString "\\\\") (Str.ofString "e") (by decide +kernel) (by decide +kernel)
  have h2 := replace_less (Txt.replace y (Str.ofString "\\\\") (Str.ofString "e")) (Str.ofString "\\\"") (Str.ofString "q") (by decide +kernel) (by decide +kernel)
  omega
theorem head_of {l : List Str} {x y z : Str} (q1 : l = Txt.split x y) (q2 : l[Int.toNat 0]? = some z) : z = (Txt.split x y).headD Str.empty := by
  subst q1
  cases h : Txt.split x y with
  | nil => rw [h] at q2; cases q2
  | cons a r => rw [h] at q2; exact (Option.some.inj q2).symm
theorem word_of {l : List Str} {y z : Str} (q1 : l = Txt.split (pairedS y) (Str.ofString "\"")) (q2 : l[Int.toNat 0]? = some z) : z = wordS y := head_of q1 q2
theorem len_of {l : List Str} {z : Str} {n : Nat} (q3 : ∀ a, a ∈ l → a.length ≤ n) (q2 : l[Int.toNat 0]? = some z) : z.length ≤ n := q3 z (List.mem_of_getElem? q2)
/-! told: pieces between marks -/
def toldT : List (List Nat) → List Nat
  | [] => []
  | [_] => []
  | a :: q :: r => if a = [] then 34 :: (q ++ toldT r) else []
theorem told_tell : ∀ (n : Nat) (l : List Nat), l.length ≤ n → ∃ p r, splitL 34 l = p :: r ∧ tellL l = p ++ toldT r
  | _, [], _ => ⟨[], [], rfl, by rw [tell_nil]; rfl⟩
  | 0, _ :: _, h => absurd h (Nat.not_succ_le_zero _)
  | n + 1, [c], _ => by
    by_cases hc : c = 34
    · subst hc; exact ⟨[], [[]], rfl, by rw [tell_end]; rfl⟩
    · refine ⟨[c], [], ?_, by rw [tell_other hc, tell_nil]; rfl⟩
      show (if c = 34 then _ else _) = _
      rw [if_neg hc]; rfl
  | n + 1, c :: d :: r, h => by
    by_cases hc : c = 34
    · subst hc
      refine ⟨[], splitL 34 (d :: r), by show (if 34 = 34 then _ else _) = _; rw [if_pos rfl], ?_⟩
      by_cases hd : d = 34
      · subst hd
        obtain ⟨p, t, e1, e2⟩ := told_tell n r (by simp only [List.length_cons] at h; omega)
        rw [tell_two, e2]
        show _ = [] ++ toldT (if 34 = 34 then [] :: splitL 34 r else _)
        rw [if_pos rfl, e1]
        show _ = (if ([] : List Nat) = [] then 34 :: (p ++ toldT t) else [])
        rw [if_pos rfl]
      · obtain ⟨p, t, e1, _⟩ := told_tell n r (by simp only [List.length_cons] at h; omega)
        rw [tell_stop hd]
        show _ = [] ++ toldT (if d = 34 then _ else match splitL 34 r with | [] => [[d]] | h :: t => (d :: h) :: t)
        rw [if_neg hd, e1]
        cases t with
        | nil => rfl
        | cons a t => show _ = [] ++ (if d :: p = [] then _ else []); rw [if_neg (List.cons_ne_nil _ _)]; rfl
    · obtain ⟨p, t, e1, e2⟩ := told_tell n (d :: r) (by simp only [List.length_cons] at h ⊢; omega)
      refine ⟨c :: p, t, ?_, by rw [tell_other hc, e2]; rfl⟩
      show (if c = 34 then _ else match splitL 34 (d :: r) with | [] => [[c]] | h :: t => (c :: h) :: t) = _
      rw [if_neg hc, e1]
theorem splitL_len (c : Nat) : ∀ l : List Nat, (splitL c l).length ≤ l.length + 1
  | [] => Nat.le_refl _
  | d :: r => by
    have h := splitL_len c r
    unfold splitL
    split
    · simp only [List.length_cons]; omega
    · split
      · simp
      · rename_i e; rw [e] at h; simp only [List.length_cons] at h ⊢; omega
theorem split_len (x : Str) (c : Nat) : (Txt.split x (ofL [c])).length ≤ x.length + 1 := by
  have h := splitL_len c x.cps.toList
  rw [← split_list, List.length_map, len_eq] at h
  exact h
theorem strs_len {l : List (Str × Tok)} {y : Str} (q : l.map (fun x => x.1) = Txt.split y (Str.ofString "\"")) : l.length ≤ y.length + 1 ∧ (Txt.split y (Str.ofString "\"")).length = l.length := by
  have h := split_len y 34
  have e := congrArg List.length q
  rw [List.length_map] at e
  rw [← lit_mark] at h
  omega
section
variable {l : List (Str × Tok)} {y z z2 : Str} {k : Nat}
theorem pl_get (q : l.map (fun x => x.1) = Txt.split y (Str.ofString "\"")) (h : (l.map fun x => x.1)[k]? = some z) : (splitL 34 y.cps.toList)[k]? = some z.cps.toList := by
  rw [← split_list, ← lit_mark, ← q, List.getElem?_map, h]; rfl
theorem drop_of_get {α : Type} {l : List α} {k : Nat} {a : α} (h : l[k]? = some a) : l.drop k = a :: l.drop (k + 1) := by
  obtain ⟨hk, e⟩ := List.getElem?_eq_some_iff.mp h
  rw [List.drop_eq_getElem_cons hk, e]
theorem lit_nil : Str.ofString "" = ofL [] := by decide +kernel
theorem told_step1 (q : l.map (fun x => x.1) = Txt.split y (Str.ofString "\"")) (h1 : (l.map fun x => x.1)[((k : Int)).toNat]? = some z) (h2 : (l.map fun x => x.1)[((k : Int) + 1).toNat]? = some z2) (hz : (z == Str.ofString "") = true) :
    toldT ((splitL 34 y.cps.toList).drop k) = 34 :: (z2.cps.toList ++ toldT ((splitL 34 y.cps.toList).drop (k + 2))) := by
  have e1 : ((k : Int)).toNat = k := by omega
  have e2 : ((k : Int) + 1).toNat = k + 1 := by omega
  rw [e1] at h1
  rw [e2] at h2
  rw [drop_of_get (pl_get q h1), drop_of_get (pl_get q h2)]
  have e3 : z.cps.toList = [] := by
    rw [beq_iff_eq.mp hz, lit_nil]; rfl
  rw [e3]
  show (if ([] : List Nat) = [] then _ else _) = _
  rw [if_pos rfl]
theorem told_step2 (q : l.map (fun x => x.1) = Txt.split y (Str.ofString "\"")) (h1 : (l.map fun x => x.1)[((k : Int)).toNat]? = some z) (hl : (k : Int) + 1 < l.length) (hz : (z == Str.ofString "") = false) :
    toldT ((splitL 34 y.cps.toList).drop k) = [] := by
  have e1 : ((k : Int)).toNat = k := by omega
  rw [e1] at h1
  have hk : k + 1 < (l.map fun x => x.1).length := by rw [List.length_map]; omega
  have h2 := List.getElem?_eq_getElem hk
  rw [drop_of_get (pl_get q h1), drop_of_get (pl_get q h2)]
  have e3 : z.cps.toList ≠ [] := by
    intro e
    have : z = Str.ofString "" := by rw [lit_nil, ← e, ofL_toList]
    rw [this] at hz
    exact absurd hz (by decide +kernel)
  show (if z.cps.toList = [] then _ else _) = _
  rw [if_neg e3]
theorem told_step3 (q : l.map (fun x => x.1) = Txt.split y (Str.ofString "\"")) (hl : ¬ (k : Int) + 1 < l.length) : toldT ((splitL 34 y.cps.toList).drop k) = [] := by
  have hlen : (splitL 34 y.cps.toList).length = l.length := by rw [← split_list, ← lit_mark, ← q, List.length_map, List.length_map]
  have hd : ((splitL 34 y.cps.toList).drop k).length ≤ 1 := by rw [List.length_drop]; omega
  cases h : (splitL 34 y.cps.toList).drop k with
  | nil => rfl
  | cons a r =>
    cases r with
    | nil => rfl
    | cons b t => rw [h] at hd; simp only [List.length_cons] at hd; omega
theorem told_init (q : l.map (fun x => x.1) = Txt.split y (Str.ofString "\"")) (h1 : (l.map fun x => x.1)[Int.toNat 0]? = some z) : z.cps.toList ++ toldT ((splitL 34 y.cps.toList).drop 1) = tellL y.cps.toList := by
  obtain ⟨p, r, e1, e2⟩ := told_tell _ y.cps.toList (Nat.le_refl _)
  have h := pl_get (k := 0) q h1
  rw [e1] at h ⊢
  rw [e2]
  have : p = z.cps.toList := Option.some.inj h
  rw [this]; rfl
end
theorem told_cat (d : List Nat) (z : Str) : ofL d ++ Str.ofString "\"" ++ z = ofL (d ++ (34 :: z.cps.toList)) := by
  have h := ofL_append (d ++ [34]) z.cps.toList
  rw [lit_mark, ofL_append]
  rw [ofL_toList] at h
  rw [h, List.append_assoc]; rfl
/-! sent: rows -/
def normS (y : Str) : Str := Txt.replace (Txt.replace y (Str.ofString "\r\n") (Str.ofString "\n")) (Str.ofString "\r") (Str.ofString "\n")
def dotS (z : Str) : Str := if (Txt.slice z none (some 1) == Str.ofString ".") = true then Str.ofString "." ++ z else z
def lawSentS (y : Str) : Str := Str.join (Str.ofString "\r\n") ((Txt.split (normS y) (Str.ofString "\n")).map dotS)
theorem lit_rf : Str.ofString "\r\n" = ofL [13, 10] := by decide +kernel
theorem lit_r : Str.ofString "\r" = ofL [13] := by decide +kernel
theorem lit_f : Str.ofString "\n" = ofL [10] := by decide +kernel
theorem lit_dot : Str.ofString "." = ofL [46] := by decide +kernel
def sendS (y : Str) : Str := ofL (sendL y.cps.toList)
theorem sendS_len (y : Str) : (sendS y).length ≤ 2 * y.length := by
  unfold sendS sendL
  rw [ofL_length, ← len_eq y]
  exact sendG_len _ true
theorem normS_list (y : Str) : (normS y).cps.toList = n1 y.cps.toList := by
  unfold normS
  rw [replace_list _ _ _ (by decide +kernel), replace_list _ _ _ (by decide +kernel), lit_rf, lit_r, lit_f]
  exact repL_one 13 [10] _
theorem dotS_list (z : Str) : (dotS z).cps.toList = dotIf true z.cps.toList := by
  unfold dotS
  rw [← ofL_toList z, lit_dot]
  generalize z.cps.toList = l
  cases l with
  | nil => rfl
  | cons c r =>
    have e1 : Txt.slice (ofL (c :: r)) none (some 1) = ofL ((c :: r).take 1) := slice_to (c :: r) 1 (by simp)
    rw [e1, ofL_beq]
    unfold dotIf
    by_cases h : c = 46
    · subst h
      rw [if_pos (by simp), if_pos ⟨rfl, rfl⟩]
      rw [ofL_append]; rfl
    · have e : (List.take 1 (c :: r) == [46]) = false := by simp [h]
      rw [e, if_neg (by simp), if_neg (fun q => h (by simpa [ofL_list] using q))]
theorem dotS_len (z : Str) : (dotS z).length ≤ z.length + 1 := by
  rw [← len_eq, ← len_eq, dotS_list]
  unfold dotIf
  split <;> simp
theorem lawSentS_eq (y : Str) : lawSentS y = sendS y := by
  refine eq_ofL ?_
  unfold lawSentS
  rw [join_list, List.map_map, lit_rf, lit_f, ← rows_sendL, ← normS_list, ← split_list, List.map_map]
  refine congrArg (joinL [13, 10]) (List.map_congr_left fun z _ => ?_)
  exact dotS_list z
theorem strs_len' {l : List (Str × Tok)} {y : Str} {c : Nat} (q : l.map (fun x => x.1) = Txt.split y (ofL [c])) : l.length ≤ y.length + 1 := by
  have h := split_len y c
  have e := congrArg List.length q
  rw [List.length_map] at e
  omega
theorem join_ok {texts : List Str} {x : Str} (hn : texts.length ≤ 901) (hB : ∀ a ∈ texts, a.length ≤ 901) (hx : x.length ≤ 2) : (texts.map fun y => y.length).sum + texts.length * x.length ≤ 1000000 := by
  have h1 := StrLaws.sumLen_le texts hB
  have h2 : texts.length * 901 ≤ 901 * 901 := Nat.mul_le_mul_right _ hn
  have h3 : texts.length * x.length ≤ 901 * 2 := Nat.mul_le_mul hn hx
  omega
theorem strs_lenF {l : List (Str × Tok)} {y : Str} (q : l.map (fun x => x.1) = Txt.split y (Str.ofString "\n")) : l.length ≤ y.length + 1 := by
  rw [lit_f] at q; exact strs_len' q
end Mine
end
section
open PySem PySem.W PyProof.Rows
set_option Elab.async false
set_option maxRecDepth 100000
namespace Mine
theorem plainAttrs_pat : PlainAttrs "re.Pattern" :=
  ⟨⟨"object.__getattribute__", by rw [typeLookup_type, builtinLookup_eq_fast]; kernel_rfl, by decide +kernel⟩, by rw [typeLookup_type, builtinLookup_eq_fast]; kernel_rfl⟩
theorem owner_pat : Manifest.owners.lookup "re.Pattern" = some Manifest.sig_re_Pattern := by kernel_rfl
theorem slot_sub : Slot "re.Pattern" "sub" "re.Pattern.sub" :=
  .of (owner := "re.Pattern") (n := "sub") (by rw [typeLookup_type, builtinLookup_eq_fast]; kernel_rfl) (by decide +kernel) (by decide +kernel) (by decide +kernel)
    (by first | exact .inl (by decide +kernel) | exact .inr (by decide +kernel)) (by rw [isSubtype_type]; kernel_rfl)
theorem type_sub : typeOf (.builtin "re.Pattern.sub") = pure (.type "method_descriptor") := by show builtinType _ = _; rw [builtinType_eq_fast]; kernel_rfl
theorem entry_sub : entryFor table "re.Pattern.sub" = some Builtin.«re.Pattern.sub» := entryFor_of_tree (by kernel_rfl)
theorem entry_loop : entryFor table "re.Pattern.sub.loop" = some Builtin.«re.Pattern.sub.loop» := entryFor_of_tree (by kernel_rfl)
theorem args_sub (a b c : Value) : argsOk "re.Pattern.sub" ⟨[a, b, c], []⟩ := by unfold argsOk; kernel_rfl
theorem str_nocall : typeLookup (.type "str") "__call__" = pure none := by rw [typeLookup_type, builtinLookup_eq_fast]; kernel_rfl
theorem loop_plain : plainId "re.Pattern.sub.loop" = true := by decide +kernel
end Mine
end
section
open PySem PySem.Sre
set_option Elab.async false
set_option maxRecDepth 100000
namespace Mine
theorem runFor_out {m : M} (h : m.outcome.isSome = true) : ∀ n, m.runFor n = m
  | 0 => rfl
  | n + 1 => by unfold M.runFor; rw [if_pos h]
theorem runFor_succ {m : M} (h : m.outcome = none) (n : Nat) : m.runFor (n + 1) = m.step.runFor n := by
  rw [M.runFor, h]; rfl
theorem runFor_add (a b : Nat) : ∀ m : M, m.runFor (a + b) = (m.runFor a).runFor b := by
  induction a with
  | zero => intro m; rw [Nat.zero_add]; rfl
  | succ a ih =>
    intro m
    by_cases h : m.outcome.isSome = true
    · rw [runFor_out h, runFor_out h, runFor_out h]
    · have h' : m.outcome = none := by simpa using h
      rw [show a + 1 + b = (a + b) + 1 by omega, runFor_succ h', runFor_succ h', ih]
/-- it comes to an end within n steps, as told -/
def Ends (m : M) (n : Nat) (P : M → Prop) : Prop := ∃ k, k ≤ n ∧ (m.runFor k).outcome.isSome = true ∧ P (m.runFor k)
theorem Ends.step {m : M} {n : Nat} {P : M → Prop} (h : m.outcome = none) (e : Ends m.step n P) : Ends m (n + 1) P := by
  obtain ⟨k, hk, h1, h2⟩ := e
  exact ⟨k + 1, Nat.succ_le_succ hk, by rw [runFor_succ h]; exact h1, by rw [runFor_succ h]; exact h2⟩
theorem Ends.here {m : M} {n : Nat} {P : M → Prop} (h : m.outcome.isSome = true) (p : P m) : Ends m n P := ⟨0, Nat.zero_le _, h, p⟩
theorem Ends.mono {m : M} {n n' : Nat} {P : M → Prop} (hn : n ≤ n') (e : Ends m n P) : Ends m n' P := let ⟨k, hk, r⟩ := e; ⟨k, Nat.le_trans hk hn, r⟩
def Matched (b e : Nat) (m : M) : Prop := m.outcome = some .matched ∧ m.start = b ∧ m.handed = e
def Failed (m : M) : Prop := m.outcome = some .failed

namespace R1
def code : Array Nat := #[14, 4, 0, 1, 1, 6, 1, 16, 46, 1]
/-- the machine at the start of an attempt -/
def at0 (text : Array Nat) (lim s : Nat) (first must : Bool) (seen : Seen) : M :=
  { code := code, text := text, lim := lim, start := s, lastStart := lim, mustAdvance := must, pc := 5, pos := s, handed := s, outermost := first, marks := #[], frames := [{ wait := .nextStart, pc := 5, pos := s, outermost := first }], weight := 1, seen := seen }
theorem search_eq (text : Array Nat) (lim s : Nat) (must : Bool) : ∃ a b : M, forSearch code text 0 s lim must = (if (decide (s > lim) || decide (lim - s < 1)) = true then a else b) ∧ (a.runFor 1).outcome = some .failed ∧ b = at0 text lim s true must (({} : Seen).add 14) :=
  ⟨_, _, rfl, rfl, rfl⟩
/-- a row begins at s -/
def rowAt (text : Array Nat) (s : Nat) : Bool := s == 0 || text.getD (s - 1) 0 == 10
theorem step_at (text : Array Nat) (lim s : Nat) (first must : Bool) (seen : Seen) :
    ∃ seen', (at0 text lim s first must seen).step = if rowAt text s = true then { at0 text lim s first must seen' with pc := 7 } else { at0 text lim s first must seen' with answer := some false } :=
  ⟨_, rfl⟩
theorem step_lit (text : Array Nat) (lim s : Nat) (first must : Bool) (seen : Seen) :
    ∃ seen', ({ at0 text lim s first must seen with pc := 7 } : M).step = if s ≥ lim then { at0 text lim s first must seen' with pc := 7, answer := some false } else
      (match (Except.ok (text.getD s 0 == 46, seen') : Except String (Bool × Seen)) with
       | .error why => ({ at0 text lim s first must seen' with pc := 7 } : M).stick why
       | .ok (false, seen) => { at0 text lim s first must seen with pc := 7, answer := some false }
       | .ok (true, seen) => { at0 text lim s first must seen with pc := 9, pos := s + 1 }) :=
  ⟨_, rfl⟩
theorem step_ok (text : Array Nat) (lim s : Nat) (first : Bool) (seen : Seen) :
    ∃ seen', ({ at0 text lim s first false seen with pc := 9, pos := s + 1 } : M).step = if (first && ((false && s + 1 != lim) || (false && s + 1 == s))) = true then { at0 text lim s first false seen' with pc := 9, pos := s + 1, answer := some false } else { at0 text lim s first false seen' with pc := 9, pos := s + 1, handed := s + 1, answer := some true } :=
  ⟨_, rfl⟩
theorem step_ok' (text : Array Nat) (lim s : Nat) (first : Bool) (seen : Seen) :
    Ends { at0 text lim s first false seen with pc := 9, pos := s + 1 } 3 (Matched s (s + 1)) := by
  obtain ⟨seen', e⟩ := step_ok text lim s first seen
  refine Ends.step rfl ?_
  rw [e, if_neg (by simp)]
  refine Ends.step rfl (Ends.step rfl (Ends.here rfl ?_))
  exact ⟨rfl, rfl, rfl⟩
theorem step_no (text : Array Nat) (lim s : Nat) (first must : Bool) (seen : Seen) (pc' : Nat) :
    ({ at0 text lim s first must seen with pc := pc', answer := some false } : M).step = if s < lim then at0 text lim (s + 1) false false seen else { at0 text lim s first must seen with frames := [], weight := 0, answer := some false } := by
  rfl
def hit (text : Array Nat) (s : Nat) : Bool := rowAt text s && text.getD s 0 == 46
def Res (text : Array Nat) (lim s : Nat) (m : M) : Prop :=
  (∃ b, s ≤ b ∧ b < lim ∧ hit text b = true ∧ (∀ j, s ≤ j → j < b → hit text j = false) ∧ Matched b (b + 1) m) ∨ ((∀ j, s ≤ j → j < lim → hit text j = false) ∧ Failed m)
theorem res_next {text : Array Nat} {lim s : Nat} {m : M} (h : hit text s = false) (r : Res text lim (s + 1) m) : Res text lim s m := by
  rcases r with ⟨b, h1, h2, h3, h4, h5⟩ | ⟨h1, h2⟩
  · refine .inl ⟨b, by omega, h2, h3, fun j hj hb => ?_, h5⟩
    by_cases e : j = s
    · rw [e]; exact h
    · exact h4 j (by omega) hb
  · refine .inr ⟨fun j hj hb => ?_, h2⟩
    by_cases e : j = s
    · rw [e]; exact h
    · exact h1 j (by omega) hb
theorem no_next {text : Array Nat} {lim s n : Nat} {first : Bool} {seen : Seen} {pc' : Nat} (hh : s < lim → hit text s = false)
    (ih : s < lim → ∀ seen, Ends (at0 text lim (s + 1) false false seen) n (Res text lim (s + 1))) (hn : 1 ≤ n) :
    Ends ({ at0 text lim s first false seen with pc := pc', answer := some false } : M) (n + 1) (Res text lim s) := by
  refine Ends.step rfl ?_
  rw [step_no]
  by_cases h : s < lim
  · rw [if_pos h]
    obtain ⟨k, hk, h1, h2⟩ := ih h seen
    exact ⟨k, hk, h1, res_next (hh h) h2⟩
  · rw [if_neg h]
    refine Ends.mono hn (Ends.step rfl (Ends.here rfl (.inr ⟨fun j h1 h2 => absurd (Nat.lt_of_le_of_lt h1 h2) h, rfl⟩)))
theorem run (text : Array Nat) (lim : Nat) : ∀ (d s : Nat) (first : Bool) (seen : Seen), lim - s ≤ d → Ends (at0 text lim s first false seen) (3 * d + 5) (Res text lim s) := by
  intro d
  induction d with
  | zero =>
    intro s first seen hd
    have hs : ¬ s < lim := by omega
    have hge : s ≥ lim := by omega
    obtain ⟨seen1, e1⟩ := step_at text lim s first false seen
    refine Ends.step rfl ?_
    rw [e1]
    cases hr : rowAt text s
    · rw [if_neg (by simp)]
      exact Ends.mono (by omega) (no_next (n := 1) (fun h => absurd h hs) (fun h => absurd h hs) (Nat.le_refl 1))
    · rw [if_pos rfl]
      obtain ⟨seen2, e2⟩ := step_lit text lim s first false seen1
      refine Ends.step rfl ?_
      rw [e2, if_pos hge]
      exact Ends.mono (by omega) (no_next (n := 1) (fun h => absurd h hs) (fun h => absurd h hs) (Nat.le_refl 1))
  | succ d ih =>
    intro s first seen hd
    have ih' : s < lim → ∀ seen, Ends (at0 text lim (s + 1) false false seen) (3 * d + 5) (Res text lim (s + 1)) := fun _ seen => ih (s + 1) false seen (by omega)
    obtain ⟨seen1, e1⟩ := step_at text lim s first false seen
    have e3 : 3 * (d + 1) + 5 = (3 * d + 7) + 1 := by omega
    rw [e3]
    refine Ends.step rfl ?_
    rw [e1]
    cases hr : rowAt text s
    · rw [if_neg (by simp)]
      exact Ends.mono (by omega) (no_next (n := 3 * d + 5) (fun _ => by unfold hit; rw [hr]; rfl) ih' (by omega))
    · rw [if_pos rfl]
      obtain ⟨seen2, e2⟩ := step_lit text lim s first false seen1
      refine Ends.step (n := 3 * d + 6) rfl ?_
      rw [e2]
      by_cases hge : s ≥ lim
      · rw [if_pos hge]
        exact Ends.mono (by omega) (no_next (n := 3 * d + 5) (fun h => absurd h (by omega)) ih' (by omega))
      · rw [if_neg hge]
        cases hc : text.getD s 0 == 46
        · exact no_next (n := 3 * d + 5) (fun _ => by unfold hit; rw [hr, hc]; rfl) ih' (by omega)
        · obtain ⟨k, hk, h1, h2⟩ := step_ok' text lim s first seen2
          exact ⟨k, by omega, h1, .inl ⟨s, Nat.le_refl _, by omega, by unfold hit; rw [hr, hc]; rfl, fun j h3 h4 => absurd (Nat.lt_of_le_of_lt h3 h4) (Nat.lt_irrefl _), h2⟩⟩
theorem search (text : Array Nat) (lim s : Nat) : Ends (forSearch code text 0 s lim false) (3 * lim + 5) (Res text lim s) := by
  obtain ⟨a, b, e, ha, hb⟩ := search_eq text lim s false
  rw [e]
  by_cases h : lim ≤ s
  · have hc : (decide (s > lim) || decide (lim - s < 1)) = true := by simp; omega
    rw [if_pos hc]
    exact ⟨1, by omega, by rw [ha]; rfl, .inr ⟨fun j h1 h2 => absurd h2 (by omega), ha⟩⟩
  · have hc : (decide (s > lim) || decide (lim - s < 1)) = false := by simp; omega
    rw [hc, if_neg (by simp), hb]
    exact Ends.mono (by omega) (run text lim (lim - s) s true _ (Nat.le_refl _))
end R1
namespace R2
def code : Array Nat := #[14, 9, 4, 1, 2, 16, 10, 16, 13, 0, 7, 7, 16, 13, 16, 10, 15, 18, 5, 16, 10, 15, 13, 11, 16, 13, 5, 5, 0, 16, 10, 1, 15, 2, 0, 1]
def F0 (s : Nat) (first : Bool) : Sre.Frame := { wait := .nextStart, pc := 10, pos := s, outermost := first }
def Fb (p s : Nat) (first : Bool) : Sre.Frame := { wait := .nextBranch, pc := p, pos := s, outermost := first }
def Fn (s : Nat) (first : Bool) : Sre.Frame := { wait := .lookNot, pc := 26, pos := s, outermost := first }
def S (text : Array Nat) (lim s : Nat) (seen : Seen) (pc pos handed : Nat) (om : Bool) (fr : List Sre.Frame) (wt : Nat) (ans : Option Bool) : M :=
  { code := code, text := text, lim := lim, start := s, lastStart := lim, pc := pc, pos := pos, handed := handed, outermost := om, marks := #[], frames := fr, weight := wt, answer := ans, seen := seen }
section
variable {text : Array Nat} {lim s : Nat} {first : Bool} {seen : Seen}
theorem s_branch : ∃ seen', (S text lim s seen 10 s s first [F0 s first] 1 none).step = S text lim s seen' 12 s s first [Fb 11 s first, F0 s first] 2 none := ⟨_, rfl⟩
theorem s_no11 {pc pos handed : Nat} {om : Bool} : (S text lim s seen pc pos handed om [Fb 11 s first, F0 s first] 2 (some false)).step = S text lim s seen 19 s s first [Fb 18 s first, F0 s first] 2 none := rfl
theorem s_no18 {pc pos handed : Nat} {om : Bool} : (S text lim s seen pc pos handed om [Fb 18 s first, F0 s first] 2 (some false)).step = S text lim s seen 24 s s first [Fb 23 s first, F0 s first] 2 none := rfl
theorem s_lit {pc v pos handed : Nat} {om : Bool} {fr : List Sre.Frame} {wt : Nat} (h : (pc = 12 ∧ v = 13) ∨ (pc = 14 ∧ v = 10) ∨ (pc = 19 ∧ v = 10) ∨ (pc = 24 ∧ v = 13) ∨ (pc = 29 ∧ v = 10)) :
    ∃ seen', (S text lim s seen pc pos handed om fr wt none).step = if pos ≥ lim then S text lim s seen' pc pos handed om fr wt (some false) else
      (match (Except.ok (text.getD pos 0 == v, seen') : Except String (Bool × Seen)) with
       | .error why => (S text lim s seen' pc pos handed om fr wt none).stick why
       | .ok (false, seen) => S text lim s seen pc pos handed om fr wt (some false)
       | .ok (true, seen) => S text lim s seen (pc + 2) (pos + 1) handed om fr wt none) := by
  rcases h with ⟨rfl, rfl⟩ | ⟨rfl, rfl⟩ | ⟨rfl, rfl⟩ | ⟨rfl, rfl⟩ | ⟨rfl, rfl⟩ <;> exact ⟨_, rfl⟩
theorem s_jump {pc to pos handed : Nat} {om : Bool} {fr : List Sre.Frame} {wt : Nat} (h : (pc = 16 ∧ to = 35) ∨ (pc = 21 ∧ to = 35) ∨ (pc = 32 ∧ to = 35)) :
    ∃ seen', (S text lim s seen pc pos handed om fr wt none).step = S text lim s seen' to pos handed om fr wt none := by
  rcases h with ⟨rfl, rfl⟩ | ⟨rfl, rfl⟩ | ⟨rfl, rfl⟩ <;> exact ⟨_, rfl⟩
theorem s_assert {pos handed : Nat} : ∃ seen', (S text lim s seen 26 pos handed first [Fb 23 s first, F0 s first] 2 none).step = S text lim s seen' 29 pos pos false [Fn pos first, Fb 23 s first, F0 s first] 3 none := ⟨_, rfl⟩
theorem s_noLook {pos pos' handed pc : Nat} {om : Bool} : (S text lim s seen pc pos' handed om [Fn pos first, Fb 23 s first, F0 s first] 3 (some false)).step = S text lim s seen 32 pos handed first [Fb 23 s first, F0 s first] 2 none := rfl
theorem s_ok {p pos handed : Nat} : ∃ seen', (S text lim s seen 35 pos handed first [Fb p s first, F0 s first] 2 none).step =
    if (first && ((false && pos != lim) || (false && pos == s))) = true then S text lim s seen' 35 pos handed first [Fb p s first, F0 s first] 2 (some false) else S text lim s seen' 35 pos pos first [Fb p s first, F0 s first] 2 (some true) := ⟨_, rfl⟩
theorem ends_ok {p pos handed : Nat} : Ends (S text lim s seen 35 pos handed first [Fb p s first, F0 s first] 2 none) 4 (Matched s pos) := by
  obtain ⟨seen', e⟩ := s_ok (text := text) (lim := lim) (s := s) (first := first) (seen := seen) (p := p) (pos := pos) (handed := handed)
  refine Ends.step rfl ?_
  rw [e, if_neg (by simp)]
  exact Ends.step rfl (Ends.step rfl (Ends.step rfl (Ends.here rfl ⟨rfl, rfl, rfl⟩)))
theorem lit_yes {pc v pos handed : Nat} {om : Bool} {fr : List Sre.Frame} {wt n : Nat} {P : M → Prop} (h : (pc = 12 ∧ v = 13) ∨ (pc = 14 ∧ v = 10) ∨ (pc = 19 ∧ v = 10) ∨ (pc = 24 ∧ v = 13) ∨ (pc = 29 ∧ v = 10))
    (hl : pos < lim) (hv : text.getD pos 0 = v) (k : ∀ seen', Ends (S text lim s seen' (pc + 2) (pos + 1) handed om fr wt none) n P) : Ends (S text lim s seen pc pos handed om fr wt none) (n + 1) P := by
  obtain ⟨seen', e⟩ := s_lit (text := text) (lim := lim) (s := s) (seen := seen) (pos := pos) (handed := handed) (om := om) (fr := fr) (wt := wt) h
  refine Ends.step rfl ?_
  rw [e, if_neg (by omega), hv, beq_self_eq_true]
  exact k _
theorem lit_no {pc v pos handed : Nat} {om : Bool} {fr : List Sre.Frame} {wt n : Nat} {P : M → Prop} (h : (pc = 12 ∧ v = 13) ∨ (pc = 14 ∧ v = 10) ∨ (pc = 19 ∧ v = 10) ∨ (pc = 24 ∧ v = 13) ∨ (pc = 29 ∧ v = 10))
    (hv : pos < lim → text.getD pos 0 ≠ v) (k : ∀ seen', Ends (S text lim s seen' pc pos handed om fr wt (some false)) n P) : Ends (S text lim s seen pc pos handed om fr wt none) (n + 1) P := by
  obtain ⟨seen', e⟩ := s_lit (text := text) (lim := lim) (s := s) (seen := seen) (pos := pos) (handed := handed) (om := om) (fr := fr) (wt := wt) h
  refine Ends.step rfl ?_
  rw [e]
  by_cases hl : pos ≥ lim
  · rw [if_pos hl]; exact k _
  · rw [if_neg hl]
    have hb : (text.getD pos 0 == v) = false := by simpa using hv (by omega)
    rw [hb]
    exact k _
theorem jump {pc pos handed : Nat} {om : Bool} {fr : List Sre.Frame} {wt n : Nat} {P : M → Prop} (h : (pc = 16) ∨ (pc = 21) ∨ (pc = 32)) (k : ∀ seen', Ends (S text lim s seen' 35 pos handed om fr wt none) n P) :
    Ends (S text lim s seen pc pos handed om fr wt none) (n + 1) P := by
  obtain ⟨seen', e⟩ := s_jump (text := text) (lim := lim) (s := s) (seen := seen) (pos := pos) (handed := handed) (om := om) (fr := fr) (wt := wt) (pc := pc) (to := 35) (by rcases h with h | h | h <;> simp [h])
  refine Ends.step rfl ?_
  rw [e]; exact k _
/-- where the match that begins at s ends -/
def stop (text : Array Nat) (lim s : Nat) : Nat := if text.getD s 0 = 13 ∧ s + 1 < lim ∧ text.getD (s + 1) 0 = 10 then s + 2 else s + 1
theorem attempt (hs : s < lim) (hc : text.getD s 0 = 10 ∨ text.getD s 0 = 13) : Ends (S text lim s seen 10 s s first [F0 s first] 1 none) 20 (Matched s (stop text lim s)) := by
  obtain ⟨seen1, e1⟩ := s_branch (text := text) (lim := lim) (s := s) (first := first) (seen := seen)
  refine Ends.step (n := 19) rfl ?_
  rw [e1]
  by_cases h13 : text.getD s 0 = 13
  · refine lit_yes (n := 18) (v := 13) (by simp) hs h13 fun seen2 => ?_
    by_cases h10 : s + 1 < lim ∧ text.getD (s + 1) 0 = 10
    · refine lit_yes (n := 17) (v := 10) (by simp) h10.1 h10.2 fun seen3 => ?_
      refine jump (n := 16) (by simp) fun seen4 => ?_
      rw [show stop text lim s = s + 1 + 1 by unfold stop; rw [if_pos ⟨h13, h10⟩]]
      exact Ends.mono (by omega) ends_ok
    · have hne : s + 1 < lim → text.getD (s + 1) 0 ≠ 10 := fun a b => h10 ⟨a, b⟩
      refine lit_no (n := 17) (v := 10) (by simp) hne fun seen3 => ?_
      refine Ends.step (n := 16) rfl ?_
      rw [s_no11]
      refine lit_no (n := 15) (v := 10) (by simp) (fun _ => by rw [h13]; decide) fun seen4 => ?_
      refine Ends.step (n := 14) rfl ?_
      rw [s_no18]
      refine lit_yes (n := 13) (v := 13) (by simp) hs h13 fun seen5 => ?_
      obtain ⟨seen6, e6⟩ := s_assert (text := text) (lim := lim) (s := s) (first := first) (seen := seen5) (pos := s + 1) (handed := s)
      refine Ends.step (n := 12) rfl ?_
      rw [e6]
      refine lit_no (n := 11) (v := 10) (by simp) hne fun seen7 => ?_
      refine Ends.step (n := 10) rfl ?_
      rw [s_noLook]
      refine jump (n := 9) (by simp) fun seen8 => ?_
      rw [show stop text lim s = s + 1 by unfold stop; rw [if_neg fun q => h10 q.2]]
      exact Ends.mono (by omega) ends_ok
  · have h10 : text.getD s 0 = 10 := hc.resolve_right h13
    refine lit_no (n := 18) (v := 13) (by simp) (fun _ => h13) fun seen2 => ?_
    refine Ends.step (n := 17) rfl ?_
    rw [s_no11]
    refine lit_yes (n := 16) (v := 10) (by simp) hs h10 fun seen3 => ?_
    refine jump (n := 15) (by simp) fun seen4 => ?_
    rw [show stop text lim s = s + 1 by unfold stop; rw [if_neg fun q => h13 q.1]]
    exact Ends.mono (by omega) ends_ok
end
def nl (text : Array Nat) (s : Nat) : Bool := text.getD s 0 == 10 || text.getD s 0 == 13
theorem inset (c : Nat) (seen : Seen) : ∃ s1 s2 s3, inSet code c 36 5 true seen = if c == 10 then .ok (true, s1) else if c == 13 then .ok (true, s2) else .ok (false, s3) := ⟨_, _, _, rfl⟩
def Found (text : Array Nat) (lim s : Nat) (r : Option Nat) : Prop :=
  match r with
  | some b => s ≤ b ∧ b < lim ∧ nl text b = true ∧ ∀ j, s ≤ j → j < b → nl text j = false
  | none => ∀ j, s ≤ j → j < lim → nl text j = false
theorem found_next {text : Array Nat} {lim s : Nat} {r : Option Nat} (h : nl text s = false) (f : Found text lim (s + 1) r) : Found text lim s r := by
  cases r with
  | some b =>
    obtain ⟨h1, h2, h3, h4⟩ := f
    refine ⟨by omega, h2, h3, fun j hj hb => ?_⟩
    by_cases e : j = s
    · rw [e]; exact h
    · exact h4 j (by omega) hb
  | none =>
    intro j hj hb
    by_cases e : j = s
    · rw [e]; exact h
    · exact f j (by omega) hb
theorem adm (m : M) (text : Array Nat) (lim : Nat) (h1 : m.code = code) (h2 : m.text = text) (h3 : m.lim = lim) : ∀ (fuel s : Nat) (seen : Seen), lim + 1 - s ≤ fuel → ∃ r seen', M.admitted m fuel s seen = .ok (r, seen') ∧ Found text lim s r := by
  intro fuel
  induction fuel with
  | zero =>
    intro s seen hf
    exact ⟨none, seen, rfl, fun j h4 h5 => absurd h5 (by omega)⟩
  | succ fuel ih =>
    intro s seen hf
    rw [M.admitted, h3, h2, h1]
    by_cases hs : s ≥ lim
    · rw [if_pos hs]
      exact ⟨none, seen, rfl, fun j h4 h5 => absurd h5 (by omega)⟩
    · rw [if_neg hs]
      obtain ⟨s1, s2, s3, e⟩ := inset (text.getD s 0) seen
      have e' : inSet code (text.getD s 0) code.size 5 true seen = _ := e
      rw [e']
      by_cases c1 : (text.getD s 0 == 10) = true
      · rw [if_pos c1]
        exact ⟨some s, s1, rfl, Nat.le_refl _, by omega, by unfold nl; rw [c1]; rfl, fun j h4 h5 => absurd (Nat.lt_of_le_of_lt h4 h5) (Nat.lt_irrefl _)⟩
      · rw [if_neg c1]
        by_cases c2 : (text.getD s 0 == 13) = true
        · rw [if_pos c2]
          exact ⟨some s, s2, rfl, Nat.le_refl _, by omega, by unfold nl; rw [c2, Bool.or_true], fun j h4 h5 => absurd (Nat.lt_of_le_of_lt h4 h5) (Nat.lt_irrefl _)⟩
        · rw [if_neg c2]
          obtain ⟨r, seen', e3, f⟩ := ih (s + 1) s3 (by omega)
          refine ⟨r, seen', e3, found_next ?_ f⟩
          unfold nl
          rw [Bool.eq_false_iff.mpr c1, Bool.eq_false_iff.mpr c2]; rfl
def Res (text : Array Nat) (lim s : Nat) (m : M) : Prop :=
  (∃ b, s ≤ b ∧ b < lim ∧ nl text b = true ∧ (∀ j, s ≤ j → j < b → nl text j = false) ∧ Matched b (stop text lim b) m) ∨ ((∀ j, s ≤ j → j < lim → nl text j = false) ∧ Failed m)
theorem search_eq (text : Array Nat) (lim s : Nat) : ∃ (a b : M) (seen : Seen) (m : M), forSearch code text 0 s lim false = (if (decide (s > lim) || decide (lim - s < 1)) = true then a else b) ∧ (a.runFor 1).outcome = some .failed ∧
    m.code = code ∧ m.text = text ∧ m.lim = lim ∧
    b = (match M.admitted m (lim + 1 - s) s seen with
      | .ok (some s, seen) => S text lim s seen 10 s s true [F0 s true] 1 none
      | .ok (none, seen) => ({ m with seen } : M).say false
      | .error why => m.stick why) ∧ ∀ seen', ((({ m with seen := seen' } : M).say false).runFor 1).outcome = some .failed :=
  ⟨_, _, _, _, rfl, rfl, rfl, rfl, rfl, rfl, fun _ => rfl⟩
theorem search (text : Array Nat) (lim s : Nat) : Ends (forSearch code text 0 s lim false) 20 (Res text lim s) := by
  obtain ⟨a, b, seen, m, e, ha, h1, h2, h3, hb, hf⟩ := search_eq text lim s
  rw [e]
  by_cases h : lim ≤ s
  · have hc : (decide (s > lim) || decide (lim - s < 1)) = true := by simp; omega
    rw [if_pos hc]
    exact ⟨1, by omega, by rw [ha]; rfl, .inr ⟨fun j h1 h2 => absurd h2 (by omega), ha⟩⟩
  · have hc : (decide (s > lim) || decide (lim - s < 1)) = false := by simp; omega
    rw [hc, if_neg (by simp), hb]
    obtain ⟨r, seen', e2, f⟩ := adm m text lim h1 h2 h3 _ s seen (Nat.le_refl _)
    rw [e2]
    cases r with
    | none => exact ⟨1, by omega, by show ((({ m with seen := seen' } : M).say false).runFor 1).outcome.isSome = true; rw [hf]; rfl, .inr ⟨f, hf seen'⟩⟩
    | some c =>
      obtain ⟨f1, f2, f3, f4⟩ := f
      have hcc : text.getD c 0 = 10 ∨ text.getD c 0 = 13 := by
        unfold nl at f3
        simpa using f3
      obtain ⟨k, hk, g1, g2⟩ := attempt (text := text) (lim := lim) (s := c) (first := true) (seen := seen') f2 hcc
      exact ⟨k, hk, g1, .inl ⟨c, f1, f2, f3, f4, g2⟩⟩
end R2
end Mine
end
section
open PySem PySem.W PyProof.Rows
set_option Elab.async false
set_option maxRecDepth 100000
namespace Mine
open PySem.Builtin.Re
structure PatAt (h : Heap) (pat ct : Addr) (cd : Array Nat) : Prop where
  o : ∃ p fl, h.get? pat = some { cls := .type "re.Pattern", data := .fields #[p, fl, .int 0 0, .none, .none, .ref ct, .int 0 0] }
  c : ∃ items n, h.get? ct = some { cls := .type "tuple", data := .seq items n } ∧ ((items.map reRawOf).map (·.toNat)) = cd
theorem PatAt.keeps {h h' : Heap} {pat ct : Addr} {cd : Array Nat} (x : PatAt h pat ct cd) (k : ∀ b o, h.get? b = some o → h'.get? b = some o) : PatAt h' pat ct cd :=
  ⟨let ⟨p, fl, e⟩ := x.o; ⟨p, fl, k _ _ e⟩, let ⟨i, n, e, r⟩ := x.c; ⟨i, n, k _ _ e, r⟩⟩
def tgt (pat : Addr) (x : Str) (t : Tok) (cd : Array Nat) : ReTarget := { pattern := .ref pat, string := .str x t, code := cd, text := x.cps, kind := 0, groups := 0, pos := 0, lim := x.cps.size }
section
variable {prog : Program} {w : World} {A : Around} {E : Value → Shared → Prop} {s : Shared} {pat ct : Addr} {cd : Array Nat} {x : Str} {t : Tok}
theorem rawItems {Q : Array Int → Shared → Prop} {a : Addr} {items : Array Value} {n : Nat} {o : Obj} (ho : s.heap.get? a = some o) (hd : o.data = .seq items n) (h : Q (items.map reRawOf) s) : wpAny (model prog w) A (reRawItems (.ref a)) Q E s := by
  unfold reRawItems
  exact wpAny_bind (wpAny_seqItems ho hd (wpAny_pure h))
theorem wholeTarget {Q : ReTarget → Shared → Prop} (P : PatAt s.heap pat ct cd) (h : Q (tgt pat x t cd) s) : wpAny (model prog w) A (reWholeTarget (.ref pat) (.str x t)) Q E s := by
  obtain ⟨p, fl, e⟩ := P.o
  obtain ⟨items, n, e2, hc⟩ := P.c
  unfold reWholeTarget
  refine wpAny_bind (wpAny_fieldsOf e rfl ?_)
  show wpAny _ _ (reRawItems (.ref ct) >>= fun a => pure ({ pattern := .ref pat, string := .str x t, code := a.map (·.toNat), text := x.cps, kind := 0, groups := 0, pos := 0, lim := x.cps.size } : ReTarget)) _ _ _
  refine wpAny_bind (rawItems e2 rfl (wpAny_pure ?_))
  rw [hc]
  exact h
theorem forRules {f : Nat → PUnit → Sem (ForInStep PUnit)} (hf : ∀ (i : Nat) (u : PUnit) (Q : ForInStep PUnit → Shared → Prop), Q (.yield ⟨⟩) s → wpAny (model prog w) A (f i u) Q E s) :
    ∀ (l : List Nat) (Q : PUnit → Shared → Prop), Q ⟨⟩ s → wpAny (model prog w) A (forIn l ⟨⟩ f) Q E s
  | [], _, h => by rw [List.forIn_nil]; exact wpAny_pure h
  | i :: l, Q, h => by
    rw [List.forIn_cons]
    refine wpAny_bind (hf i _ _ ?_)
    exact forRules hf l Q h
theorem drive {P : Sre.M → Prop} {Q : Sre.M → Shared → Prop} : ∀ (n turns : Nat) (m : Sre.M), n < turns → ((m.runFor (4 * n)).outcome.isSome = true) → P (m.runFor (4 * n)) → (∀ m', m'.outcome.isSome = true → P m' → Q m' s) → wpAny (model prog w) A (reDrive turns m) Q E s
  | n, 0, m, h, _, _, _ => absurd h (Nat.not_lt_zero _)
  | 0, turns + 1, m, _, h1, h2, h3 => by
    have h1' : m.outcome.isSome = true := h1
    have e : m.runFor reTurnSteps = m := runFor_out h1' _
    show wpAny _ _ (if (m.runFor reTurnSteps).outcome.isSome = true then pure (m.runFor reTurnSteps) else _) Q E s
    rw [e, if_pos h1']
    exact wpAny_pure (h3 _ h1' h2)
  | n + 1, turns + 1, m, hn, h1, h2, h3 => by
    have e : m.runFor (4 * (n + 1)) = (m.runFor reTurnSteps).runFor (4 * n) := by
      rw [show 4 * (n + 1) = 4 + 4 * n by omega, runFor_add]; rfl
    rw [e] at h1 h2
    show wpAny _ _ (if (m.runFor reTurnSteps).outcome.isSome = true then pure (m.runFor reTurnSteps) else (do rule "sre.turn"; reDrive turns (m.runFor reTurnSteps))) Q E s
    by_cases h : (m.runFor reTurnSteps).outcome.isSome = true
    · rw [if_pos h]
      rw [runFor_out h] at h2
      exact wpAny_pure (h3 _ h h2)
    · rw [if_neg h]
      exact wpAny_bind (wpAny_rule (drive n turns _ (Nat.lt_of_succ_lt_succ hn) h1 h2 h3))
theorem runToEnd {m : Sre.M} {n : Nat} {P : Sre.M → Prop} {Q : Option Sre.M → Shared → Prop} (hm : Ends m n P) (hn : n < 2 ^ 60) (hM : ∀ m', m'.outcome = some .matched → P m' → Q (some m') s) (hF : ∀ m', m'.outcome = some .failed → P m' → Q none s)
    (hS : ∀ m', P m' → m'.outcome = some .matched ∨ m'.outcome = some .failed) : wpAny (model prog w) A (reRunToEnd m) Q E s := by
  obtain ⟨k, hk, h1, h2⟩ := hm
  unfold reRunToEnd
  have e : m.runFor (4 * k) = m.runFor k := by
    rw [show 4 * k = k + 3 * k by omega, runFor_add, runFor_out h1]
  refine wpAny_bind (drive (P := P) k (2 ^ 64) m (by omega) (by rw [e]; exact h1) (by rw [e]; exact h2) fun m' ho hp => ?_)
  refine wpAny_bind (forRules (fun i u Q hQ => ?_) _ _ ?_)
  · split
    · exact wpAny_bind (wpAny_rule (wpAny_pure hQ))
    · exact wpAny_pure hQ
  · rcases hS m' hp with h | h
    · rw [h]; exact wpAny_pure (hM m' h hp)
    · rw [h]; exact wpAny_pure (hF m' h hp)
end

structure Finder (cd : Array Nat) (F : Array Nat → Nat → Option (Nat × Nat)) : Prop where
  ok : ∀ text s, s ≤ text.size → Ends (Sre.forSearch cd text 0 s text.size false) (3 * text.size + 20) (fun m => match F text s with | some q => Matched q.1 q.2 m | none => Failed m)
  pos : ∀ text s q, s ≤ text.size → F text s = some q → s ≤ q.1 ∧ q.1 < q.2 ∧ q.2 ≤ text.size
def subOut (F : Array Nat → Nat → Option (Nat × Nat)) (z : List Nat) (text : Array Nat) : Nat → Nat → List Nat
  | 0, s => text.toList.drop s
  | n + 1, s => match F text s with
    | some q => (text.toList.drop s).take (q.1 - s) ++ z ++ subOut F z text n q.2
    | none => text.toList.drop s
def loopArgs (pat : Addr) (x : Str) (tx : Tok) (z : Str) (tz : Tok) (k : Int) (s : Nat) (pl : Addr) : Args := ⟨[.ref pat, .str x tx, .str z tz, rawInt 0, rawInt 0, rawInt k, rawInt s, rawInt s, .bool false, .ref pl, .bool false], []⟩
section
variable {prog : Program} {w : World} {A : Around} {E : Value → Shared → Prop} {s : Shared} {pat ct : Addr} {cd : Array Nat} {x : Str} {t : Tok} {F : Array Nat → Nat → Option (Nat × Nat)}
theorem nextFound {k : Nat} {Q : Option Sre.M → Shared → Prop} (hF : Finder cd F) (hx : x.length ≤ 1000000) (hk : k ≤ x.cps.size)
    (hQ : match F x.cps k with | some q => ∀ m, m.start = q.1 → m.handed = q.2 → Q (some m) s | none => Q none s) :
    wpAny (model prog w) A (reNextFound (tgt pat x t cd) k false) Q E s := by
  have h := hF.ok x.cps k hk
  have hx' : x.cps.size ≤ 1000000 := hx
  unfold reNextFound
  refine runToEnd h (by omega) (fun m' ho hp => ?_) (fun m' ho hp => ?_) (fun m' hp => ?_)
  · cases hf : F x.cps k with
    | none => rw [hf] at hp; have hp' : m'.outcome = some .failed := hp; rw [hp'] at ho; cases ho
    | some q => rw [hf] at hp hQ; exact hQ m' hp.2.1 hp.2.2
  · cases hf : F x.cps k with
    | none => rw [hf] at hQ; exact hQ
    | some q => rw [hf] at hp; have hp' : m'.outcome = some .matched := hp.1; rw [hp'] at ho; cases ho
  · cases hf : F x.cps k with
    | none => rw [hf] at hp; exact .inr hp
    | some q => rw [hf] at hp; exact .inl hp.1
theorem slice0 {b e : Nat} {Q : Value → Shared → Prop} (hx : x.length ≤ 1000000) (h : Q (.str (ofL ((x.cps.toList.drop b).take (e - b))) s.toks) { s with toks := s.toks + 1 }) : wpAny (model prog w) A (reSlice x.cps 0 b e) Q E s := by
  have hx' : x.cps.size ≤ 1000000 := hx
  have e1 : (⟨x.cps.extract b e⟩ : Str) = ofL ((x.cps.toList.drop b).take (e - b)) := PySem.Str.ext' (Array.toList_inj.mp (by simp [ofL]))
  show wpAny _ _ (mkStr ⟨x.cps.extract b e⟩) _ _ _
  rw [e1]
  refine wpAny_mkStr h ?_
  rw [ofL_length, sizeLine_eq, List.length_take, List.length_drop]
  simp
  omega
theorem pushPiece {pl : Addr} {l : List (Str × Tok)} {ep : Nat} {y : Str} {ty : Tok} {Q : Unit → Shared → Prop} (ho : s.heap.get? pl = some { cls := .type "list", data := .seq (strValues l).toArray ep }) (hl : l.length ≤ 3000000)
    (h : ∀ h', h'.get? pl = some { cls := .type "list", data := .seq (strValues (l ++ [(y, ty)])).toArray (ep + 1) } → Heap.SameBut pl s.heap h' → Q () { s with heap := h' }) :
    wpAny (model prog w) A (updateSeq pl (·.push (.str y ty))) Q E s := by
  have hsz : (strValues l).toArray.size ≤ sizeLine := by rw [sizeLine_eq]; simp [strValues]; omega
  refine wpAny_updateSeq ho rfl (h _ ?_ (Heap.SameBut.update ..)) hsz (by rw [Array.size_push]; omega)
  · rw [Heap.get?_update_self _ ho (by rw [mapSeq_push]; rfl), mapSeq_push]
    have e : (strValues l).toArray.push (.str y ty) = (strValues (l ++ [(y, ty)])).toArray := by simp [strValues]
    rw [e]

theorem extBut_trans {a : Addr} {h h' h'' : Heap} (x : Heap.ExtBut a h h') (y : Heap.SameBut a h' h'') : Heap.ExtBut a h h'' := fun b o hb e => y.extBut b o hb (x b o hb e)

def flatP (ps : List (Str × Tok)) : List Nat := (ps.map fun p => p.1.cps.toList).flatten
theorem flatP_snoc (ps : List (Str × Tok)) (y : Str) (ty : Tok) : flatP (ps ++ [(y, ty)]) = flatP ps ++ y.cps.toList := by simp [flatP]
theorem joinL_nil : ∀ l : List (List Nat), joinL [] l = l.flatten
  | [] => rfl
  | [a] => by simp [joinL]
  | a :: b :: r => by
    show a ++ [] ++ joinL [] (b :: r) = _
    rw [joinL_nil (b :: r)]; simp
theorem join_flat (ps : List (Str × Tok)) : Str.join (ofL []) (ps.map fun q => q.1) = ofL (flatP ps) := by
  refine eq_ofL ?_
  rw [join_list, List.map_map]
  exact joinL_nil _
theorem flat_len (ps : List (Str × Tok)) : ((ps.map fun q => q.1).map fun y => y.length).sum = (flatP ps).length := by
  unfold flatP
  rw [List.length_flatten, List.map_map, List.map_map]
  refine congrArg List.sum (List.map_congr_left fun q _ => ?_)
  exact (len_eq q.1).symm

theorem subLoop {z : Str} {tz : Tok} {pl : Addr} {R : Result → Shared → Prop} (hF : Finder cd F) (hx : x.length ≤ 1000000) (hne1 : pat ≠ pl) (hne2 : ct ≠ pl) : ∀ (n : Nat) (k : Int) (a : Nat) (ps : List (Str × Tok)) (ep : Nat) (s : Shared), x.cps.size - a ≤ n → a ≤ x.cps.size →
    s.heap.get? pl = some { cls := .type "list", data := .seq (strValues ps).toArray ep } → PatAt s.heap pat ct cd → ps.length + 2 * n + 2 ≤ 3000000 → (flatP ps ++ subOut F z.cps.toList x.cps n a).length ≤ 1000000 →
    (∀ h' t' tk', Heap.ExtBut pl s.heap h' → R (.ok (.ret (.str (ofL (flatP ps ++ subOut F z.cps.toList x.cps n a)) t'))) ⟨h', s.gens, s.drawn, tk', s.os⟩) →
    codeAny (model prog w) A (.builtin "re.Pattern.sub.loop" (loopArgs pat x t z tz k a pl)) R s := by
  -- the end of the loop
  have fin : ∀ (a : Nat) (ps : List (Str × Tok)) (ep : Nat) (s : Shared) (A : Around) (R : Fin → Shared → Prop) (E : Value → Shared → Prop), s.heap.get? pl = some { cls := .type "list", data := .seq (strValues ps).toArray ep } → ps.length ≤ 3000000 →
      (flatP ps).length ≤ 1000000 → (∀ t' tk', R (.done (.ret (.str (ofL (flatP ps)) t'))) { s with toks := tk' }) →
      wpAny (model prog w) A (do
        let joiner ← reSlice x.cps 0 0 0
        let text ← if ((← seqItems? (.ref pl)).getD #[]).isEmpty then pure joiner else call (.builtin "str.join") [joiner, .ref pl]
        ret text) R E s := by
    intro a ps ep s A R E ho hl hf hR
    refine wpAny_bind (slice0 hx ?_)
    have e0 : (ofL (List.take (0 - 0) (List.drop 0 x.cps.toList)) : Str) = ofL [] := by simp
    rw [e0]
    refine wpAny_bind (wpAny_seqItems (items := (strValues ps).toArray) ho rfl ?_)
    cases ps with
    | nil => exact wpAny_pure (hR _ _)
    | cons p r =>
      refine wpAny_bind (joinP (l := p :: r) ⟨_, ho, rfl, _, rfl⟩ ?_ fun t' k' => ?_)
      · rw [flat_len]
        have : (ofL ([] : List Nat)).length = 0 := rfl
        rw [this]; omega
      · rw [join_flat]
        exact wpAny_pure (hR t' k')
  -- no more match
  have last : ∀ (a : Nat) (ps : List (Str × Tok)) (ep : Nat) (s : Shared) (A : Around) (R : Fin → Shared → Prop) (E : Value → Shared → Prop), s.heap.get? pl = some { cls := .type "list", data := .seq (strValues ps).toArray ep } → ps.length + 2 ≤ 3000000 →
      (flatP ps ++ x.cps.toList.drop a).length ≤ 1000000 → (∀ h' t' tk', Heap.ExtBut pl s.heap h' → R (.done (.ret (.str (ofL (flatP ps ++ x.cps.toList.drop a)) t'))) ⟨h', s.gens, s.drawn, tk', s.os⟩) →
      wpAny (model prog w) A (if a < x.cps.size then (do
          let v ← reSlice x.cps 0 a x.cps.size
          updateSeq pl (·.push v)
          let joiner ← reSlice x.cps 0 0 0
          let text ← if ((← seqItems? (.ref pl)).getD #[]).isEmpty then pure joiner else call (.builtin "str.join") [joiner, .ref pl]
          ret text) else (do
          let joiner ← reSlice x.cps 0 0 0
          let text ← if ((← seqItems? (.ref pl)).getD #[]).isEmpty then pure joiner else call (.builtin "str.join") [joiner, .ref pl]
          ret text)) R E s := by
    intro a ps ep s A R E ho hl hf hR
    have hsz : x.cps.toList.length = x.cps.size := by simp
    by_cases h : a < x.cps.size
    · rw [if_pos h]
      refine wpAny_bind (slice0 hx ?_)
      refine wpAny_bind (pushPiece ho (by omega) fun h1 ho1 hs1 => ?_)
      have e : flatP (ps ++ [(ofL (List.take (x.cps.size - a) (List.drop a x.cps.toList)), s.toks)]) = flatP ps ++ x.cps.toList.drop a := by
        rw [flatP_snoc, ofL_list, List.take_of_length_le (by rw [List.length_drop]; omega)]
      refine fin a _ (ep + 1) _ _ _ _ ho1 (by rw [List.length_append]; simp; omega) (by rw [e]; rw [List.length_append] at hf ⊢; omega) fun t' tk' => ?_
      rw [e]
      exact hR h1 t' tk' hs1.extBut
    · rw [if_neg h]
      have e : x.cps.toList.drop a = [] := List.drop_eq_nil_of_le (by omega)
      rw [e, List.append_nil] at hf hR
      exact fin a ps ep s _ _ _ ho (by omega) hf fun t' tk' => hR s.heap t' tk' (fun b o _ e => e)
  intro n
  induction n with
  | zero =>
    intro k a ps ep s hn ha ho P hps hfit hR
    refine codeAny_builtin entry_loop ?_
    show wpAny _ _ (reWholeTarget (.ref pat) (.str x t) >>= _) _ _ _
    refine wpAny_bind (wholeTarget P ?_)
    refine wpAny_bind (wpAny_of_eq (a := ()) rfl ?_)
    show wpAny _ _ (reNextFound (tgt pat x t cd) (a : Int).toNat false >>= _) _ _ _
    rw [Int.toNat_natCast]
    refine wpAny_bind (nextFound hF hx ha ?_)
    have hnone : F x.cps a = none := by
      cases h : F x.cps a with
      | none => rfl
      | some q => have := hF.pos _ _ _ ha h; omega
    rw [hnone]
    exact last a ps ep s _ _ _ ho (by omega) hfit fun h' t' tk' hx' => hR h' t' tk' hx'
  | succ n ih =>
    intro k a ps ep s hn ha ho P hps hfit hR
    refine codeAny_builtin entry_loop ?_
    show wpAny _ _ (reWholeTarget (.ref pat) (.str x t) >>= _) _ _ _
    refine wpAny_bind (wholeTarget P ?_)
    refine wpAny_bind (wpAny_of_eq (a := ()) rfl ?_)
    show wpAny _ _ (reNextFound (tgt pat x t cd) (a : Int).toNat false >>= _) _ _ _
    rw [Int.toNat_natCast]
    refine wpAny_bind (nextFound hF hx ha ?_)
    cases hf : F x.cps a with
    | none =>
      have e : subOut F z.cps.toList x.cps (n + 1) a = x.cps.toList.drop a := by unfold subOut; rw [hf]
      rw [e] at hfit hR
      exact last a ps ep s _ _ _ ho (by omega) hfit fun h' t' tk' hx' => hR h' t' tk' hx'
    | some q =>
      obtain ⟨hq1, hq2, hq3⟩ := hF.pos _ _ _ ha hf
      have e : subOut F z.cps.toList x.cps (n + 1) a = (x.cps.toList.drop a).take (q.1 - a) ++ z.cps.toList ++ subOut F z.cps.toList x.cps n q.2 := by
        conv => lhs; unfold subOut
        rw [hf]
      rw [e] at hfit hR
      intro m hm1 hm2
      have hb : (m.handed == m.start) = false := by rw [hm1, hm2]; simp; omega
      -- what stands behind the pieces
      have go : ∀ (ps' : List (Str × Tok)) (ep' : Nat) (s' : Shared) (E' : Value → Shared → Prop), s'.heap.get? pl = some { cls := .type "list", data := .seq (strValues ps').toArray ep' } → PatAt s'.heap pat ct cd → ps'.length ≤ ps.length + 1 →
          flatP ps' = flatP ps ++ (x.cps.toList.drop a).take (q.1 - a) → Heap.ExtBut pl s.heap s'.heap → s'.gens = s.gens → s'.drawn = s.drawn → s'.os = s.os →
          wpAny (model prog w) (A.under (.builtin "re.Pattern.sub.loop" (loopArgs pat x t z tz k a pl))) (do
            updateSeq pl (·.push (.str z tz))
            again (.builtin "re.Pattern.sub.loop" ⟨[.ref pat, .str x t, .str z tz, rawInt 0, rawInt 0, rawInt (k + 1), rawInt m.handed, rawInt m.handed, .bool (m.handed == m.start), .ref pl, .bool false], []⟩))
            (fun fin s' => match fin with | .done f => R (.ok f) s' | .again c' => c'.quiet = true ∧ codeAny (model prog w) A c' R s') E' s' := by
        intro ps' ep' s' E' ho' P' hl' hfl hext hg hd hos
        refine wpAny_bind (pushPiece ho' (by omega) fun h2 ho2 hs2 => ?_)
        refine wpAny_pure ⟨plainId_quiet loop_plain _, ?_⟩
        have e2 : flatP (ps' ++ [(z, tz)]) ++ subOut F z.cps.toList x.cps n q.2 = flatP ps ++ ((x.cps.toList.drop a).take (q.1 - a) ++ z.cps.toList ++ subOut F z.cps.toList x.cps n q.2) := by
          rw [flatP_snoc, hfl]; simp only [List.append_assoc]
        rw [hb, hm2]
        refine ih (k + 1) q.2 (ps' ++ [(z, tz)]) (ep' + 1) _ (by omega) hq3 ho2 ⟨?_, ?_⟩ (by rw [List.length_append]; simp; omega) (by rw [e2]; exact hfit) fun h' t' tk' hx' => ?_
        · obtain ⟨p, fl, e⟩ := P'.o; exact ⟨p, fl, hs2.extBut _ _ hne1 e⟩
        · obtain ⟨i, n, e, r⟩ := P'.c; exact ⟨i, n, hs2.extBut _ _ hne2 e, r⟩
        · rw [e2]
          have h9 := hR h' t' tk' (fun b o hb e => hx' b o hb (hs2.extBut b o hb (hext b o hb e)))
          rw [← hg, ← hd, ← hos] at h9
          exact h9
      show wpAny _ _ (if a < m.start then (do
          let v ← reSlice x.cps 0 a m.start
          updateSeq pl (·.push v)
          updateSeq pl (·.push (.str z tz))
          again (.builtin "re.Pattern.sub.loop" ⟨[.ref pat, .str x t, .str z tz, rawInt 0, rawInt 0, rawInt (k + 1), rawInt m.handed, rawInt m.handed, .bool (m.handed == m.start), .ref pl, .bool false], []⟩)) else (do
          updateSeq pl (·.push (.str z tz))
          again (.builtin "re.Pattern.sub.loop" ⟨[.ref pat, .str x t, .str z tz, rawInt 0, rawInt 0, rawInt (k + 1), rawInt m.handed, rawInt m.handed, .bool (m.handed == m.start), .ref pl, .bool false], []⟩))) _ _ _
      by_cases h : a < m.start
      · rw [if_pos h]
        refine wpAny_bind (slice0 hx ?_)
        refine wpAny_bind (pushPiece ho (by omega) fun h1 ho1 hs1 => ?_)
        refine go _ _ _ _ ho1 ⟨?_, ?_⟩ (by rw [List.length_append]; simp) (by rw [flatP_snoc, ofL_list, hm1]) hs1.extBut rfl rfl rfl
        · obtain ⟨p, fl, e⟩ := P.o; exact ⟨p, fl, hs1.extBut _ _ hne1 e⟩
        · obtain ⟨i, n, e, r⟩ := P.c; exact ⟨i, n, hs1.extBut _ _ hne2 e, r⟩
      · rw [if_neg h]
        refine go ps ep s _ ho P (by omega) ?_ (fun b o _ e => e) rfl rfl rfl
        rw [show q.1 - a = 0 by omega, List.take_zero, List.append_nil]
end
end Mine
end
section
open PySem PySem.W PyProof.Rows
set_option Elab.async false
set_option maxRecDepth 100000
namespace Mine
open PySem.Builtin.Re
section
variable {prog : Program} {w : World} {A : Around} {E : Value → Shared → Prop} {s : Shared} {pat ct : Addr} {cd : Array Nat} {x z : Str} {t tz : Tok} {F : Array Nat → Nat → Option (Nat × Nat)} {Q : Value → Shared → Prop}
theorem named_sub (a b : Value) : reNamed "re.Pattern.sub" "sub" ["repl", "string", "count"] 2 [a, b] [] = pure [some a, some b, none] := by rfl
theorem subCall (hF : Finder cd F) (hx : x.length ≤ 1000000) (P : PatAt s.heap pat ct cd) (hz : z.cps.contains 92 = false) (hfit : (subOut F z.cps.toList x.cps x.cps.size 0).length ≤ 1000000)
    (h : ∀ h' t' tk', (∀ b o, s.heap.get? b = some o → h'.get? b = some o) → Q (.str (ofL (subOut F z.cps.toList x.cps x.cps.size 0)) t') ⟨h', s.gens, s.drawn, tk', s.os⟩) :
    wpAny (model prog w) A (call (.builtin "re.Pattern.sub") [.ref pat, .str z tz, .str x t]) Q E s := by
  have hT : s.TypeIs (.ref pat) "re.Pattern" := by obtain ⟨p, fl, e⟩ := P.o; exact ⟨_, e, rfl⟩
  refine wpAny_call (codeAny_call_builtin slot_sub.plain entry_sub (slot_sub.check _ _ _ _ _ _ _ _ hT (args_sub _ _ _) ?_))
  unfold Builtin.«re.Pattern.sub» reSubstitute
  show wpAny _ _ (reNamed "re.Pattern.sub" "sub" ["repl", "string", "count"] 2 [.str z tz, .str x t] [] >>= _) _ _ _
  rw [named_sub]
  refine wpAny_bind (wpAny_pure ?_)
  refine wpAny_bind (wpAny_pure ?_)
  refine wpAny_bind (wpAny_specialOf (typeIs_str _ _ _) str_nocall ?_)
  show wpAny _ _ (asStr? (.str z tz) >>= _) _ _ _
  refine wpAny_bind (wpAny_of_eq (a := some z) rfl ?_)
  show wpAny _ _ (if (!z.cps.contains 92) = true then _ else _) _ _ _
  rw [hz, if_pos (show (!false) = true from rfl)]
  show wpAny _ _ (holding [.str z tz] (reWholeTarget (.ref pat) (.str x t)) >>= _) _ _ _
  refine wpAny_bind (wpAny_holding (wholeTarget P ?_))
  show wpAny _ _ (newList [] >>= _) _ _ _
  refine wpAny_bind (wpAny_newObj_type ?_ (Nat.zero_le _))
  refine wpAny_pure ⟨plainId_quiet loop_plain _, ?_⟩
  have up : ∀ b o, s.heap.get? b = some o → (s.heap.push { cls := .type "list", data := .seq ([] : List Value).toArray }).get? b = some o := fun b o e => Heap.get?_push_of_some _ e
  have lt : ∀ b o, s.heap.get? b = some o → b ≠ s.heap.objs.size := fun b o e => Nat.ne_of_lt (Heap.lt_size e)
  have P1 : PatAt (s.heap.push { cls := .type "list", data := .seq ([] : List Value).toArray }) pat ct cd := P.keeps up
  have hne1 : pat ≠ s.heap.objs.size := by obtain ⟨p, fl, e⟩ := P.o; exact lt _ _ e
  have hne2 : ct ≠ s.heap.objs.size := by obtain ⟨i, n, e, _⟩ := P.c; exact lt _ _ e
  have hx' : x.cps.size ≤ 1000000 := hx
  refine subLoop (pl := s.heap.objs.size) hF hx hne1 hne2 x.cps.size 0 0 [] 0 _ (by omega) (Nat.zero_le _) (Heap.get?_push_size _ rfl) P1 (by simp; omega) hfit fun h' t' tk' hext => ?_
  exact h h' t' tk' fun b o e => hext b o (lt b o e) (up b o e)
end
end Mine
end
section
open PySem PySem.W PyProof.Rows
set_option Elab.async false
set_option maxRecDepth 100000
namespace Mine
def firstAt (p : Nat → Bool) (s e : Nat) : Option Nat := (List.range' s (e - s)).find? p
theorem firstAt_some {p : Nat → Bool} {s e b : Nat} (h1 : s ≤ b) (h2 : b < e) (h3 : p b = true) (h4 : ∀ j, s ≤ j → j < b → p j = false) : firstAt p s e = some b := by
  unfold firstAt
  rw [List.find?_range'_eq_some]
  exact ⟨h3, by rw [List.mem_range'_1]; omega, fun j a b => by rw [h4 j a b]; rfl⟩
theorem firstAt_none {p : Nat → Bool} {s e : Nat} (h : ∀ j, s ≤ j → j < e → p j = false) : firstAt p s e = none := by
  unfold firstAt
  rw [List.find?_range'_eq_none]
  exact fun j a b => by rw [h j a (by omega)]; rfl
theorem of_firstAt {p : Nat → Bool} {s e b : Nat} (h : firstAt p s e = some b) : s ≤ b ∧ b < e ∧ p b = true ∧ ∀ j, s ≤ j → j < b → p j = false := by
  unfold firstAt at h
  rw [List.find?_range'_eq_some] at h
  obtain ⟨h1, h2, h3⟩ := h
  rw [List.mem_range'_1] at h2
  exact ⟨h2.1, by omega, h1, fun j a b => by have := h3 j a b; simpa using this⟩
theorem of_firstAt_none {p : Nat → Bool} {s e : Nat} (h : firstAt p s e = none) : ∀ j, s ≤ j → j < e → p j = false := by
  unfold firstAt at h
  rw [List.find?_range'_eq_none] at h
  exact fun j a b => by have := h j a (by omega); simpa using this
def FR1 (text : Array Nat) (s : Nat) : Option (Nat × Nat) := (firstAt (R1.hit text) s text.size).map fun b => (b, b + 1)
def FR2 (text : Array Nat) (s : Nat) : Option (Nat × Nat) := (firstAt (R2.nl text) s text.size).map fun b => (b, R2.stop text text.size b)
theorem finder1 : Finder R1.code FR1 where
  ok := fun text s _ => by
    obtain ⟨k, hk, h1, h2⟩ := R1.search text text.size s
    refine ⟨k, by omega, h1, ?_⟩
    rcases h2 with ⟨b, g1, g2, g3, g4, g5⟩ | ⟨g1, g2⟩
    · unfold FR1; rw [firstAt_some g1 g2 g3 g4]; exact g5
    · unfold FR1; rw [firstAt_none g1]; exact g2
  pos := fun text s q _ h => by
    unfold FR1 at h
    obtain ⟨b, hb, rfl⟩ := Option.map_eq_some_iff.mp h
    obtain ⟨h1, h2, _⟩ := of_firstAt hb
    exact ⟨h1, Nat.lt_succ_self _, h2⟩
theorem stop_pos (text : Array Nat) {lim b : Nat} (h : b < lim) : b < R2.stop text lim b ∧ R2.stop text lim b ≤ lim := by
  unfold R2.stop
  split <;> omega
theorem finder2 : Finder R2.code FR2 where
  ok := fun text s _ => by
    obtain ⟨k, hk, h1, h2⟩ := R2.search text text.size s
    refine ⟨k, by omega, h1, ?_⟩
    rcases h2 with ⟨b, g1, g2, g3, g4, g5⟩ | ⟨g1, g2⟩
    · unfold FR2; rw [firstAt_some g1 g2 g3 g4]; exact g5
    · unfold FR2; rw [firstAt_none g1]; exact g2
  pos := fun text s q _ h => by
    unfold FR2 at h
    obtain ⟨b, hb, rfl⟩ := Option.map_eq_some_iff.mp h
    obtain ⟨h1, h2, _⟩ := of_firstAt hb
    exact ⟨h1, (stop_pos text h2).1, (stop_pos text h2).2⟩

/-! what they make of a text -/
def crlf : List Nat → List Nat
  | [] => []
  | c :: r =>
    if c = 13 then 13 :: 10 :: (match r with
      | [] => []
      | d :: r' => if d = 10 then crlf r' else crlf (d :: r'))
    else if c = 10 then 13 :: 10 :: crlf r else c :: crlf r
theorem crlf_nil : crlf [] = [] := by unfold crlf; rfl
theorem crlf_rf (r : List Nat) : crlf (13 :: 10 :: r) = 13 :: 10 :: crlf r := by rw [crlf.eq_def]; simp
theorem crlf_r {d : Nat} (r : List Nat) (h : d ≠ 10) : crlf (13 :: d :: r) = 13 :: 10 :: crlf (d :: r) := by rw [crlf.eq_def]; simp [h]
theorem crlf_r1 : crlf [13] = [13, 10] := by rw [crlf.eq_def]; simp
theorem crlf_f (r : List Nat) : crlf (10 :: r) = 13 :: 10 :: crlf r := by rw [crlf.eq_def]; simp
theorem crlf_c {c : Nat} (r : List Nat) (h1 : c ≠ 13) (h2 : c ≠ 10) : crlf (c :: r) = c :: crlf r := by rw [crlf.eq_def]; simp [h1, h2]
def dots : Bool → List Nat → List Nat
  | _, [] => []
  | b, c :: r => if b = true ∧ c = 46 then 46 :: 46 :: dots false r else c :: dots (c == 10) r
theorem dots_hit (r : List Nat) : dots true (46 :: r) = 46 :: 46 :: dots false r := by rw [dots]; simp
theorem dots_c {b : Bool} {c : Nat} (r : List Nat) (h : ¬ (b = true ∧ c = 46)) : dots b (c :: r) = c :: dots (c == 10) r := by rw [dots]; simp [h]
theorem dots_crlf (l : List Nat) : ∀ b, dots b (crlf l) = sendG b l := by
  refine send_cases (P := fun l => ∀ b, dots b (crlf l) = sendG b l) ?_ ?_ ?_ ?_ ?_ ?_ l
  · intro b; rw [crlf_nil, sendG_nil]; rfl
  · intro r ih b; rw [crlf_rf, sendG_rf, dots_c _ (by simp), dots_c _ (by simp)]; exact congrArg _ (congrArg _ (ih true))
  · intro b; rw [crlf_r1, sendG_r1, dots_c _ (by simp), dots_c _ (by simp)]; rfl
  · intro d r hd ih b; rw [crlf_r r hd, sendG_r b r hd, dots_c _ (by simp), dots_c _ (by simp)]; exact congrArg _ (congrArg _ (ih true))
  · intro r ih b; rw [crlf_f, sendG_f, dots_c _ (by simp), dots_c _ (by simp)]; exact congrArg _ (congrArg _ (ih true))
  · intro c r h1 h2 ih b
    rw [crlf_c r h1 h2]
    by_cases h3 : b = true ∧ c = 46
    · obtain ⟨rfl, rfl⟩ := h3
      rw [dots_hit, sendG_dot, ih false]
    · have e : (c == 10) = false := by simpa using h2
      rw [dots_c _ h3, sendG_c b r h1 h2 h3, e, ih false]
theorem crlf_pre : ∀ (p r : List Nat), (∀ c ∈ p, c ≠ 13 ∧ c ≠ 10) → crlf (p ++ r) = p ++ crlf r
  | [], _, _ => rfl
  | c :: p, r, h => by
    have hc := h c List.mem_cons_self
    rw [List.cons_append, crlf_c _ hc.1 hc.2, crlf_pre p r fun d hd => h d (List.mem_cons_of_mem _ hd)]; rfl
theorem getD_list (text : Array Nat) (k : Nat) : text.getD k 0 = text.toList.getD k 0 := by simp [Array.getD_eq_getD_getElem?, List.getD]
theorem drop_cons (text : Array Nat) {k : Nat} (h : k < text.size) : text.toList.drop k = text.getD k 0 :: text.toList.drop (k + 1) := by
  rw [getD_list, List.drop_eq_getElem_cons (by simpa using h)]
  simp [List.getD, h]
theorem take_drop_cat (l : List Nat) {a b : Nat} (h : a ≤ b) : (l.drop a).take (b - a) ++ l.drop b = l.drop a := by
  have e : l.drop b = (l.drop a).drop (b - a) := by rw [List.drop_drop]; congr 1; omega
  rw [e, List.take_append_drop]
theorem mem_take_drop {text : Array Nat} {a b c : Nat} (h : c ∈ (text.toList.drop a).take (b - a)) (hb : b ≤ text.size) : ∃ j, a ≤ j ∧ j < b ∧ text.getD j 0 = c := by
  obtain ⟨i, hi, e⟩ := List.mem_iff_getElem.mp h
  rw [List.length_take, List.length_drop] at hi
  refine ⟨a + i, by omega, by omega, ?_⟩
  rw [List.getElem_take, List.getElem_drop] at e
  rw [getD_list, ← e]
  have : a + i < text.toList.length := by simp at hi ⊢; omega
  rw [List.getD_eq_getElem?_getD, List.getElem?_eq_getElem this]; rfl
theorem sub2 (text : Array Nat) : ∀ (n s : Nat), text.size - s ≤ n → s ≤ text.size → subOut FR2 [13, 10] text n s = crlf (text.toList.drop s) := by
  intro n
  induction n with
  | zero =>
    intro s h1 h2
    have e : text.toList.drop s = [] := List.drop_eq_nil_of_le (by simp; omega)
    unfold subOut
    rw [e, crlf_nil]
  | succ n ih =>
    intro s h1 h2
    unfold subOut
    cases hf : FR2 text s with
    | none =>
      unfold FR2 at hf
      have hn := of_firstAt_none (Option.map_eq_none_iff.mp hf)
      have := crlf_pre (text.toList.drop s) [] fun c hc => by
        rw [← List.take_of_length_le (l := text.toList.drop s) (i := text.size - s) (by simp)] at hc
        obtain ⟨j, g1, g2, rfl⟩ := mem_take_drop hc (Nat.le_refl _)
        have := hn j g1 g2
        unfold R2.nl at this
        rw [Bool.or_eq_false_iff] at this
        exact ⟨by simpa using this.2, by simpa using this.1⟩
      rw [List.append_nil, crlf_nil, List.append_nil] at this
      exact this.symm
    | some q =>
      unfold FR2 at hf
      obtain ⟨b, hb, rfl⟩ := Option.map_eq_some_iff.mp hf
      obtain ⟨g1, g2, g3, g4⟩ := of_firstAt hb
      have hst := stop_pos text g2
      dsimp only
      rw [ih _ (by omega) hst.2, ← take_drop_cat text.toList g1, crlf_pre]
      · rw [List.take_append_of_le_length (by rw [List.length_take, List.length_drop]; simp; omega), List.take_of_length_le (by rw [List.length_take]; omega), List.append_assoc]
        congr 1
        have hc : text.getD b 0 = 10 ∨ text.getD b 0 = 13 := by unfold R2.nl at g3; simpa using g3
        rw [drop_cons text g2]
        unfold R2.stop
        by_cases h13 : text.getD b 0 = 13
        · rw [h13]
          by_cases hn : b + 1 < text.size
          · rw [drop_cons text hn]
            by_cases h10 : text.getD (b + 1) 0 = 10
            · rw [if_pos ⟨rfl, hn, h10⟩, h10, crlf_rf]; rfl
            · rw [if_neg (fun q => h10 q.2.2), crlf_r _ h10, ← drop_cons text hn]; rfl
          · have e : text.toList.drop (b + 1) = [] := List.drop_eq_nil_of_le (by simp; omega)
            rw [if_neg (fun q => hn q.2.1), e, crlf_r1, crlf_nil]; rfl
        · have h10 := hc.resolve_right h13
          rw [if_neg (fun q => h13 q.1), h10, crlf_f]; rfl
      · intro c hc
        obtain ⟨j, k1, k2, rfl⟩ := mem_take_drop hc (by omega)
        have := g4 j k1 k2
        unfold R2.nl at this
        rw [Bool.or_eq_false_iff] at this
        exact ⟨by simpa using this.2, by simpa using this.1⟩
theorem row_next (text : Array Nat) (s : Nat) : R1.rowAt text (s + 1) = (text.getD s 0 == 10) := by
  unfold R1.rowAt
  simp
theorem dots_pre (text : Array Nat) : ∀ (n s b : Nat), b = s + n → b ≤ text.size → (∀ j, s ≤ j → j < b → R1.hit text j = false) → dots (R1.rowAt text s) (text.toList.drop s) = (text.toList.drop s).take n ++ dots (R1.rowAt text b) (text.toList.drop b)
  | 0, s, b, h, _, _ => by subst h; rfl
  | n + 1, s, b, h, hb, hn => by
    have hs := hn s (Nat.le_refl _) (by omega)
    rw [drop_cons text (show s < text.size by omega), dots_c, ← row_next, dots_pre text n (s + 1) b (by omega) hb fun j a c => hn j (by omega) c, List.take_succ_cons]
    · rfl
    · rintro ⟨a, c⟩
      unfold R1.hit at hs
      rw [a, c] at hs
      exact absurd hs (by decide)
theorem sub1 (text : Array Nat) : ∀ (n s : Nat), text.size - s ≤ n → s ≤ text.size → subOut FR1 [46, 46] text n s = dots (R1.rowAt text s) (text.toList.drop s) := by
  intro n
  induction n with
  | zero =>
    intro s h1 h2
    have e : text.toList.drop s = [] := List.drop_eq_nil_of_le (by simp; omega)
    unfold subOut
    rw [e]; rfl
  | succ n ih =>
    intro s h1 h2
    unfold subOut
    cases hf : FR1 text s with
    | none =>
      unfold FR1 at hf
      have hn := of_firstAt_none (Option.map_eq_none_iff.mp hf)
      have := dots_pre text (text.size - s) s text.size (by omega) (Nat.le_refl _) hn
      have e : text.toList.drop text.size = [] := List.drop_eq_nil_of_le (by simp)
      rw [e, List.take_of_length_le (by simp)] at this
      rw [this]
      show _ = _ ++ []
      rw [List.append_nil]
    | some q =>
      unfold FR1 at hf
      obtain ⟨b, hb, rfl⟩ := Option.map_eq_some_iff.mp hf
      obtain ⟨g1, g2, g3, g4⟩ := of_firstAt hb
      dsimp only
      rw [dots_pre text (b - s) s b (by omega) (by omega) g4, ih (b + 1) (by omega) (by omega), List.append_assoc]
      congr 1
      unfold R1.hit at g3
      rw [Bool.and_eq_true] at g3
      have hc : text.getD b 0 = 46 := by simpa using g3.2
      rw [g3.1, drop_cons text g2, hc, dots_hit, row_next, hc]; rfl
theorem quote_send (x : List Nat) : subOut FR1 [46, 46] (crlf x).toArray (crlf x).length 0 = sendL x := by
  have h := sub1 (crlf x).toArray (crlf x).length 0 (by simp) (Nat.zero_le _)
  rw [h]
  show dots true (crlf x) = _
  exact dots_crlf x true
theorem crlf_len (l : List Nat) : (crlf l).length ≤ 2 * l.length := by
  refine send_cases (P := fun l => (crlf l).length ≤ 2 * l.length) ?_ ?_ ?_ ?_ ?_ ?_ l
  · rw [crlf_nil]; exact Nat.zero_le _
  · intro r ih; rw [crlf_rf]; simp only [List.length_cons]; omega
  · rw [crlf_r1]; simp
  · intro d r hd ih; rw [crlf_r r hd]; simp only [List.length_cons] at ih ⊢; omega
  · intro r ih; rw [crlf_f]; simp only [List.length_cons]; omega
  · intro c r h1 h2 ih; rw [crlf_c r h1 h2]; simp only [List.length_cons]; omega
end Mine
end
section
open PySem PySem.W PyProof.Rows PySem.Calls
set_option Elab.async false
set_option maxRecDepth 100000
namespace Mine
theorem slot_ci_next : Slot "callable_iterator" "__next__" "callable_iterator.__next__" :=
  .of (owner := "callable_iterator") (n := "__next__") (by rw [typeLookup_type, builtinLookup_eq_fast]; kernel_rfl) (by decide +kernel) (by decide +kernel) (by decide +kernel)
    (by first | exact .inl (by decide +kernel) | exact .inr (by decide +kernel)) (by rw [isSubtype_type]; kernel_rfl)
theorem entry_ci_next : entryFor table "callable_iterator.__next__" = some Builtin.«callable_iterator.__next__» := entryFor_of_tree (by kernel_rfl)
theorem args_ci_next (a : Value) : argsOk "callable_iterator.__next__" ⟨[a], []⟩ := by unfold argsOk; kernel_rfl
theorem slot_ci_iter : Slot "callable_iterator" "__iter__" "callable_iterator.__iter__" :=
  .of (owner := "callable_iterator") (n := "__iter__") (by rw [typeLookup_type, builtinLookup_eq_fast]; kernel_rfl) (by decide +kernel) (by decide +kernel) (by decide +kernel)
    (by first | exact .inl (by decide +kernel) | exact .inr (by decide +kernel)) (by rw [isSubtype_type]; kernel_rfl)
theorem args_ci_iter (a : Value) : argsOk "callable_iterator.__iter__" ⟨[a], []⟩ := by unfold argsOk; kernel_rfl
theorem entry_ci_iter : entryFor table "callable_iterator.__iter__" = some Builtin.«dict_keyiterator.__iter__» :=
  entryFor_alias (id' := "dict_keyiterator.__iter__") (by kernel_rfl) rfl (by decide +kernel) (by kernel_rfl)
theorem method_call_lookup : typeLookup (.type "method") "__call__" = pure (some (.builtin "method.__call__")) := by rw [typeLookup_type, builtinLookup_eq_fast]; kernel_rfl
theorem args_iter2 (a b : Value) : argsOk "iter" ⟨[a, b], []⟩ := by unfold argsOk; kernel_rfl
theorem entry_iter : entryFor table "iter" = some Builtin.«iter» := entryFor_of_tree (by kernel_rfl)
abbrev ciObj (q : Addr) (t : Tok) : Obj := { cls := .type "callable_iterator", data := .fields #[.ref q, .str (Str.ofString "") t, .bool false] }
abbrev ciEnd : Obj := { cls := .type "callable_iterator", data := .fields #[.none, .none, .bool true] }
section
variable {prog : Program} {w : World} {A : Around} {E : Value → Shared → Prop} {s : Shared} {Q : Value → Shared → Prop} {q : Addr} {f self : Value}
theorem iter_ci {t : Tok} (hq : s.heap.get? q = some (methodObj f self))
    (h : Q (.ref s.heap.objs.size) { s with heap := s.heap.push (ciObj q t) }) :
    wpAny (model prog w) A (call (.builtin "iter") [.ref q, .str (Str.ofString "") t]) Q E s := by
  refine call_function_entry (by decide +kernel) (by decide +kernel) entry_iter (args_iter2 _ _) ?_
  unfold Builtin.«iter»
  refine wpAny_bind (m := someArgs "iter" 1 2 _) (wpAny_of_eq (a := [Value.ref q, .str (Str.ofString "") t]) (by first | rfl | kernel_rfl!) ?_)
  dsimp only
  refine wpAny_bind (wpAny_specialOf (name := Str.ofString "__call__") ⟨_, hq, rfl⟩ method_call_lookup ?_)
  refine wpAny_ite_split (fun hab => absurd hab (by decide)) (fun _ => ?_)
  refine wpAny_bind (wpAny_rule ?_)
  refine wpAny_bind (wpAny_newObj_type ?_ (by size_fits))
  exact wpAny_pure ⟨_, rfl, h⟩
theorem callBorrowedP {M : Model} {pos : List Value} {f : Value} (h : codeAny M A (.call f ⟨pos, []⟩) (fun r s' => match r with | .ok (.ret v) => Q v s' | .ok _ => False | .error e => E e s') s) : wpAny M A (callBorrowed f pos) Q E s := fun Γ p hΓ => by
  unfold callBorrowed
  rw [Sem.wp_call]
  refine wpCode_mono ?_ (h _ p rfl (hΓ.enter (.call f ⟨pos, []⟩) none p (by intro x; cases x)))
  intro r s' hr
  match r, hr with
  | .ok (.ret v), hr => exact hr
  | .ok .next, hr => exact hr.elim
  | .ok .brk, hr => exact hr.elim
  | .ok .cont, hr => exact hr.elim
  | .error e, hr => exact hr
theorem borrowsP {M : Model} {fa : Addr} {o : Obj} {fd : FuncData} {Q : Bool → Shared → Prop} (hq : s.heap.get? q = some (methodObj (.ref fa) self)) (ho : s.heap.get? fa = some o) (hd : o.data = .func fd) (h : Q true s) : wpAny M A (borrowsExactly (.ref q)) Q E s := by
  unfold borrowsExactly
  refine wpAny_bind (wpAny_load hq ?_)
  show wpAny M A (load fa >>= _) Q E s
  refine wpAny_bind (wpAny_load ho ?_)
  rw [hd]
  exact wpAny_pure h
theorem pyIter_ci {it : Addr} {t : Tok} (hit : s.heap.get? it = some (ciObj q t)) (h : Q (.ref it) s) : wpAny (model prog w) A (pyIter (.ref it)) Q E s := by
  refine wpAny_pyIter_slot (T := "callable_iterator") ⟨_, hit, rfl⟩ slot_ci_iter (wpAny_call_entry slot_ci_iter ⟨_, hit, rfl⟩ entry_ci_iter ?_ (args_ci_iter _))
  exact wpAny_pure ⟨_, rfl, "callable_iterator", _, ⟨_, hit, rfl⟩, slot_ci_next.lookup, h⟩
def CiRes (it : Addr) (q : Addr) (t : Tok) (fa : Addr) (self : Value) (Q : Option Value → Shared → Prop) (r : Value) (s' : Shared) : Prop :=
  ∃ x tx, r = .str x tx ∧ s'.heap.get? it = some (ciObj q t) ∧ s'.heap.get? q = some (methodObj (.ref fa) self) ∧ (∃ o fd, s'.heap.get? fa = some o ∧ o.data = .func fd) ∧
    ((x == Str.ofString "") = false → Q (some (.str x tx)) s') ∧ ((x == Str.ofString "") = true → ∀ h', Heap.ExtBut it s'.heap h' → h'.get? it = some ciEnd → Q none { s' with heap := h' })
theorem next_ci {it fa : Addr} {t : Tok} {o : Obj} {fd : FuncData} {Q : Option Value → Shared → Prop} (hh : A.handled = none) (hit : s.heap.get? it = some (ciObj q t)) (hq : s.heap.get? q = some (methodObj (.ref fa) self)) (ho : s.heap.get? fa = some o) (hd : o.data = .func fd)
    (hcall : codeAny (model prog w) A.in1 (.call (.ref q) ⟨[], []⟩) (fun r s' => match r with | .ok (.ret v) => CiRes it q t fa self Q v s' | .ok _ => False | .error _ => False) s) :
    wpAny (model prog w) A (pyNext (.ref it)) Q E s := by
  unfold pyNext
  refine wpAny_bind (wpAny_attempt (wpAny_callSpecial?_slot (T := "callable_iterator") (name := Str.ofString "__next__") ⟨_, hit, rfl⟩ slot_ci_next
    (wpAny_call_entry slot_ci_next ⟨_, hit, rfl⟩ entry_ci_next ?_ (args_ci_next _))))
  show wpAny _ _ (field (.ref it) 2 >>= _) _ _ s
  refine wpAny_bind (wpAny_field hit rfl (x := .bool false) rfl ?_)
  rw [if_neg (show ¬ ((Value.bool false == Value.bool true) = true) by decide)]
  refine wpAny_bind (wpAny_field hit rfl (x := .ref q) rfl ?_)
  refine wpAny_bind (wpAny_attempt ?_)
  unfold callOutOfASlot
  refine wpAny_bind (borrowsP hq ho hd ?_)
  rw [if_pos rfl]
  refine callBorrowedP (codeAny_mono hcall fun r s' hr => ?_)
  match r, hr with
  | .ok .next, hr => exact hr.elim
  | .ok .brk, hr => exact hr.elim
  | .ok .cont, hr => exact hr.elim
  | .error e, hr => exact hr.elim
  | .ok (.ret v), hr =>
    obtain ⟨x, tx, rfl, hit', hq', ⟨o', fd', ho', hd'⟩, k1, k2⟩ := hr
    dsimp only
    refine wpAny_bind (wpAny_field hit' rfl (x := .bool false) rfl ?_)
    rw [if_neg (show ¬ ((Value.bool false == Value.bool true) = true) by decide)]
    refine wpAny_bind (wpAny_field hit' rfl (x := .str (Str.ofString "") t) rfl ?_)
    refine wpAny_bind (wpAny_holding (wpAny_eqBool_str ?_))
    by_cases e : Str.ofString "" = x
    · rw [decide_eq_true e, if_neg (show ¬ ((!true) = true) by decide)]
      have e2 : (x == Str.ofString "") = true := beq_iff_eq.mpr e.symm
      refine wpAny_bind (wpAny_rule ?_)
      show wpAny _ _ ((field (.ref it) 0 >>= _) >>= _) _ _ _
      refine wpAny_bind (wpAny_bind (wpAny_field hit' rfl (x := .ref q) rfl ?_))
      show wpAny _ _ (slotLetsGo _ (.ref q) _ >>= _) _ _ _
      refine wpAny_bind ?_
      unfold slotLetsGo
      refine wpAny_bind (borrowsP hq' ho' hd' ?_)
      rw [if_pos rfl]
      refine wpAny_pure ?_
      refine wpAny_bind (wpAny_setField hit' rfl (by simp) ?_)
      have g1 := Heap.get?_update_self (Obj.mapFields (·.setIfInBounds 0 .none)) hit' (Obj.isFreed_of_fields (Obj.data_mapFields rfl _))
      have d1 := Obj.data_mapFields (o := ciObj q t) rfl (·.setIfInBounds 0 .none)
      refine wpAny_bind (wpAny_setField g1 d1 (by simp) ?_)
      have g2 := Heap.get?_update_self (Obj.mapFields (·.setIfInBounds 1 .none)) g1 (Obj.isFreed_of_fields (Obj.data_mapFields d1 _))
      have d2 := Obj.data_mapFields d1 (·.setIfInBounds 1 .none)
      refine (wpAny_setField g2 d2 (by simp) ?_)
      have g3 := Heap.get?_update_self (Obj.mapFields (·.setIfInBounds 2 (.bool true))) g2 (Obj.isFreed_of_fields (Obj.data_mapFields d2 _))
      show wpAny _ _ (newExc (.type "StopIteration") [] >>= _) _ _ _
      refine wpAny_bind ?_
      simp only [newExc, newTuple]
      refine wpAny_bind (wpAny_newObj_type ?_ (by size_fits))
      refine wpAny_bind (m := firstArgMember _ _) (wpAny_of_eq (a := Value.none) (by first | rfl | (simp only [firstArgMember]; rfl)) ?_)
      refine wpAny_newObj_type ?_ (by size_fits)
      simp only [raiseNew]
      refine wpAny_bind (wpAny_handled ?_)
      rw [show A.in1.handled = none from hh]
      refine wpAny_bind (wpAny_pure (wpAny_throw ?_))
      refine wpAny_bind (wpAny_isInstance (T := "StopIteration") (b := true) ⟨_, Heap.get?_push_size _ rfl, rfl⟩ isSubtype_stop ?_)
      exact wpAny_pure (k2 e2 _ ((((((Heap.SameBut.update ..).extBut.trans (Heap.SameBut.update ..).extBut)).trans (Heap.SameBut.update ..).extBut).push _).push _) (Heap.get?_push_of_some _ (Heap.get?_push_of_some _ g3)))
    · rw [decide_eq_false e, if_pos (show (!false) = true from rfl)]
      have e2 : (x == Str.ofString "") = false := Bool.eq_false_iff.mpr fun q => e (beq_iff_eq.mp q).symm
      exact wpAny_bind (wpAny_pure (wpAny_pure ⟨_, rfl, wpAny_pure (k1 e2)⟩))
theorem next_ci_end {it : Addr} {Q : Option Value → Shared → Prop} (hh : A.handled = none) (hit : s.heap.get? it = some ciEnd)
    (k2 : ∀ h', Heap.ExtBut it s.heap h' → h'.get? it = some ciEnd → Q none { s with heap := h' }) :
    wpAny (model prog w) A (pyNext (.ref it)) Q E s := by
  unfold pyNext
  refine wpAny_bind (wpAny_attempt (wpAny_callSpecial?_slot (T := "callable_iterator") (name := Str.ofString "__next__") ⟨_, hit, rfl⟩ slot_ci_next
    (wpAny_call_entry slot_ci_next ⟨_, hit, rfl⟩ entry_ci_next ?_ (args_ci_next _))))
  show wpAny _ _ (field (.ref it) 2 >>= _) _ _ s
  refine wpAny_bind (wpAny_field hit rfl (x := .bool true) rfl ?_)
  rw [if_pos (show ((Value.bool true == Value.bool true) = true) by decide)]
  refine wpAny_bind (wpAny_rule ?_)
  refine wpAny_bind ?_
  show wpAny _ _ (newExc (.type "StopIteration") [] >>= _) _ _ _
  refine wpAny_bind ?_
  simp only [newExc, newTuple]
  refine wpAny_bind (wpAny_newObj_type ?_ (by size_fits))
  refine wpAny_bind (m := firstArgMember _ _) (wpAny_of_eq (a := Value.none) (by first | rfl | (simp only [firstArgMember]; rfl)) ?_)
  refine wpAny_newObj_type ?_ (by size_fits)
  simp only [raiseNew]
  refine wpAny_bind (wpAny_handled ?_)
  rw [show A.in1.handled = none from hh]
  refine wpAny_bind (wpAny_pure (wpAny_throw ?_))
  refine wpAny_bind (wpAny_isInstance (T := "StopIteration") (b := true) ⟨_, Heap.get?_push_size _ rfl, rfl⟩ isSubtype_stop ?_)
  exact wpAny_pure (k2 _ (Heap.ExtBut.push (Heap.ExtBut.push (fun b o _ e => e) _) _) (Heap.get?_push_of_some _ (Heap.get?_push_of_some _ hit)))
end
end Mine
end
section
open PySem PySem.W PyProof.Rows
set_option Elab.async false
set_option maxRecDepth 100000
namespace Mine
/-- the items of a list of one-sign texts -/
def SgOf (l : List Nat) (u : List (Str × Tok)) : Prop := u.map (fun x => x.1) = l.map fun c => ofL [c]
theorem sgOf_carried : ∀ {l : List Nat} {ys : List Value}, CarriedAll ys (l.map fun c => PyData.str (ofL [c])) → ∃ u, ys = strValues u ∧ SgOf l u
  | [], _, .nil => ⟨[], rfl, rfl⟩
  | c :: l, _, .cons (.str _ t) r => by
    obtain ⟨u, e1, e2⟩ := sgOf_carried r
    exact ⟨(ofL [c], t) :: u, by rw [e1]; rfl, congrArg (List.cons _) e2⟩
theorem SgOf.nil_inv {u : List (Str × Tok)} (h : SgOf [] u) : u = [] := List.map_eq_nil_iff.mp h
theorem SgOf.cons_inv {c : Nat} {l : List Nat} {u : List (Str × Tok)} (h : SgOf (c :: l) u) : ∃ t r, u = (ofL [c], t) :: r ∧ SgOf l r := by
  cases u with
  | nil => cases h
  | cons p r =>
    obtain ⟨x, t⟩ := p
    have h1 := List.cons.inj h
    exact ⟨t, r, by rw [show x = ofL [c] from h1.1], h1.2⟩
theorem SgOf.length {l : List Nat} {u : List (Str × Tok)} (h : SgOf l u) : u.length = l.length := by
  have := congrArg List.length h
  simpa using this
/-- the list from which the stream pops -/
abbrev sgObj (u : List (Str × Tok)) (n : Nat) : Obj := listOf (strValues u).reverse.toArray n
section
variable {prog : Program} {w : World} {A : Around} {E : Value → Shared → Prop} {s : Shared} {h₀ : Heap} {L D : Addr} {m : Str → Option Value} {news news' : List (Addr × Obj)} {n : Nat} {Q : Value → Shared → Prop}
theorem listStr {x : Str} {t : Tok} (hh : A.handled = none) (F : Fr h₀ L s.heap m) (N : News h₀ L s.heap news) (hsz : x.length ≤ 1000000)
    (h : ∀ D u c h' tk', Fr h₀ L h' m → News h₀ L h' ((D, listOf (strValues u).toArray c) :: news) → (∀ p ∈ news, p.1 < D) → SgOf x.cps.toList u → Q (.ref D) ⟨h', s.gens, s.drawn, tk', s.os⟩) :
    wpAny (model prog w) A (call (.type "list") [.str x t]) Q E s := by
  refine list_strD hh F N (fun h' tk ys F' N' _ hn _ hp hc => ?_) (by rw [PySem.sizeLine_eq]; omega)
  have hc' : CarriedAll ys (x.cps.toList.map fun c => PyData.str (ofL [c])) := by
    have e : (signs x).map PyData.str = x.cps.toList.map fun c => PyData.str (ofL [c]) := by
      unfold signs; rw [List.map_map]; rfl
    rw [← e]; exact hc
  obtain ⟨u, e1, e2⟩ := sgOf_carried hc'
  subst e1
  obtain ⟨⟨c, hc2⟩, hne⟩ := hp
  have lt : ∀ p ∈ news, p.1 < s.heap.objs.size := fun p hp => Heap.lt_size (N p hp).1
  exact h _ u c h' tk F' (fun q hq => by
    rcases List.mem_cons.mp hq with rfl | hq
    · exact ⟨hc2, NewPlain.ne_locals ⟨⟨c, hc2⟩, hne⟩ F', hn⟩
    · exact N' q hq) lt e2
theorem popStr {x : Str} {t : Tok} {u : List (Str × Tok)} (F : Fr h₀ L s.heap m) (N : News h₀ L s.heap news) (U : Upd D (sgObj ((x, t) :: u) n) (sgObj u (n + 1)) news news') (hz : u.length ≤ 1000000)
    (h : ∀ h', Fr h₀ L h' m → News h₀ L h' news' → Q (.str x t) { s with heap := h' }) : wpAny (model prog w) A (call (.builtin "list.pop") [.ref D]) Q E s := by
  refine kl_pop F N (p := (strValues u).reverse) (y := .str x t) ?_ U ?_ h
  · have e := kpa_last (.str x t) (strValues u).reverse
    rw [← e]
    simp [strValues]
  · have e : ((strValues ((x, t) :: u)).reverse.toArray.toList).length = u.length + 1 := by simp [strValues]
    rw [e, PySem.sizeLine_eq]
    omega
end
theorem rev_room {l : List Nat} {u : List (Str × Tok)} (h : SgOf l u) (hl : l.length ≤ 1000000) : (strValues u).toArray.size ≤ sizeLine := by
  have e := h.length
  rw [PySem.sizeLine_eq]
  simp only [strValues, List.size_toArray, List.length_map]
  omega
theorem lit1_len {y : Str} {n : Nat} (_h : (Str.ofString "\"").length + y.length ≤ n ∧ n ≤ (Str.ofString "\"").length + y.length) (hy : y.length ≤ 900) : n ≤ 1000000 := by
  have p8 : (Str.ofString "\"").length = 1 := by decide +kernel
  omega
theorem quote_list (y : Str) : (Str.ofString "\"" ++ y).cps.toList = 34 :: y.cps.toList := by
  rw [lit_mark, ← ofL_toList y, ofL_append]; rfl
theorem lit1_room {y : Str} (hy : y.length ≤ 900) : (Str.ofString "\"" ++ y).cps.toList.length ≤ 1000000 := by
  rw [quote_list, List.length_cons, len_eq]; omega
theorem leN {a b : Nat} (h : a ≤ b) : a ≤ b := h
theorem tail_ne {news : List (Addr × Obj)} {d c : Addr} (h : ∀ p ∈ news, p.1 < d) (hd : d ≤ c) : ∀ p ∈ news, p.1 ≠ c := fun p hp => Nat.ne_of_lt (Nat.lt_of_lt_of_le (h p hp) hd)
theorem drop_lt {news : List (Addr × Obj)} {d : Addr} {q : Addr × Obj} (h : ∀ p ∈ q :: news, p.1 < d) : ∀ p ∈ news, p.1 < d := fun p hp => h p (List.mem_cons_of_mem _ hp)
/-! the word behind a mark -/
def hearL : List Nat → List Nat
  | [] => []
  | [c] => if c = 34 then [] else if c = 92 then [] else [c]
  | c :: d :: r => if c = 34 then [] else if c = 92 then d :: hearL r else c :: hearL (d :: r)
theorem hear_nil : hearL [] = [] := rfl
theorem hear_mark (r : List Nat) : hearL (34 :: r) = [] := by cases r <;> rfl
theorem hear_back (d : Nat) (r : List Nat) : hearL (92 :: d :: r) = d :: hearL r := rfl
theorem hear_last : hearL [92] = [] := rfl
theorem hear_other {c : Nat} (h1 : c ≠ 34) (h2 : c ≠ 92) (r : List Nat) : hearL (c :: r) = c :: hearL r := by
  cases r with
  | nil => show (if c = 34 then _ else _) = _; rw [if_neg h1, if_neg h2]; rfl
  | cons d r => show (if c = 34 then _ else _) = _; rw [if_neg h1, if_neg h2]
def hearS (y : Str) : Str := ofL (hearL y.cps.toList)
theorem hear_len : ∀ (n : Nat) (l : List Nat), l.length ≤ n → (hearL l).length ≤ l.length
  | _, [], _ => Nat.le_refl _
  | 0, _ :: _, h => absurd h (Nat.not_succ_le_zero _)
  | n + 1, [c], _ => by
    show (if c = 34 then ([] : List Nat) else if c = 92 then [] else [c]).length ≤ 1
    split
    · simp
    · split <;> simp
  | n + 1, c :: d :: r, h => by
    show (if c = 34 then ([] : List Nat) else if c = 92 then d :: hearL r else c :: hearL (d :: r)).length ≤ _
    have h1 := hear_len n r (by simp only [List.length_cons] at h; omega)
    have h2 := hear_len n (d :: r) (by simp only [List.length_cons] at h ⊢; omega)
    split
    · simp
    · split <;> simp only [List.length_cons] at h2 ⊢ <;> omega
theorem hearS_len (y : Str) : (hearS y).length ≤ y.length := by
  unfold hearS
  rw [ofL_length, ← len_eq y]
  exact hear_len _ _ (Nat.le_refl _)
/-! the ledger of a reader over a list of signs -/
structure Rd where
  C : Addr
  l2 : Addr
  x2 : Addr
  d2 : Addr
  f' : Addr
  l1 : Addr
  x1 : Addr
  d1 : Addr
  D : Addr
  fd : FuncData
  P : Params
  k : Nat → Tok
  news : List (Addr × Obj)
abbrev wsT : Str := Str.ofString "\n\t\x0d "
abbrev Rd.led (r : Rd) (u : List (Str × Tok)) (n : Nat) (ln : Int) (tl : Tok) : List (Addr × Obj) :=
  (r.x2, instObj r.C r.d2) :: (r.d2, dictOf [⟨PyData.keyHash r.P (Str.ofString "lineno"), .str (Str.ofString "lineno") (r.k 0), .int ln tl⟩, ⟨PyData.keyHash r.P (Str.ofString "instream"), .str (Str.ofString "instream") (r.k 1), .ref r.x1⟩,
    ⟨PyData.keyHash r.P (Str.ofString "whitespace"), .str (Str.ofString "whitespace") (r.k 2), .str wsT (r.k 3)⟩, ⟨PyData.keyHash r.P (Str.ofString "pushback"), .str (Str.ofString "pushback") (r.k 4), .ref r.l2⟩] 4) ::
  (r.l2, listOf #[] 0) :: (r.x1, instObj r.C r.d1) ::
  (r.d1, dictOf [⟨PyData.keyHash r.P (Str.ofString "lineno"), .str (Str.ofString "lineno") (r.k 5), .int 1 (r.k 6)⟩, ⟨PyData.keyHash r.P (Str.ofString "instream"), .str (Str.ofString "instream") (r.k 7), .none⟩,
    ⟨PyData.keyHash r.P (Str.ofString "whitespace"), .str (Str.ofString "whitespace") (r.k 8), .str wsT (r.k 9)⟩, ⟨PyData.keyHash r.P (Str.ofString "pushback"), .str (Str.ofString "pushback") (r.k 10), .ref r.l1⟩, ⟨PyData.keyHash r.P (Str.ofString "read"), .str (Str.ofString "read") (r.k 11), .ref r.f'⟩] 5) ::
  (r.f', (⟨.type "function", none, .func r.fd, #[]⟩ : Obj)) :: (r.D, sgObj u n) :: r.news
structure Rd.Ok (r : Rd) : Prop where
  a1 : @LT.lt Nat _ r.D r.d1
  a2 : @LT.lt Nat _ r.d1 r.x1
  a3 : @LT.lt Nat _ r.x1 r.f'
  a4 : @LT.lt Nat _ r.f' r.d2
  a5 : @LT.lt Nat _ r.d2 r.x2
  a6 : @LT.lt Nat _ r.x2 r.l2
  t : ∀ p ∈ r.news, p.1 ≠ r.D
  t2 : ∀ p ∈ r.news, p.1 ≠ r.d2
/-- what a pop leaves of the signs, and what it gives -/
def popU : List (Str × Tok) → List (Str × Tok)
  | [] => []
  | _ :: r => r
def popN (u : List (Str × Tok)) (n : Nat) : Nat := match u with | [] => n | _ :: _ => n + 1
def popIs (u : List (Str × Tok)) (x : Str) : Prop := match u with | [] => x = Str.ofString "" | q :: _ => x = q.1
abbrev Rd.with (r : Rd) (news : List (Addr × Obj)) : Rd := { r with news := news }
def LamOk (prog : Program) (w : World) (K : Frag) (p : Program) (loose : List Str) (mean : ExcName → Option Value) (mg mb : Str → Option Value) (r : Rd) : Prop :=
  ∀ (news : List (Addr × Obj)) (u : List (Str × Tok)) (n : Nat) (ln : Int) (tl : Tok) (A A₀ : Around) (env : Env) (outer : List Env) (base h₀ : Heap) (L : Addr) (m : Str → Option Value) (s : Shared) (t : Tok) (R : Result → Shared → Prop),
    (∀ q ∈ r.news, q ∈ news) → (∀ p ∈ news, p.1 ≠ r.D) → (∀ p ∈ news, p.1 ≠ r.d2) →
    Below A₀ base outer h₀ → Fr h₀ L s.heap m → K.In h₀ → News h₀ L s.heap ((r.with news).led u n ln tl) → Top p loose mean mg mb h₀ → A.frames = some (env :: outer) → env.frame = some L → env.scope.kind = .function → A.depth + 1 < recursionLimit → u.length ≤ 1000 →
    (∀ x tx h' tk', popIs u x → Fr h₀ L h' m → News h₀ L h' ((r.with news).led (popU u) (popN u n) ln tl) → R (.ok (.ret (.str x tx))) ⟨h', s.gens, s.drawn, tk', s.os⟩) →
    codeAny (model prog w) A (.call (.ref r.f') ⟨[.int 1 t], []⟩) R s
theorem led_pos {r : Rd} {h₀ h : Heap} {L : Addr} {u : List (Str × Tok)} {n : Nat} {ln : Int} {tl : Tok} {b : Bool} (hb : b = true) (N : News h₀ L h (r.led u n (ln + 1) tl)) : News h₀ L h (r.led u n (if b = true then ln + 1 else ln) tl) := by
  rw [if_pos hb]; exact N
theorem led_neg {r : Rd} {h₀ h : Heap} {L : Addr} {u : List (Str × Tok)} {n : Nat} {ln : Int} {tl : Tok} {b : Bool} (hb : b = false) (N : News h₀ L h (r.led u n ln tl)) : News h₀ L h (r.led u n (if b = true then ln + 1 else ln) tl) := by
  rw [if_neg (by rw [hb]; decide)]; exact N
def restL : List Nat → List Nat
  | [] => []
  | [_] => []
  | c :: d :: r => if c = 34 then d :: r else if c = 92 then restL r else restL (d :: r)
theorem rest_mark (r : List Nat) : restL (34 :: r) = r := by cases r <;> rfl
theorem rest_back (d : Nat) (r : List Nat) : restL (92 :: d :: r) = restL r := rfl
theorem rest_other {c : Nat} (h1 : c ≠ 34) (h2 : c ≠ 92) (r : List Nat) : restL (c :: r) = restL r := by
  cases r with
  | nil => rfl
  | cons d r => show (if c = 34 then _ else _) = _; rw [if_neg h1, if_neg h2]
theorem extBut_fr {h₀ h h' : Heap} {L it : Addr} {m : Str → Option Value} {o o' : Obj} {news : List (Addr × Obj)} (F : Fr h₀ L h m) (N : News h₀ L h ((it, o) :: news)) (hx : Heap.ExtBut it h h') (hit : h'.get? it = some o') (hne : ∀ p ∈ news, p.1 ≠ it) :
    Fr h₀ L h' m ∧ News h₀ L h' ((it, o') :: news) := by
  have n0 := N (it, o) (.head _)
  refine ⟨⟨F.ns.extBut hx n0.2.1.symm, fun b ob e => hx b ob (fun q => by rw [q, n0.2.2] at e; cases e) (F.keep b ob e), F.above⟩, fun p hp => ?_⟩
  rcases List.mem_cons.mp hp with rfl | hp
  · exact ⟨hit, n0.2⟩
  · have n1 := N p (.tail _ hp)
    exact ⟨hx _ _ (hne p hp) n1.1, n1.2⟩
theorem led_app (r : Rd) (u : List (Str × Tok)) (n : Nat) (ln : Int) (tl : Tok) : ∃ pre, ∀ news, (r.with news).led u n ln tl = pre ++ news := ⟨(r.with []).led u n ln tl, fun _ => rfl⟩
theorem led_in {r : Rd} {h₀ h : Heap} {L : Addr} {u : List (Str × Tok)} {n : Nat} {ln : Int} {tl : Tok} {a b : Addr × Obj} (N : News h₀ L h (a :: b :: r.led u n ln tl)) : News h₀ L h ((r.with (a :: b :: r.news)).led u n ln tl) := fun p hp => by
  obtain ⟨pre, e⟩ := led_app r u n ln tl
  rw [e] at hp
  have e2 : r.led u n ln tl = pre ++ r.news := e r.news
  refine N p ?_
  rw [e2]
  simp only [List.mem_append, List.mem_cons] at hp ⊢
  rcases hp with hp | hp | hp | hp
  · exact .inr (.inr (.inl hp))
  · exact .inl hp
  · exact .inr (.inl hp)
  · exact .inr (.inr (.inr hp))
theorem led_out {r : Rd} {h₀ h : Heap} {L : Addr} {u : List (Str × Tok)} {n : Nat} {ln : Int} {tl : Tok} {a b : Addr × Obj} (N : News h₀ L h ((r.with (a :: b :: r.news)).led u n ln tl)) : News h₀ L h (a :: b :: r.led u n ln tl) := fun p hp => by
  obtain ⟨pre, e⟩ := led_app r u n ln tl
  have e2 : r.led u n ln tl = pre ++ r.news := e r.news
  refine N p ?_
  rw [e]
  rw [e2] at hp
  simp only [List.mem_append, List.mem_cons] at hp ⊢
  rcases hp with hp | hp | hp | hp
  · exact .inr (.inl hp)
  · exact .inr (.inr (.inl hp))
  · exact .inl hp
  · exact .inr (.inr (.inr hp))
theorem is_feed (c : Nat) : (ofL [c] == Str.ofString "\n") = (c == 10) := by
  rw [show Str.ofString "\n" = ofL [10] by decide +kernel, ofL_beq]
  by_cases h : c = 10
  · subst h; rfl
  · have h1 : (c == 10) = false := by simpa using h
    rw [h1]; simp [h]
theorem is_empty (c : Nat) : (ofL [c] == Str.ofString "") = false := by
  rw [show Str.ofString "" = ofL [] by decide +kernel, ofL_beq]; rfl
theorem led_lt {r : Rd} {it : Addr} {x : Addr × Obj} {u u2 : List (Str × Tok)} {n n2 : Nat} {ln ln2 : Int} {tl tl2 : Tok} (h : ∀ p ∈ x :: r.led u n ln tl, p.1 < it) : ∀ p ∈ r.led u2 n2 ln2 tl2, p.1 < it := by
  intro p hp
  have e : (r.led u n ln tl).map (·.1) = (r.led u2 n2 ln2 tl2).map (·.1) := rfl
  have : p.1 ∈ ((r.led u n ln tl).map (·.1)) := by rw [e]; exact List.mem_map_of_mem hp
  obtain ⟨p2, hp2, e2⟩ := List.mem_map.mp this
  rw [← e2]; exact h p2 (.tail _ hp2)
theorem is_mark (c : Nat) : (ofL [c] == Str.ofString "\"") = (c == 34) := by
  rw [show Str.ofString "\"" = ofL [34] by decide +kernel, ofL_beq]
  by_cases h : c = 34
  · subst h; rfl
  · have h1 : (c == 34) = false := by simpa using h
    rw [h1]; simp [h]
theorem is_back (c : Nat) : (ofL [c] == Str.ofString "\\") = (c == 92) := by
  rw [show Str.ofString "\\" = ofL [92] by decide +kernel, ofL_beq]
  by_cases h : c = 92
  · subst h; rfl
  · have h1 : (c == 92) = false := by simpa using h
    rw [h1]; simp [h]
theorem one_len (c : Nat) : (ofL [c]).length = 1 := by rw [ofL_length]; rfl
theorem count_cons (c : Nat) (l : List Nat) : ((List.count 10 (c :: l) : Nat) : Int) = (List.count 10 l : Nat) + if c = 10 then 1 else 0 := by
  rw [List.count_cons]
  by_cases h : c = 10
  · subst h; simp
  · have : (c == 10) = false := by simpa using h
    rw [this]; simp [h]
theorem led_ne {r : Rd} {it q : Addr} {ob : Obj} {u : List (Str × Tok)} {n : Nat} {ln : Int} {tl : Tok} (hit : ∀ p ∈ r.led [] 0 0 0, p.1 < it) (hqi : q < it) : ∀ p ∈ (q, ob) :: r.led u n ln tl, p.1 ≠ it := by
  intro p hp
  rcases List.mem_cons.mp hp with rfl | hp
  · exact Nat.ne_of_lt hqi
  · exact Nat.ne_of_lt (led_lt (r := r) (x := (it, ob)) (it := it + 1) (u := []) (n := 0) (ln := 0) (tl := 0) (fun p hp => by
      rcases List.mem_cons.mp hp with rfl | hp
      · exact Nat.lt_succ_self _
      · exact Nat.lt_succ_of_lt (hit p hp)) p hp |> fun h => by
        have e : (r.led u n ln tl).map (·.1) = (r.led [] 0 0 0).map (·.1) := rfl
        have h1 : p.1 ∈ ((r.led [] 0 0 0).map (·.1)) := by rw [← e]; exact List.mem_map_of_mem hp
        obtain ⟨p2, hp2, e2⟩ := List.mem_map.mp h1
        rw [← e2]; exact hit p2 hp2)
theorem Rd.Ok.ext {r : Rd} (hr : Rd.Ok r) {it q : Addr} {o1 o2 : Obj} (iD : @LT.lt Nat _ r.D it) (id2 : @LT.lt Nat _ r.d2 it) (qD : @LT.lt Nat _ r.D q) (qd2 : @LT.lt Nat _ r.d2 q) : Rd.Ok (r.with ((it, o1) :: (q, o2) :: r.news)) := by
  obtain ⟨a1, a2, a3, a4, a5, a6, t, t2⟩ := hr
  refine ⟨a1, a2, a3, a4, a5, a6, ?_, ?_⟩
  · intro p hp
    rcases List.mem_cons.mp hp with rfl | hp
    · exact Nat.ne_of_gt iD
    · rcases List.mem_cons.mp hp with rfl | hp
      · exact Nat.ne_of_gt qD
      · exact t p hp
  · intro p hp
    rcases List.mem_cons.mp hp with rfl | hp
    · exact Nat.ne_of_gt id2
    · rcases List.mem_cons.mp hp with rfl | hp
      · exact Nat.ne_of_gt qd2
      · exact t2 p hp
theorem empty_feed : (Str.ofString "" == Str.ofString "\n") = false := by decide +kernel
theorem cat_empty (d : List Nat) : ofL d ++ Str.ofString "" = ofL d := by rw [lit_nil, ofL_append, List.append_nil]
theorem news_cons {h₀ h : Heap} {L : Addr} {news : List (Addr × Obj)} {q : Addr × Obj} (N : News h₀ L h news) (hq : q ∈ news) : News h₀ L h (q :: news) := fun p hp => by
  rcases List.mem_cons.mp hp with rfl | hp
  · exact N _ hq
  · exact N p hp
def toks12 (t0 t1 t2 t3 t4 t5 t6 t7 t8 t9 t10 t11 : Tok) : Nat → Tok
  | 0 => t0 | 1 => t1 | 2 => t2 | 3 => t3 | 4 => t4 | 5 => t5 | 6 => t6 | 7 => t7 | 8 => t8 | 9 => t9 | 10 => t10 | _ => t11
theorem sg_room {l : List Nat} {u : List (Str × Tok)} {n : Nat} (h : SgOf l u) (hl : l.length ≤ n) : u.length ≤ n := by rw [h.length]; exact hl
theorem sg_fit {q : Str × Tok} {r : List (Str × Tok)} (h : (q :: r).length ≤ 1000) : (((strValues (q :: r)).reverse.toArray.size : Nat) : Int) < 2 ^ 63 := by
  have e : (strValues (q :: r)).reverse.toArray.size = r.length + 1 := by simp [strValues]
  simp only [List.length_cons] at h
  rw [e]; omega
theorem sg_true {q : Str × Tok} {r : List (Str × Tok)} : (!(strValues (q :: r)).reverse.toArray.isEmpty) = true := by simp [strValues]
theorem news_swap {h₀ h : Heap} {L : Addr} {news : List (Addr × Obj)} {a b : Addr × Obj} (N : News h₀ L h (a :: b :: news)) : News h₀ L h (b :: a :: news) := fun p hp => by
  rcases List.mem_cons.mp hp with rfl | hp
  · exact N _ (.tail _ (.head _))
  · rcases List.mem_cons.mp hp with rfl | hp
    · exact N _ (.head _)
    · exact N _ (.tail _ (.tail _ hp))
theorem news_ins {h₀ h : Heap} {L : Addr} {news : List (Addr × Obj)} {a b c d q : Addr × Obj} (N : News h₀ L h (a :: b :: c :: d :: news)) (hq : q ∈ news) : News h₀ L h (a :: b :: c :: d :: q :: news) := fun p hp => by
  simp only [List.mem_cons] at hp
  rcases hp with rfl | rfl | rfl | rfl | rfl | hp
  · exact N _ (.head _)
  · exact N _ (.tail _ (.head _))
  · exact N _ (.tail _ (.tail _ (.head _)))
  · exact N _ (.tail _ (.tail _ (.tail _ (.head _))))
  · exact N _ (.tail _ (.tail _ (.tail _ (.tail _ hq))))
  · exact N _ (.tail _ (.tail _ (.tail _ (.tail _ hp))))
end Mine
end
section
open PySem PySem.W PyProof.Rows
set_option Elab.async false
set_option maxRecDepth 100000
namespace Mine
def FTurn (J : Nat → Heap → (Str → Option Value) → Prop) (n : Nat) (s : Shared) (Q : Flow → Shared → Prop) (f : Flow) (s' : Shared) : Prop :=
  match f with
  | .ret v => Q (.ret v) s'
  | .brk => Q .next s'
  | _ => ∃ h tk m k, s' = ⟨h, s.gens, s.drawn, tk, s.os⟩ ∧ k < n ∧ J k h m
section
variable {J : Nat → Heap → (Str → Option Value) → Prop} {n : Nat} {s s' : Shared} {Q : Flow → Shared → Prop}
theorem fturn_brk (h : Q .next s') : FTurn J n s Q .brk s' := h
theorem fturn_ret {v : Value} (h : Q (.ret v) s') : FTurn J n s Q (.ret v) s' := h
theorem fturn_next {h : Heap} {tk k : Nat} {m : Str → Option Value} (hk : k < n) (hJ : J k h m) : FTurn J n s Q .next ⟨h, s.gens, s.drawn, tk, s.os⟩ := ⟨h, tk, m, k, rfl, hk, hJ⟩
theorem fturn_cont {h : Heap} {tk k : Nat} {m : Str → Option Value} (hk : k < n) (hJ : J k h m) : FTurn J n s Q .cont ⟨h, s.gens, s.drawn, tk, s.os⟩ := ⟨h, tk, m, k, rfl, hk, hJ⟩
end
section
variable {prog : Program} {w : World} {A : Around} {E : Value → Shared → Prop} {s : Shared} {env : Env} {body : List Stmt} {x : Str} {px pos : Pos} {iter : Expr} {Q : Flow → Shared → Prop}
/-- a for loop whose turns never raise; the turn's item is got by hand -/
theorem for_inv (it : Value) (J : Nat → Heap → (Str → Option Value) → Prop) (n₀ : Nat)
    (h : wpAny (model prog w) A (eval iter env) (fun xv s₁ => wpAny (model prog w) A (pyIter xv) (fun it' s₂ => it' = it ∧ ∃ h tk m, s₂ = ⟨h, s.gens, s.drawn, tk, s.os⟩ ∧ 0 < tk ∧ J n₀ h m) (fun _ _ => False) s₁) (fun _ _ => False) s)
    (turn : ∀ n m h tk, 0 < tk → J n h m → wpAny (model prog w) A (pyNext it) (fun r s₁ => match r with
      | none => Q .next s₁
      | some v => wpAny (model prog w) A (storeName env x v) (fun _ s₂ => wpAny (model prog w) A (execs body env) (FTurn J n s Q) (fun _ _ => False) s₂) (fun _ _ => False) s₁) (fun _ _ => False) ⟨h, s.gens, s.drawn, tk, s.os⟩)
    (hs : ∀ x, foldedSetIterable iter env x = pure x := by intro _; rfl) :
    wpAny (model prog w) A (exec (.For (.Name x px) iter body [] pos) env) Q E s := by
  refine wpAny_For (wpAny_mono h (fun xv s₁ h₁ => wpAny_mono h₁ (fun it' s₂ h₂ => ?_) fun _ _ e => e.elim) fun _ _ e => e.elim) hs
  obtain ⟨rfl, h', tk, m, rfl, htk, hJ⟩ := h₂
  let I : Nat → Shared → Prop := fun n s' => ∃ h tk m, s' = ⟨h, s.gens, s.drawn, tk, s.os⟩ ∧ 0 < tk ∧ J n h m
  refine codeAny_forLoop_any I (fun n s₁ hI => ?_) n₀ ⟨h', tk, m, rfl, htk, hJ⟩
  obtain ⟨h', tk, m, rfl, htk, hJ⟩ := hI
  refine wpAny_with_toks (n := 1) htk ?_
  refine wpAny_mono (turn n m h' tk htk hJ) (fun r s₂ h₂ htk₂ => ?_) (fun _ _ h' _ => h'.elim)
  cases r with
  | none => exact wpAny_execs_nil h₂
  | some v =>
    refine wpAny_of_eq (a := ()) rfl ?_
    refine wpAny_assign_Name ?_
    dsimp only at h₂
    refine wpAny_with_toks (n := 1) htk₂ ?_
    refine wpAny_mono h₂ (fun _ s₃ h₃ htk₃ => ?_) (fun _ _ h' _ => h'.elim)
    refine wpAny_with_toks (n := 1) htk₃ ?_
    refine wpAny_mono h₃ (fun f s₄ h₄ htk₄ => ?_) (fun _ _ h' _ => h'.elim)
    cases f with
    | next => obtain ⟨h', tk', m', k, e, hk, hJ'⟩ := h₄; subst e; exact ⟨k, hk, h', tk', m', rfl, htk₄, hJ'⟩
    | cont => obtain ⟨h', tk', m', k, e, hk, hJ'⟩ := h₄; subst e; exact ⟨k, hk, h', tk', m', rfl, htk₄, hJ'⟩
    | brk => exact h₄
    | ret v => exact h₄
end
theorem iterK {prog : Program} {w : World} {A : Around} {E : Value → Shared → Prop} {s : Shared} {Q : Value → Shared → Prop} {q : Addr} {f self : Value} {h₀ : Heap} {L : Addr} {m : Str → Option Value} {news : List (Addr × Obj)} {t : Tok}
    (F : Fr h₀ L s.heap m) (N : News h₀ L s.heap news) (hq : (q, methodObj f self) ∈ news)
    (h : ∀ it h', Fr h₀ L h' m → News h₀ L h' ((it, ciObj q t) :: news) → (∀ p ∈ news, p.1 < it) → Q (.ref it) { s with heap := h' }) :
    wpAny (model prog w) A (call (.builtin "iter") [.ref q, .str (Str.ofString "") t]) Q E s := by
  refine iter_ci (N _ hq).1 (h _ _ (F.keeps fun b o e => Heap.get?_push_of_some _ e) (fun p hp => ?_) fun p hp => Heap.lt_size (N p hp).1)
  rcases List.mem_cons.mp hp with rfl | hp
  · refine ⟨Heap.get?_push_size _ rfl, Nat.ne_of_gt F.ns.lt, ?_⟩
    cases e : h₀.get? s.heap.objs.size with
    | none => rfl
    | some o => exact absurd (Heap.lt_size (F.keep _ _ e)) (Nat.lt_irrefl _)
  · exact ⟨Heap.get?_push_of_some _ (N p hp).1, (N p hp).2⟩
theorem iter_named {prog : Program} {w : World} {A : Around} {E : Value → Shared → Prop} {s : Shared} {Q : Value → Shared → Prop} {q : Addr} {t : Tok} {x : Str}
    (h : ∀ q' t', q' = q → t' = t → wpAny (model prog w) A (call (.builtin "iter") [.ref q', .str x t']) Q E s) : wpAny (model prog w) A (call (.builtin "iter") [.ref q, .str x t]) Q E s := h q t rfl rfl
end Mine
end
section
open PySem PySem.W PyProof.Rows
set_option Elab.async false
set_option maxRecDepth 100000
namespace Mine
theorem joinL_nil_mem {c : Nat} : ∀ {l : List (List Nat)}, c ∈ joinL [] l → ∃ a ∈ l, c ∈ a
  | [], h => by cases h
  | [a], h => ⟨a, .head _, h⟩
  | a :: b :: r, h => by
    have h' : c ∈ a ++ [] ++ joinL [] (b :: r) := h
    rw [List.append_nil] at h'
    rcases List.mem_append.mp h' with h | h
    · exact ⟨a, .head _, h⟩
    · obtain ⟨x, hx, hc⟩ := joinL_nil_mem h
      exact ⟨x, .tail _ hx, hc⟩
theorem joinL_nil_len : ∀ {l : List (List Nat)}, (∀ a ∈ l, a.length = 1) → (joinL [] l).length = l.length
  | [], _ => rfl
  | [a], h => h a (.head _)
  | a :: b :: r, h => by
    show (a ++ [] ++ joinL [] (b :: r)).length = _
    rw [List.append_nil, List.length_append, h a (.head _), joinL_nil_len (l := b :: r) fun x hx => h x (.tail _ hx)]
    simp only [List.length_cons]; omega
theorem nums_len (l : List Int) (n : Nat) : (List.map (fun k' => k'.fmod 300000) (List.take 12 l) ++ List.drop n ([0, 1, 5, 3, 0, 4, 1, 0, 2, 0, 2, 5] : List Int)).length ≤ 24 := by
  simp only [List.length_append, List.length_map, List.length_take, List.length_drop, List.length_cons, List.length_nil]; omega
theorem num_in {l : List Int} {n : Nat} {k : Int} (h : k ∈ List.map (fun k' => k'.fmod 300000) (List.take 12 l) ++ List.drop n ([0, 1, 5, 3, 0, 4, 1, 0, 2, 0, 2, 5] : List Int)) : 0 ≤ k ∧ k < 300000 ∧ 0 ≤ k.fmod 6 ∧ k.fmod 6 < 6 ∧ 0 ≤ k.fdiv 6 ∧ k.fdiv 6 < 50000 := by
  have h0 : 0 ≤ k ∧ k < 300000 := by
    rcases List.mem_append.mp h with h | h
    · obtain ⟨j, _, rfl⟩ := List.mem_map.mp h
      exact ⟨Int.fmod_nonneg_of_pos _ (by decide), Int.fmod_lt_of_pos _ (by decide)⟩
    · have h2 := List.mem_of_mem_drop h
      simp only [List.mem_cons, List.not_mem_nil, or_false] at h2
      omega
  refine ⟨h0.1, h0.2, Int.fmod_nonneg_of_pos _ (by decide), Int.fmod_lt_of_pos _ (by decide), ?_, ?_⟩
  · rw [Int.fdiv_eq_ediv_of_nonneg _ (by decide)]; omega
  · rw [Int.fdiv_eq_ediv_of_nonneg _ (by decide)]; omega
def signT (k : Int) : Str := if k.fmod 6 = 5 then (⟨#[(256 + k.fdiv 6).toNat]⟩ : Str) else Txt.item (Str.ofString "\\.\"\r\n") (k.fmod 6)
abbrev Okc (c : Nat) : Prop := (c ≠ 101 ∧ c ≠ 113) ∧ c < 1114112
def GoodText (T : Str) : Prop := T.length ≤ 24 ∧ ∀ c ∈ T.cps.toList, Okc c
theorem signT_is {k : Int} (h : 0 ≤ k ∧ k < 300000 ∧ 0 ≤ k.fmod 6 ∧ k.fmod 6 < 6 ∧ 0 ≤ k.fdiv 6 ∧ k.fdiv 6 < 50000) : ∃ c, (signT k).cps.toList = [c] ∧ Okc c := by
  obtain ⟨h1, h2, h3, h4, h5, h6⟩ := h
  unfold signT
  by_cases e : k.fmod 6 = 5
  · rw [if_pos e]
    exact ⟨_, rfl, ⟨by omega, by omega⟩, by omega⟩
  · rw [if_neg e]
    have : k.fmod 6 = 0 ∨ k.fmod 6 = 1 ∨ k.fmod 6 = 2 ∨ k.fmod 6 = 3 ∨ k.fmod 6 = 4 := by omega
    rcases this with e | e | e | e | e <;> rw [e]
    · exact ⟨92, by decide +kernel, by decide⟩
    · exact ⟨46, by decide +kernel, by decide⟩
    · exact ⟨34, by decide +kernel, by decide⟩
    · exact ⟨13, by decide +kernel, by decide⟩
    · exact ⟨10, by decide +kernel, by decide⟩
theorem text_facts {l : List Int} {n : Nat} {X : List Str} (e : X = (List.map (fun k' => k'.fmod 300000) (List.take 12 l) ++ List.drop n ([0, 1, 5, 3, 0, 4, 1, 0, 2, 0, 2, 5] : List Int)).map signT) :
    (X.map fun y => y.length).sum + X.length * (Str.ofString "").length ≤ 1000000 ∧ GoodText (Str.join (Str.ofString "") X) := by
  have hX : X.length ≤ 24 := by rw [e, List.length_map]; exact nums_len _ _
  have hm : ∀ x ∈ X, ∃ c, x.cps.toList = [c] ∧ Okc c := by
    intro x hx
    rw [e] at hx
    obtain ⟨k, hk, rfl⟩ := List.mem_map.mp hx
    exact signT_is (num_in hk)
  have hl : ∀ x ∈ X, x.length ≤ 1 := by
    intro x hx
    obtain ⟨c, hc, _⟩ := hm x hx
    rw [← len_eq, hc]; exact Nat.le_refl _
  have hj : (Str.join (Str.ofString "") X).cps.toList = joinL [] (X.map fun s => s.cps.toList) := by rw [join_list]; rfl
  refine ⟨?_, ?_, ?_⟩
  · have h1 := StrLaws.sumLen_le X hl
    have h0 : (Str.ofString "").length = 0 := by decide +kernel
    rw [h0]; omega
  · rw [← len_eq, hj, joinL_nil_len]
    · rw [List.length_map]; exact hX
    · intro a ha
      obtain ⟨x, hx, rfl⟩ := List.mem_map.mp ha
      obtain ⟨c, hc, _⟩ := hm x hx
      rw [hc]; rfl
  · intro c hc
    rw [hj] at hc
    obtain ⟨a, ha, hca⟩ := joinL_nil_mem hc
    obtain ⟨x, hx, rfl⟩ := List.mem_map.mp ha
    obtain ⟨d, hd, h1⟩ := hm x hx
    rw [hd] at hca
    have : c = d := by simpa using hca
    subst this; exact h1
theorem news_pick {h₀ h : Heap} {L : Addr} {l : List (Addr × Obj)} {x y : Addr × Obj} (N : News h₀ L h l) (hx : x ∈ l) (hy : y ∈ l) : News h₀ L h [x, y] := fun p hp => by
  simp only [List.mem_cons, List.not_mem_nil, or_false] at hp
  rcases hp with rfl | rfl
  · exact N _ hx
  · exact N _ hy
theorem cell_pick {h₀ h : Heap} {L : Addr} {a1 a2 a3 a4 a5 a6 c t : Addr × Obj} (N : News h₀ L h [a1, a2, a3, a4, a5, a6, c, t]) : News h₀ L h [t, c] :=
  news_pick N (.tail _ (.tail _ (.tail _ (.tail _ (.tail _ (.tail _ (.tail _ (.head _)))))))) (.tail _ (.tail _ (.tail _ (.tail _ (.tail _ (.tail _ (.head _)))))))
end Mine
end
section
open PySem PySem.W PyProof.Rows
set_option Elab.async false
set_option maxRecDepth 100000
namespace Mine
/-- the values of a list, each in a relation to its number -/
inductive Rel2 (R : Nat → Value → Prop) : List Nat → List Value → Prop
  | nil : Rel2 R [] []
  | cons {i : Nat} {v : Value} {l : List Nat} {r : List Value} : R i v → Rel2 R l r → Rel2 R (i :: l) (v :: r)
theorem Rel2.snoc {R : Nat → Value → Prop} : ∀ {l : List Nat} {r : List Value} {i : Nat} {v : Value}, Rel2 R l r → R i v → Rel2 R (l ++ [i]) (r ++ [v])
  | _, _, _, _, .nil, h => .cons h .nil
  | _, _, _, _, .cons h1 t, h => .cons h1 (t.snoc h)
theorem Rel2.length {R : Nat → Value → Prop} : ∀ {l : List Nat} {r : List Value}, Rel2 R l r → r.length = l.length
  | _, _, .nil => rfl
  | _, _, .cons _ t => congrArg (· + 1) t.length
section
variable {prog : Program} {w : World} {A : Around} {h₀ : Heap} {L : Addr} {m : Str → Option Value} {env : Env} {ct elt : Expr} {x : Str} {scope : Scope} {cl : List (Str × Addr)} {s : Shared} {S : List (Addr × Obj) → Prop} {Fin : List Value → List (Addr × Obj) → Prop} {news : List (Addr × Obj)}
def TElt (R : Nat → Value → Prop) (news : List (Addr × Obj)) (i : Nat) (y : Value) (news' : List (Addr × Obj)) : Prop := news' = news ∧ R i y
def TTest (ok : Bool) (A B : Shared → Prop) (o : Bool) (s' : Shared) : Prop := o = ok ∧ if o = true then A s' else B s'
theorem ttest {ok o : Bool} {A B : Shared → Prop} {s' : Shared} (h : o = ok) (h1 : o = true → A s') (h2 : o = false → B s') : TTest ok A B o s' := by
  refine ⟨h, ?_⟩
  cases o with
  | true => rw [if_pos rfl]; exact h1 rfl
  | false => rw [if_neg (by decide)]; exact h2 rfl
def TSkip (news : List (Addr × Obj)) (_y : Value) (news' : List (Addr × Obj)) : Prop := news' = news
theorem comp_filter {n : Nat} {P : Nat → Value → Prop} (ok : Nat → Bool) (R : Nat → Value → Prop)
    (turn : ∀ i v I oI C oC D m₂ ys h tk (E' : Value → Shared → Prop), i < n → P i v → LCg.NsObj oC m₂ → m₂ x = some v → Fr h₀ L h m → News h₀ L h ((I, oI) :: (C, oC) :: (D, LCg.lst ys) :: news) → LCg.Off3 I C D news → ((@Ne Nat I C) ∧ (@Ne Nat I D) ∧ (@Ne Nat C D)) →
      wpAny (model prog w) A (isTrue ct (compEnvC scope cl C env) (eval ct (compEnvC scope cl C env))) (TTest (ok i) (fun s' =>
        wpAny (model prog w) A (eval elt (compEnvC scope cl C env)) (LCg.CompEnd h₀ L m { s with heap := h, toks := tk } I oI C oC D (LCg.lst ys) S (TElt R news i)) E' s')
        (fun s' => LCg.CompEnd h₀ L m { s with heap := h, toks := tk } I oI C oC D (LCg.lst ys) S (TSkip news) Value.none s')) E' { s with heap := h, toks := tk })
    (fin : ∀ ys, Rel2 R ((List.range n).filter ok) ys → Fin ys news) : LCt.CompRestT prog w A h₀ L m env ct elt x scope cl s S P Fin n 0 [] news := by
  have key : ∀ (j i : Nat) (ys : List Value), i + j = n → Rel2 R ((List.range i).filter ok) ys → LCt.CompRestT prog w A h₀ L m env ct elt x scope cl s S P Fin j i ys news := by
    intro j
    induction j with
    | zero =>
      intro i ys hi hy
      have e : i = n := by omega
      subst e
      exact LCt.CompRestT.zero (fin ys hy)
    | succ j ih =>
      intro i ys hi hy
      refine LCt.CompRestT.succ ?_
      intro v I oI C oC D m₂ h tk E' hv hC hx F N off ne
      refine wpAny_mono (turn i v I oI C oC D m₂ _ h tk E' (by omega) hv hC hx F N off ne) (fun o s₂ hq => ?_) fun _ _ e => e
      obtain ⟨ho, hq⟩ := hq
      cases o with
      | true =>
        rw [if_pos rfl] at hq ⊢
        refine wpAny_mono hq (fun y s₃ hr => ?_) fun _ _ e => e
        obtain ⟨h', tk', nw, e, F', N', off', hS', hn, hR⟩ := hr
        subst hn
        refine ⟨h', tk', _, e, F', N', off', hS', ih (i + 1) _ (by omega) ?_⟩
        rw [List.range_succ, List.filter_append]
        have : List.filter ok [i] = [i] := by simp [← ho]
        rw [this]
        exact hy.snoc hR
      | false =>
        rw [if_neg (by decide)] at hq ⊢
        obtain ⟨h', tk', nw, e, F', N', off', hS', hn⟩ := hq
        have hn' : nw = news := hn
        subst hn'
        refine ⟨h', tk', _, e, F', N', off', hS', ih (i + 1) _ (by omega) ?_⟩
        rw [List.range_succ, List.filter_append]
        have : List.filter ok [i] = [] := by simp [← ho]
        rw [this, List.append_nil]
        exact hy
  exact key n 0 [] (by omega) .nil
end
theorem tEnd {h₀ : Heap} {L I C D : Addr} {m : Str → Option Value} {s₁ : Shared} {oI oC oD : Obj} {S : List (Addr × Obj) → Prop} {h' : Heap} {tk : Nat} {all news : List (Addr × Obj)} {R : Nat → Value → Prop} {i : Nat} {v : Value}
    (F : Fr h₀ L h' m) (N : News h₀ L h' all) (sub : ∀ p ∈ (I, oI) :: (C, oC) :: (D, oD) :: news, p ∈ all) (off : LCg.Off3 I C D news) (hS : S news) (e : R i v) :
    LCg.CompEnd h₀ L m s₁ I oI C oC D oD S (TElt R news i) v { s₁ with heap := h', toks := tk } := LCg.CompEnd.intro F N news sub off hS ⟨rfl, e⟩
theorem tSkip {h₀ : Heap} {L I C D : Addr} {m : Str → Option Value} {s₁ : Shared} {oI oC oD : Obj} {S : List (Addr × Obj) → Prop} {h' : Heap} {tk : Nat} {all news : List (Addr × Obj)} {v : Value}
    (F : Fr h₀ L h' m) (N : News h₀ L h' all) (sub : ∀ p ∈ (I, oI) :: (C, oC) :: (D, oD) :: news, p ∈ all) (off : LCg.Off3 I C D news) (hS : S news) :
    LCg.CompEnd h₀ L m s₁ I oI C oC D oD S (TSkip news) v { s₁ with heap := h', toks := tk } := LCg.CompEnd.intro F N news sub off hS rfl
theorem rel_ints : ∀ {l : List Nat} {r : List Value}, Rel2 (fun i v => ∃ t : Tok, v = .int (i : Int) t) l r → IntsAre r (l.map fun i : Nat => (i : Int))
  | _, _, .nil => .nil
  | _, _, .cons ⟨t, e⟩ h => by subst e; exact .cons _ t (rel_ints h)
end Mine
end
section
open PySem PySem.W PyProof.Rows
set_option Elab.async false
set_option maxRecDepth 100000
namespace Mine
def pairL : List Nat → List Nat
  | [] => []
  | [c] => [c]
  | c :: d :: r => if c = 92 then (if d = 92 then 101 :: pairL r else if d = 34 then 113 :: pairL r else 92 :: d :: pairL r) else c :: pairL (d :: r)
theorem pair_bb (r : List Nat) : pairL (92 :: 92 :: r) = 101 :: pairL r := rfl
theorem pair_bm (r : List Nat) : pairL (92 :: 34 :: r) = 113 :: pairL r := rfl
theorem pair_bo {d : Nat} (h1 : d ≠ 92) (h2 : d ≠ 34) (r : List Nat) : pairL (92 :: d :: r) = 92 :: d :: pairL r := by
  show (if (92 : Nat) = 92 then (if d = 92 then _ else if d = 34 then _ else _) else _) = _
  rw [if_pos rfl, if_neg h1, if_neg h2]
theorem pair_o {c : Nat} (h : c ≠ 92) (r : List Nat) : pairL (c :: r) = c :: pairL r := by
  cases r with
  | nil => rfl
  | cons d r => show (if c = 92 then _ else _) = _; rw [if_neg h]
/-- cases on a text's head, as reading looks at it -/
theorem back_cases {P : List Nat → Prop} (h0 : P []) (h1 : P [92]) (h2 : ∀ d r, P r → P (92 :: d :: r)) (h3 : ∀ c r, c ≠ 92 → P r → P (c :: r)) : ∀ l, P l := by
  have key : ∀ n (l : List Nat), l.length ≤ n → P l := by
    intro n
    induction n with
    | zero => intro l hl; rw [List.length_eq_zero_iff.mp (Nat.le_zero.mp hl)]; exact h0
    | succ n ih =>
      intro l hl
      match l, hl with
      | [], _ => exact h0
      | [c], _ =>
        by_cases hc : c = 92
        · subst hc; exact h1
        · exact h3 c [] hc h0
      | c :: d :: r, hl =>
        simp only [List.length_cons] at hl
        by_cases hc : c = 92
        · subst hc; exact h2 d r (ih r (by omega))
        · exact h3 c _ hc (ih _ (by simp only [List.length_cons]; omega))
  exact fun l => key l.length l (Nat.le_refl _)
theorem pair_list (l : List Nat) : repL [92, 34] [113] 0 (repL [92, 92] [101] 0 l) = pairL l := by
  refine back_cases (P := fun l => repL [92, 34] [113] 0 (repL [92, 92] [101] 0 l) = pairL l) ?_ ?_ ?_ ?_ l
  · rw [repL_nil, repL_nil]; rfl
  · rw [repL_two_one, repL_two_one]; rfl
  · intro d r ih
    by_cases h1 : d = 92
    · subst h1
      rw [repL_two_hit, List.singleton_append, repL_two_miss _ _ (by decide), ih, pair_bb]
    · by_cases h2 : d = 34
      · subst h2
        rw [repL_two_miss2 (a := 92) (b := 92) (c := 92) (d := 34) _ _ (by decide), repL_two_miss (a := 92) (b := 92) (c := 34) _ _ (by decide), repL_two_hit, List.singleton_append, ih, pair_bm]
      · rw [repL_two_miss2 _ _ h1, repL_two_miss _ _ h1, repL_two_miss2 _ _ h2, repL_two_miss _ _ h1, ih, pair_bo h1 h2]
  · intro c r hc ih
    rw [repL_two_miss _ _ hc, repL_two_miss _ _ hc, ih, pair_o hc]
def tw : List Nat → List Nat
  | [] => []
  | c :: r => if c = 34 then [] else c :: tw r
theorem tw_mark (r : List Nat) : tw (34 :: r) = [] := rfl
theorem tw_other {c : Nat} (h : c ≠ 34) (r : List Nat) : tw (c :: r) = c :: tw r := by show (if c = 34 then _ else _) = _; rw [if_neg h]
theorem tw_head : ∀ l : List Nat, ∃ t, splitL 34 l = tw l :: t
  | [] => ⟨[], rfl⟩
  | c :: r => by
    obtain ⟨t, e⟩ := tw_head r
    by_cases h : c = 34
    · subst h; exact ⟨splitL 34 r, by rw [tw_mark]; exact splitL_hit 34 r⟩
    · rw [tw_other h]; exact ⟨t, splitL_miss h e⟩
theorem wordS_list (y : Str) : wordS y = ofL (tw (pairL y.cps.toList)) := by
  unfold wordS
  have hp : pairedS y = ofL (pairL y.cps.toList) := by
    refine eq_ofL ?_
    unfold pairedS
    rw [replace_list _ _ _ (by decide +kernel), replace_list _ _ _ (by decide +kernel)]
    exact pair_list _
  rw [hp, lit_mark, split_ofL]
  obtain ⟨t, e⟩ := tw_head (pairL y.cps.toList)
  rw [e]; rfl
def decL (l : List Nat) : List Nat := rep1 101 [92] (rep1 113 [34] (rep1 92 [] l))
theorem dec_nil : decL [] = [] := rfl
theorem dec_back (r : List Nat) : decL (92 :: r) = decL r := rfl
theorem dec_q (r : List Nat) : decL (113 :: r) = 34 :: decL r := rfl
theorem dec_e (r : List Nat) : decL (101 :: r) = 92 :: decL r := rfl
theorem dec_o {c : Nat} (h1 : c ≠ 92) (h2 : c ≠ 113) (h3 : c ≠ 101) (r : List Nat) : decL (c :: r) = c :: decL r := by
  unfold decL
  rw [rep1_cons, if_neg h1, List.singleton_append, rep1_cons, if_neg h2, List.singleton_append, rep1_cons, if_neg h3, List.singleton_append]
theorem hear_spec (l : List Nat) : (∀ c ∈ l, c ≠ 101 ∧ c ≠ 113) → decL (tw (pairL l)) = hearL l := by
  refine back_cases (P := fun l => (∀ c ∈ l, c ≠ 101 ∧ c ≠ 113) → decL (tw (pairL l)) = hearL l) ?_ ?_ ?_ ?_ l
  · intro _; rfl
  · intro _; rfl
  · intro d r ih h
    have ih' := ih fun c hc => h c (.tail _ (.tail _ hc))
    rw [hear_back]
    by_cases h1 : d = 92
    · subst h1
      rw [pair_bb, tw_other (by decide), dec_e, ih']
    · by_cases h2 : d = 34
      · subst h2
        rw [pair_bm, tw_other (by decide), dec_q, ih']
      · have hd := h d (.tail _ (.head _))
        rw [pair_bo h1 h2, tw_other (by decide), tw_other h2, dec_back, dec_o h1 hd.2 hd.1, ih']
  · intro c r hc ih h
    have ih' := ih fun c hc => h c (.tail _ hc)
    have hd := h c (.head _)
    rw [pair_o hc]
    by_cases h2 : c = 34
    · subst h2; rw [tw_mark, hear_mark]; rfl
    · rw [tw_other h2, dec_o hc hd.2 hd.1, ih', hear_other h2 hc]
theorem heardS_eq (y : Str) (h : ∀ c ∈ y.cps.toList, c ≠ 101 ∧ c ≠ 113) : heardS y = hearS y := by
  unfold heardS hearS
  refine eq_ofL ?_
  rw [replace_list _ _ _ (by decide +kernel), replace_list _ _ _ (by decide +kernel), replace_list _ _ _ (by decide +kernel), wordS_list, ofL_list]
  rw [show (Str.ofString "\\").cps.toList = [92] by decide +kernel, show (Str.ofString "").cps.toList = [] by decide +kernel, show (Str.ofString "q").cps.toList = [113] by decide +kernel,
    show (Str.ofString "\"").cps.toList = [34] by decide +kernel, show (Str.ofString "e").cps.toList = [101] by decide +kernel]
  rw [repL_one, repL_one, repL_one]
  exact hear_spec _ h
/-! telling and sending change places -/
theorem sendG_r' (b : Bool) {x : List Nat} (h : x.head? ≠ some 10) : sendG b (13 :: x) = 13 :: 10 :: sendG true x := by
  cases x with
  | nil => rw [sendG_r1, sendG_nil]
  | cons d r => exact sendG_r b r fun e => h (by rw [e]; rfl)
theorem tell_head (d : Nat) (r : List Nat) : (tellL (d :: r)).head? = some d ∨ tellL (d :: r) = [] := by
  by_cases h : d = 34
  · subst h
    cases r with
    | nil => exact .inr tell_end
    | cons e r =>
      by_cases h2 : e = 34
      · subst h2; exact .inl (by rw [tell_two]; rfl)
      · exact .inr (tell_stop h2)
  · exact .inl (by rw [tell_other h]; rfl)
theorem send_mark (b : Bool) (r : List Nat) : sendG b (34 :: r) = 34 :: sendG false r := sendG_c b r (by decide) (by decide) (by rintro ⟨_, h⟩; cases h)
theorem send_head {b : Bool} {d : Nat} (h : d ≠ 34) (r : List Nat) : (sendG b (d :: r)).head? ≠ some 34 := by
  by_cases h1 : d = 13
  · subst h1
    cases r with
    | nil => rw [sendG_r1]; simp
    | cons e r =>
      by_cases h2 : e = 10
      · subst h2; rw [sendG_rf]; simp
      · rw [sendG_r b r h2]; simp
  · by_cases h2 : d = 10
    · subst h2; rw [sendG_f]; simp
    · by_cases h3 : b = true ∧ d = 46
      · obtain ⟨rfl, rfl⟩ := h3; rw [sendG_dot]; simp
      · rw [sendG_c b r h1 h2 h3]; simpa using h
theorem tell_stop' {x : List Nat} (h : x.head? ≠ some 34) : tellL (34 :: x) = [] := by
  cases x with
  | nil => exact tell_end
  | cons d r => exact tell_stop (by simpa using h)
theorem send_tell (l : List Nat) : ∀ b, sendG b (tellL l) = tellL (sendG b l) := by
  have key : ∀ n (l : List Nat), l.length ≤ n → ∀ b, sendG b (tellL l) = tellL (sendG b l) := by
    intro n
    induction n with
    | zero => intro l hl b; rw [List.length_eq_zero_iff.mp (Nat.le_zero.mp hl), tell_nil, sendG_nil, tell_nil]
    | succ n ih =>
      intro l hl b
      match l, hl with
      | [], _ => rw [tell_nil, sendG_nil, tell_nil]
      | c :: r, hl =>
        simp only [List.length_cons] at hl
        have ihr := ih r (by omega)
        by_cases h34 : c = 34
        · subst h34
          rw [send_mark]
          cases r with
          | nil => rw [tell_end, sendG_nil, sendG_nil, tell_end]
          | cons d r =>
            simp only [List.length_cons] at hl
            by_cases hd : d = 34
            · subst hd
              rw [tell_two, send_mark, send_mark, tell_two, ih r (by omega) false]
            · rw [tell_stop hd, sendG_nil, tell_stop' (send_head hd r)]
        · rw [tell_other h34]
          by_cases h13 : c = 13
          · subst h13
            cases r with
            | nil => rw [tell_nil, sendG_r1, tell_other (by decide), tell_other (by decide), tell_nil]
            | cons d r =>
              simp only [List.length_cons] at hl
              by_cases hd : d = 10
              · subst hd
                rw [tell_other (by decide), sendG_rf, sendG_rf, tell_other (by decide), tell_other (by decide), ih r (by omega) true]
              · have hne : (tellL (d :: r)).head? ≠ some 10 := by
                  rcases tell_head d r with h | h <;> rw [h]
                  · simpa using hd
                  · decide
                rw [sendG_r' b hne, sendG_r b r hd, tell_other (c := 13) (by decide), tell_other (c := 10) (by decide), ihr true]
          · by_cases h10 : c = 10
            · subst h10
              rw [sendG_f, sendG_f, tell_other (by decide), tell_other (by decide), ihr true]
            · by_cases h46 : b = true ∧ c = 46
              · obtain ⟨rfl, rfl⟩ := h46
                rw [sendG_dot, sendG_dot, tell_other (by decide), tell_other (by decide), ihr false]
              · rw [sendG_c b _ h13 h10 h46, sendG_c b _ h13 h10 h46, tell_other h34, ihr false]
  exact key l.length l (Nat.le_refl _)
theorem send_tellS (y : Str) : sendS (tellS y) = tellS (sendS y) := by
  unfold sendS tellS sendL
  rw [ofL_list, ofL_list, send_tell]
end Mine
end
section
open PySem PySem.W PyProof.Rows
set_option Elab.async false
set_option maxRecDepth 100000
namespace Mine
/-! sending what is heard, hearing what is sent: what each of the two ways makes of a text's head -/
def shS (b : Bool) (l : List Nat) : List Nat := sendG b (hearL l)
def shY (b : Bool) (l : List Nat) : List Nat := hearL (sendG b l)
def wdL (l : List Nat) : List Nat := tw (pairL l)
theorem hear_head {d : Nat} {r : List Nat} (h : hearL r ≠ []) (h1 : ∀ t, r ≠ 92 :: d :: t) (h2 : ∀ t, r ≠ d :: t) : (hearL r).head? ≠ some d := by
  match r, h, h1, h2 with
  | [], h, _, _ => exact absurd rfl h
  | c :: r, h, h1, h2 =>
    by_cases h34 : c = 34
    · subst h34; rw [hear_mark]; simp
    · by_cases h92 : c = 92
      · subst h92
        cases r with
        | nil => rw [hear_last]; simp
        | cons e r =>
          rw [hear_back]
          intro q
          have : e = d := by simpa using q
          subst this; exact h1 r rfl
      · rw [hear_other h34 h92]
        intro q
        have : c = d := by simpa using q
        subst this; exact h2 r rfl
theorem head_ne_of_nil {d : Nat} {x : List Nat} (h : x = []) : x.head? ≠ some d := by rw [h]; simp
theorem hear_head' {d : Nat} {r : List Nat} (h1 : ∀ t, r ≠ 92 :: d :: t) (h2 : ∀ t, r ≠ d :: t) : (hearL r).head? ≠ some d := by
  by_cases h : hearL r = []
  · exact head_ne_of_nil h
  · exact hear_head h h1 h2
theorem send_back (b : Bool) (r : List Nat) : sendG b (92 :: r) = 92 :: sendG false r := sendG_c b r (by decide) (by decide) (by rintro ⟨_, h⟩; cases h)
section
variable (b : Bool) (r : List Nat)
theorem S_nil : shS b [] = [] := by unfold shS; rw [hear_nil, sendG_nil]
theorem Y_nil : shY b [] = [] := by unfold shY; rw [sendG_nil, hear_nil]
theorem S_last : shS b [92] = [] := by unfold shS; rw [hear_last, sendG_nil]
theorem Y_last : shY b [92] = [] := by unfold shY; rw [send_back, sendG_nil, hear_last]
theorem S_mark : shS b (34 :: r) = [] := by unfold shS; rw [hear_mark, sendG_nil]
theorem Y_mark : shY b (34 :: r) = [] := by unfold shY; rw [send_mark, hear_mark]
theorem S_rf : shS b (13 :: 10 :: r) = 13 :: 10 :: shS true r := by unfold shS; rw [hear_other (by decide) (by decide), hear_other (by decide) (by decide), sendG_rf]
theorem Y_rf : shY b (13 :: 10 :: r) = 13 :: 10 :: shY true r := by unfold shY; rw [sendG_rf, hear_other (by decide) (by decide), hear_other (by decide) (by decide)]
theorem S_rbf : shS b (13 :: 92 :: 10 :: r) = 13 :: 10 :: shS true r := by unfold shS; rw [hear_other (by decide) (by decide), hear_back, sendG_rf]
theorem Y_rbf : shY b (13 :: 92 :: 10 :: r) = 13 :: 10 :: 13 :: 10 :: shY true r := by
  unfold shY
  rw [sendG_r b _ (by decide), send_back, sendG_f, hear_other (c := 13) (by decide) (by decide), hear_other (c := 10) (by decide) (by decide), hear_back, hear_other (c := 10) (by decide) (by decide)]
theorem S_r (h1 : ∀ t, r ≠ 92 :: 10 :: t) (h2 : ∀ t, r ≠ 10 :: t) : shS b (13 :: r) = 13 :: 10 :: shS true r := by
  unfold shS
  rw [hear_other (by decide) (by decide), sendG_r' b (hear_head' h1 h2)]
theorem Y_r (h2 : ∀ t, r ≠ 10 :: t) : shY b (13 :: r) = 13 :: 10 :: shY true r := by
  unfold shY
  have hne : r.head? ≠ some 10 := by
    cases r with
    | nil => simp
    | cons c r => intro q; have : c = 10 := by simpa using q
                  subst this; exact h2 r rfl
  rw [sendG_r' b hne, hear_other (by decide) (by decide), hear_other (by decide) (by decide)]
theorem S_brf : shS b (92 :: 13 :: 10 :: r) = 13 :: 10 :: shS true r := by unfold shS; rw [hear_back, hear_other (by decide) (by decide), sendG_rf]
theorem Y_brf : shY b (92 :: 13 :: 10 :: r) = 13 :: 10 :: shY true r := by unfold shY; rw [send_back, sendG_rf, hear_back, hear_other (by decide) (by decide)]
theorem S_brbf : shS b (92 :: 13 :: 92 :: 10 :: r) = 13 :: 10 :: shS true r := by unfold shS; rw [hear_back, hear_back, sendG_rf]
theorem Y_brbf : shY b (92 :: 13 :: 92 :: 10 :: r) = 13 :: 10 :: 13 :: 10 :: shY true r := by
  unfold shY
  rw [send_back, sendG_r false _ (by decide), send_back, sendG_f, hear_back, hear_other (c := 10) (by decide) (by decide), hear_back, hear_other (c := 10) (by decide) (by decide)]
theorem S_br (h1 : ∀ t, r ≠ 92 :: 10 :: t) (h2 : ∀ t, r ≠ 10 :: t) : shS b (92 :: 13 :: r) = 13 :: 10 :: shS true r := by
  unfold shS
  rw [hear_back, sendG_r' b (hear_head' h1 h2)]
theorem Y_br (h2 : ∀ t, r ≠ 10 :: t) : shY b (92 :: 13 :: r) = 13 :: 10 :: shY true r := by
  unfold shY
  have hne : r.head? ≠ some 10 := by
    cases r with
    | nil => simp
    | cons c r => intro q; have : c = 10 := by simpa using q
                  subst this; exact h2 r rfl
  rw [send_back, sendG_r' false hne, hear_back, hear_other (by decide) (by decide)]
theorem S_f : shS b (10 :: r) = 13 :: 10 :: shS true r := by unfold shS; rw [hear_other (by decide) (by decide), sendG_f]
theorem Y_f : shY b (10 :: r) = 13 :: 10 :: shY true r := by unfold shY; rw [sendG_f, hear_other (by decide) (by decide), hear_other (by decide) (by decide)]
theorem S_bf : shS b (92 :: 10 :: r) = 13 :: 10 :: shS true r := by unfold shS; rw [hear_back, sendG_f]
theorem Y_bf : shY b (92 :: 10 :: r) = 13 :: 10 :: shY true r := by unfold shY; rw [send_back, sendG_f, hear_back, hear_other (by decide) (by decide)]
theorem S_dt : shS true (46 :: r) = 46 :: 46 :: shS false r := by unfold shS; rw [hear_other (by decide) (by decide), sendG_dot]
theorem Y_dt : shY true (46 :: r) = 46 :: 46 :: shY false r := by unfold shY; rw [sendG_dot, hear_other (by decide) (by decide), hear_other (by decide) (by decide)]
theorem S_df : shS false (46 :: r) = 46 :: shS false r := by unfold shS; rw [hear_other (by decide) (by decide), sendG_false _ (by decide) (by decide)]
theorem Y_df : shY false (46 :: r) = 46 :: shY false r := by unfold shY; rw [sendG_false _ (by decide) (by decide), hear_other (by decide) (by decide)]
theorem S_bdt : shS true (92 :: 46 :: r) = 46 :: 46 :: shS false r := by unfold shS; rw [hear_back, sendG_dot]
theorem S_bdf : shS false (92 :: 46 :: r) = 46 :: shS false r := by unfold shS; rw [hear_back, sendG_false _ (by decide) (by decide)]
theorem Y_bd : shY b (92 :: 46 :: r) = 46 :: shY false r := by unfold shY; rw [send_back, sendG_false _ (by decide) (by decide), hear_back]
theorem S_c {c : Nat} (h1 : c ≠ 13) (h2 : c ≠ 10) (h3 : c ≠ 46) (h4 : c ≠ 34) (h5 : c ≠ 92) : shS b (c :: r) = c :: shS false r := by
  unfold shS; rw [hear_other h4 h5, sendG_c b _ h1 h2 fun h => h3 h.2]
theorem Y_c {c : Nat} (h1 : c ≠ 13) (h2 : c ≠ 10) (h3 : c ≠ 46) (h4 : c ≠ 34) (h5 : c ≠ 92) : shY b (c :: r) = c :: shY false r := by
  unfold shY; rw [sendG_c b _ h1 h2 fun h => h3 h.2, hear_other h4 h5]
theorem S_bc {c : Nat} (h1 : c ≠ 13) (h2 : c ≠ 10) (h3 : c ≠ 46) : shS b (92 :: c :: r) = c :: shS false r := by
  unfold shS; rw [hear_back, sendG_c b _ h1 h2 fun h => h3 h.2]
theorem Y_bc {c : Nat} (h1 : c ≠ 13) (h2 : c ≠ 10) : shY b (92 :: c :: r) = c :: shY false r := by
  unfold shY; rw [send_back, sendG_false _ h1 h2, hear_back]
end
end Mine
end
section
open PySem PySem.W PyProof.Rows
set_option Elab.async false
set_option maxRecDepth 100000
namespace Mine
theorem sh_cases {P : List Nat → Prop} (h0 : P []) (h1 : P [92]) (h2 : ∀ r, P (34 :: r)) (h3 : ∀ r, P r → P (13 :: 10 :: r)) (h4 : ∀ r, P r → P (13 :: 92 :: 10 :: r)) (h5 : ∀ r, (∀ t, r ≠ 92 :: 10 :: t) → (∀ t, r ≠ 10 :: t) → P r → P (13 :: r))
    (h6 : ∀ r, P r → P (92 :: 13 :: 10 :: r)) (h7 : ∀ r, P r → P (92 :: 13 :: 92 :: 10 :: r)) (h8 : ∀ r, (∀ t, r ≠ 92 :: 10 :: t) → (∀ t, r ≠ 10 :: t) → P r → P (92 :: 13 :: r)) (h9 : ∀ r, P r → P (10 :: r)) (h10 : ∀ r, P r → P (92 :: 10 :: r))
    (h11 : ∀ r, P r → P (46 :: r)) (h12 : ∀ r, P r → P (92 :: 46 :: r)) (h13 : ∀ c r, c ≠ 13 → c ≠ 10 → c ≠ 46 → c ≠ 34 → c ≠ 92 → P r → P (c :: r)) (h14 : ∀ c r, c ≠ 13 → c ≠ 10 → c ≠ 46 → P r → P (92 :: c :: r)) : ∀ l, P l := by
  have key : ∀ n (l : List Nat), l.length ≤ n → P l := by
    intro n
    induction n with
    | zero => intro l hl; rw [List.length_eq_zero_iff.mp (Nat.le_zero.mp hl)]; exact h0
    | succ n ih =>
      have ret : ∀ (q : List Nat → Prop) (_ : ∀ r, P r → P (13 :: 10 :: r)), True := fun _ _ => trivial
      have cr : ∀ (pre : Nat → List Nat → List Nat), True := fun _ => trivial
      intro l hl
      match l, hl with
      | [], _ => exact h0
      | c :: r, hl =>
        simp only [List.length_cons] at hl
        by_cases e34 : c = 34
        · subst e34; exact h2 r
        · by_cases e13 : c = 13
          · subst e13
            by_cases q1 : ∃ t, r = 10 :: t
            · obtain ⟨t, rfl⟩ := q1; simp only [List.length_cons] at hl; exact h3 t (ih t (by omega))
            · by_cases q2 : ∃ t, r = 92 :: 10 :: t
              · obtain ⟨t, rfl⟩ := q2; simp only [List.length_cons] at hl; exact h4 t (ih t (by omega))
              · exact h5 r (fun t e => q2 ⟨t, e⟩) (fun t e => q1 ⟨t, e⟩) (ih r (by omega))
          · by_cases e10 : c = 10
            · subst e10; exact h9 r (ih r (by omega))
            · by_cases e46 : c = 46
              · subst e46; exact h11 r (ih r (by omega))
              · by_cases e92 : c = 92
                · subst e92
                  cases r with
                  | nil => exact h1
                  | cons d r =>
                    simp only [List.length_cons] at hl
                    by_cases f13 : d = 13
                    · subst f13
                      by_cases q1 : ∃ t, r = 10 :: t
                      · obtain ⟨t, rfl⟩ := q1; simp only [List.length_cons] at hl; exact h6 t (ih t (by omega))
                      · by_cases q2 : ∃ t, r = 92 :: 10 :: t
                        · obtain ⟨t, rfl⟩ := q2; simp only [List.length_cons] at hl; exact h7 t (ih t (by omega))
                        · exact h8 r (fun t e => q2 ⟨t, e⟩) (fun t e => q1 ⟨t, e⟩) (ih r (by omega))
                    · by_cases f10 : d = 10
                      · subst f10; exact h10 r (ih r (by omega))
                      · by_cases f46 : d = 46
                        · subst f46; exact h12 r (ih r (by omega))
                        · exact h14 d r f13 f10 f46 (ih r (by omega))
                · exact h13 c r e13 e10 e46 e34 e92 (ih r (by omega))
  exact fun l => key l.length l (Nat.le_refl _)
theorem dot_ne (r : List Nat) : 46 :: shS false r ≠ shY false r := by
  refine sh_cases (P := fun r => 46 :: shS false r ≠ shY false r) ?_ ?_ ?_ ?_ ?_ ?_ ?_ ?_ ?_ ?_ ?_ ?_ ?_ ?_ ?_ r
  · rw [Y_nil]; simp
  · rw [Y_last]; simp
  · intro r; rw [Y_mark]; simp
  · intro r _; rw [Y_rf]; simp
  · intro r _; rw [Y_rbf]; simp
  · intro r h1 h2 _; rw [Y_r _ _ h2]; simp
  · intro r _; rw [Y_brf]; simp
  · intro r _; rw [Y_brbf]; simp
  · intro r h1 h2 _; rw [Y_br _ _ h2]; simp
  · intro r _; rw [Y_f]; simp
  · intro r _; rw [Y_bf]; simp
  · intro r ih; rw [S_df, Y_df]; simpa using ih
  · intro r ih; rw [S_bdf, Y_bd]; simpa using ih
  · intro c r h1 h2 h3 h4 h5 _; rw [Y_c _ _ h1 h2 h3 h4 h5]; intro e; exact h3 (List.cons.inj e).1.symm
  · intro c r h1 h2 h3 _; rw [Y_bc _ _ h1 h2]; intro e; exact h3 (List.cons.inj e).1.symm
def crs : Nat → List Nat → List Nat
  | 0, x => x
  | k + 1, x => 13 :: 10 :: crs k x
theorem crs_one (k : Nat) (x : List Nat) : crs k (13 :: 10 :: x) = 13 :: 10 :: crs k x := by
  induction k with
  | zero => rfl
  | succ k ih => show 13 :: 10 :: crs k (13 :: 10 :: x) = _; rw [ih]; rfl
theorem crs_ne (r : List Nat) : ∀ k, shS true r ≠ 13 :: 10 :: crs k (shY true r) := by
  refine sh_cases (P := fun r => ∀ k, shS true r ≠ 13 :: 10 :: crs k (shY true r)) ?_ ?_ ?_ ?_ ?_ ?_ ?_ ?_ ?_ ?_ ?_ ?_ ?_ ?_ ?_ r
  · intro k; rw [S_nil]; simp
  · intro k; rw [S_last]; simp
  · intro r k; rw [S_mark]; simp
  · intro r ih k; rw [S_rf, Y_rf, crs_one]; simpa using ih k
  · intro r ih k; rw [S_rbf, Y_rbf, crs_one, crs_one]; have := ih (k + 1); simpa [crs] using this
  · intro r h1 h2 ih k; rw [S_r _ _ h1 h2, Y_r _ _ h2, crs_one]; simpa using ih k
  · intro r ih k; rw [S_brf, Y_brf, crs_one]; simpa using ih k
  · intro r ih k; rw [S_brbf, Y_brbf, crs_one, crs_one]; have := ih (k + 1); simpa [crs] using this
  · intro r h1 h2 ih k; rw [S_br _ _ h1 h2, Y_br _ _ h2, crs_one]; simpa using ih k
  · intro r ih k; rw [S_f, Y_f, crs_one]; simpa using ih k
  · intro r ih k; rw [S_bf, Y_bf, crs_one]; simpa using ih k
  · intro r _ k; rw [S_dt]; simp
  · intro r _ k; rw [S_bdt]; simp
  · intro c r h1 h2 h3 h4 h5 _ k; rw [S_c _ _ h1 h2 h3 h4 h5]; intro e; exact h1 (List.cons.inj e).1
  · intro c r h1 h2 h3 _ k; rw [S_bc _ _ h1 h2 h3]; intro e; exact h1 (List.cons.inj e).1
/-! what the law asks of the word -/
def inf3 : List Nat → Prop
  | [] => False
  | c :: r => (c = 13 ∧ r.take 2 = [92, 10]) ∨ inf3 r
def hb : Bool → List Nat → Prop
  | _, [] => False
  | b, c :: r => (b = true ∧ c = 92 ∧ r.head? = some 46) ∨ hb (decide (c = 13 ∨ c = 10)) r
theorem wd_c {c : Nat} (h1 : c ≠ 92) (h2 : c ≠ 34) (r : List Nat) : wdL (c :: r) = c :: wdL r := by unfold wdL; rw [pair_o h1, tw_other h2]
theorem wd_bo {c : Nat} (h1 : c ≠ 92) (h2 : c ≠ 34) (r : List Nat) : wdL (92 :: c :: r) = 92 :: c :: wdL r := by unfold wdL; rw [pair_bo h1 h2, tw_other (by decide), tw_other h2]
theorem wd_bb (r : List Nat) : wdL (92 :: 92 :: r) = 101 :: wdL r := by unfold wdL; rw [pair_bb, tw_other (by decide)]
theorem wd_bm (r : List Nat) : wdL (92 :: 34 :: r) = 113 :: wdL r := by unfold wdL; rw [pair_bm, tw_other (by decide)]
theorem wd_mark (r : List Nat) : wdL (34 :: r) = [] := by unfold wdL; rw [pair_o (by decide), tw_mark]
theorem wd_take {r : List Nat} (h1 : ∀ t, r ≠ 92 :: 10 :: t) : (wdL r).take 2 ≠ [92, 10] := by
  match r, h1 with
  | [], _ => decide
  | [c], _ =>
    by_cases h92 : c = 92
    · subst h92; decide
    · by_cases h34 : c = 34
      · subst h34; decide
      · rw [wd_c h92 h34]; show [c] ≠ _; simp
  | c :: d :: t, h1 =>
    by_cases h92 : c = 92
    · subst h92
      by_cases d92 : d = 92
      · subst d92; rw [wd_bb]; intro e; have := congrArg List.head? e; simp at this
      · by_cases d34 : d = 34
        · subst d34; rw [wd_bm]; intro e; have := congrArg List.head? e; simp at this
        · rw [wd_bo d92 d34]
          intro e
          have : d = 10 := by simpa using e
          subst this; exact h1 t rfl
    · by_cases h34 : c = 34
      · subst h34; rw [wd_mark]; decide
      · rw [wd_c h92 h34]; intro e; have := congrArg List.head? e; simp at this; exact h92 this
theorem commute_iff (l : List Nat) : ∀ b, shS b l = shY b l ↔ ¬ inf3 (wdL l) ∧ ¬ hb b (wdL l) := by
  refine sh_cases (P := fun l => ∀ b, shS b l = shY b l ↔ ¬ inf3 (wdL l) ∧ ¬ hb b (wdL l)) ?_ ?_ ?_ ?_ ?_ ?_ ?_ ?_ ?_ ?_ ?_ ?_ ?_ ?_ ?_ l
  · intro b; rw [S_nil, Y_nil]; exact ⟨fun _ => ⟨fun h => h, fun h => h⟩, fun _ => rfl⟩
  · intro b; rw [S_last, Y_last]
    refine ⟨fun _ => ⟨?_, ?_⟩, fun _ => rfl⟩ <;> (show ¬ _; unfold wdL; simp [pairL, tw, inf3, hb])
  · intro r b; rw [S_mark, Y_mark, wd_mark]; exact ⟨fun _ => ⟨fun h => h, fun h => h⟩, fun _ => rfl⟩
  · intro r ih b
    rw [S_rf, Y_rf, wd_c (by decide) (by decide), wd_c (by decide) (by decide)]
    have := ih true
    simp [inf3, hb, this]
  · intro r ih b
    rw [S_rbf, Y_rbf, wd_c (by decide) (by decide), wd_bo (by decide) (by decide)]
    have := crs_ne r 0
    simp only [crs] at this
    simp [inf3, this]
  · intro r h1 h2 ih b
    rw [S_r _ _ h1 h2, Y_r _ _ h2, wd_c (by decide) (by decide)]
    have := ih true
    have h3 := wd_take h1
    simp [inf3, hb, this, h3]
  · intro r ih b
    rw [S_brf, Y_brf, wd_bo (by decide) (by decide), wd_c (by decide) (by decide)]
    have := ih true
    simp [inf3, hb, this]
  · intro r ih b
    rw [S_brbf, Y_brbf, wd_bo (by decide) (by decide), wd_bo (by decide) (by decide)]
    have := crs_ne r 0
    simp only [crs] at this
    simp [inf3, this]
  · intro r h1 h2 ih b
    rw [S_br _ _ h1 h2, Y_br _ _ h2, wd_bo (by decide) (by decide)]
    have := ih true
    have h3 := wd_take h1
    simp [inf3, hb, this, h3]
  · intro r ih b
    rw [S_f, Y_f, wd_c (by decide) (by decide)]
    have := ih true
    simp [inf3, hb, this]
  · intro r ih b
    rw [S_bf, Y_bf, wd_bo (by decide) (by decide)]
    have := ih true
    simp [inf3, hb, this]
  · intro r ih b
    rw [wd_c (by decide) (by decide)]
    have := ih false
    cases b with
    | true => rw [S_dt, Y_dt]; simp [inf3, hb, this]
    | false => rw [S_df, Y_df]; simp [inf3, hb, this]
  · intro r ih b
    rw [wd_bo (by decide) (by decide)]
    have := ih false
    cases b with
    | true =>
      rw [S_bdt, Y_bd]
      have := dot_ne r
      simp [inf3, hb, this]
    | false => rw [S_bdf, Y_bd]; simp [inf3, hb, this]
  · intro c r h1 h2 h3 h4 h5 ih b
    rw [S_c _ _ h1 h2 h3 h4 h5, Y_c _ _ h1 h2 h3 h4 h5, wd_c h5 h4]
    have := ih false
    simp [inf3, hb, this, h1, h2, h5]
  · intro c r h1 h2 h3 ih b
    rw [S_bc _ _ h1 h2 h3, Y_bc _ _ h1 h2]
    have := ih false
    by_cases c92 : c = 92
    · subst c92; rw [wd_bb]; simp [inf3, hb, this]
    · by_cases c34 : c = 34
      · subst c34; rw [wd_bm]; simp [inf3, hb, this]
      · rw [wd_bo c92 c34]; simp [inf3, hb, this, h1, h2, h3, c92]
end Mine
end
section
open PySem PySem.W PyProof.Rows
set_option Elab.async false
set_option maxRecDepth 100000
namespace Mine
theorem take2_iff (c : Nat) (p : List Nat) : (c :: p).take 2 = [92, 46] ↔ c = 92 ∧ p.head? = some 46 := by
  cases p with
  | nil => simp
  | cons d q => simp
theorem hb_rows : ∀ w : List Nat, ∃ p t, splitL 10 (rep1 13 [10] w) = p :: t ∧ (hb true w ↔ p.take 2 = [92, 46] ∨ ∃ q ∈ t, q.take 2 = [92, 46]) ∧ (hb false w ↔ ∃ q ∈ t, q.take 2 = [92, 46]) ∧ (p.head? = some 46 ↔ w.head? = some 46)
  | [] => ⟨[], [], rfl, by simp [hb], by simp [hb], by simp⟩
  | c :: r => by
    obtain ⟨p, t, e1, e2, e3, e4⟩ := hb_rows r
    by_cases h : c = 13 ∨ c = 10
    · have es : splitL 10 (rep1 13 [10] (c :: r)) = [] :: (p :: t) := by
        rw [rep1_cons]
        rcases h with rfl | rfl
        · rw [if_pos rfl, List.singleton_append, splitL_hit, e1]
        · rw [if_neg (by decide), List.singleton_append, splitL_hit, e1]
      have hd : decide (c = 13 ∨ c = 10) = true := decide_eq_true h
      have hc : c ≠ 92 := by rcases h with rfl | rfl <;> decide
      have hc2 : c ≠ 46 := by rcases h with rfl | rfl <;> decide
      refine ⟨[], p :: t, es, ?_, ?_, ?_⟩
      · show ((true = true ∧ c = 92 ∧ r.head? = some 46) ∨ hb (decide (c = 13 ∨ c = 10)) r) ↔ _
        rw [hd, e2]; simp [hc]
      · show ((false = true ∧ c = 92 ∧ r.head? = some 46) ∨ hb (decide (c = 13 ∨ c = 10)) r) ↔ _
        rw [hd, e2]; simp
      · simp [hc2]
    · have h13 : c ≠ 13 := fun e => h (.inl e)
      have h10 : c ≠ 10 := fun e => h (.inr e)
      have es : splitL 10 (rep1 13 [10] (c :: r)) = (c :: p) :: t := by
        rw [rep1_cons, if_neg h13, List.singleton_append]
        exact splitL_miss h10 e1
      have hd : decide (c = 13 ∨ c = 10) = false := decide_eq_false h
      refine ⟨c :: p, t, es, ?_, ?_, ?_⟩
      · show ((true = true ∧ c = 92 ∧ r.head? = some 46) ∨ hb (decide (c = 13 ∨ c = 10)) r) ↔ _
        rw [hd, e3, take2_iff, e4]; simp
      · show ((false = true ∧ c = 92 ∧ r.head? = some 46) ∨ hb (decide (c = 13 ∨ c = 10)) r) ↔ _
        rw [hd, e3]; simp
      · simp
/-- the heads of the word's rows, as texts -/
theorem heads_mem (y : Str) : Str.ofString "\\." ∈ (Txt.split (Txt.replace y (Str.ofString "\r") (Str.ofString "\n")) (Str.ofString "\n")).map (fun z => Txt.slice z none (some 2)) ↔ hb true y.cps.toList := by
  obtain ⟨p, t, e1, e2, _, _⟩ := hb_rows y.cps.toList
  have hrep : Txt.replace y (Str.ofString "\r") (Str.ofString "\n") = ofL (rep1 13 [10] y.cps.toList) := by
    refine eq_ofL ?_
    rw [replace_list _ _ _ (by decide +kernel), lit_r, lit_f]
    exact repL_one 13 [10] _
  rw [hrep, lit_f, split_ofL, e1, List.map_map, e2]
  have hs : ∀ q : List Nat, Txt.slice (ofL q) none (some 2) = ofL (q.take 2) := by
    intro q
    by_cases h : 2 ≤ q.length
    · exact slice_to q 2 h
    · have e : q.take 2 = q := List.take_of_length_le (by omega)
      rw [e]
      match q, h with
      | [], _ => exact PySem.Str.ext' (by decide +kernel)
      | [c], _ =>
        rw [slice_sliceText]
        unfold StrLaws.sliceText
        rw [one_len]
        exact if_pos (by decide +kernel)
      | c :: d :: r, h => simp at h
  have lit : Str.ofString "\\." = ofL [92, 46] := by decide +kernel
  rw [lit]
  simp only [List.mem_map, List.mem_cons, Function.comp]
  constructor
  · rintro ⟨q, hq, e⟩
    rw [hs, ofL_inj] at e
    rcases hq with rfl | hq
    · exact .inl e
    · exact .inr ⟨q, hq, e⟩
  · rintro (h | ⟨q, hq, e⟩)
    · exact ⟨p, .inl rfl, by rw [hs, h]⟩
    · exact ⟨q, .inr hq, by rw [hs, e]⟩
end Mine
end
section
open PySem PySem.W PyProof.Rows
set_option Elab.async false
set_option maxRecDepth 100000
namespace Mine
def badP : List Nat → Prop
  | [] => False
  | c :: p => if c = 34 then False else if c = 113 then p.head? = some 34 ∨ p.head? = some 113 else badP p
theorem bad_c {c : Nat} (h1 : c ≠ 34) (h2 : c ≠ 113) (p : List Nat) : badP (c :: p) ↔ badP p := by
  show (if c = 34 then False else if c = 113 then _ else _) ↔ _
  rw [if_neg h1, if_neg h2]
theorem bad_q (p : List Nat) : badP (113 :: p) ↔ (p.head? = some 34 ∨ p.head? = some 113) := Iff.rfl
theorem pair_head34 (r : List Nat) : (pairL r).head? = some 34 ↔ r.head? = some 34 := by
  match r with
  | [] => simp [pairL]
  | [c] => simp [pairL]
  | c :: d :: t =>
    by_cases h : c = 92
    · subst h
      by_cases h1 : d = 92
      · subst h1; rw [pair_bb]; simp
      · by_cases h2 : d = 34
        · subst h2; rw [pair_bm]; simp
        · rw [pair_bo h1 h2]; simp
    · rw [pair_o h]; simp
theorem pair_head113 (r : List Nat) (hr : ∀ c ∈ r, c ≠ 113) : (pairL r).head? = some 113 ↔ ∃ t, r = 92 :: 34 :: t := by
  match r, hr with
  | [], _ => simp [pairL]
  | [c], hr =>
    have := hr c (.head _)
    simp [pairL, this]
  | c :: d :: t, hr =>
    have hc := hr c (.head _)
    by_cases h : c = 92
    · subst h
      by_cases h1 : d = 92
      · subst h1; rw [pair_bb]; simp
      · by_cases h2 : d = 34
        · subst h2; rw [pair_bm]; simp
        · rw [pair_bo h1 h2]; simp [h2]
    · rw [pair_o h]; simp [hc, h]
theorem hear_head34 (r : List Nat) : (hearL r).head? = some 34 ↔ ∃ t, r = 92 :: 34 :: t := by
  match r with
  | [] => simp [hearL]
  | [c] =>
    by_cases h1 : c = 34
    · subst h1; rw [hear_mark]; simp
    · by_cases h2 : c = 92
      · subst h2; rw [hear_last]; simp
      · rw [hear_other h1 h2]; simp [h1]
  | c :: d :: t =>
    by_cases h1 : c = 34
    · subst h1; rw [hear_mark]; simp
    · by_cases h2 : c = 92
      · subst h2; rw [hear_back]; simp
      · rw [hear_other h1 h2]; simp [h1, h2]
theorem hear_tell_iff (l : List Nat) : (∀ c ∈ l, c ≠ 101 ∧ c ≠ 113) → (hearL (tellL l) = tellL (hearL l) ↔ ¬ badP (pairL l)) := by
  refine back_cases (P := fun l => (∀ c ∈ l, c ≠ 101 ∧ c ≠ 113) → (hearL (tellL l) = tellL (hearL l) ↔ ¬ badP (pairL l))) ?_ ?_ ?_ ?_ l
  · intro _; rw [tell_nil, hear_nil, tell_nil]; simp [pairL, badP]
  · intro _; rw [tell_other (by decide), tell_nil, hear_last, tell_nil]; simp [pairL, badP]
  · intro d r ih h
    have hr : ∀ c ∈ r, c ≠ 101 ∧ c ≠ 113 := fun c hc => h c (.tail _ (.tail _ hc))
    have ih' := ih hr
    have hd := h d (.tail _ (.head _))
    rw [tell_other (by decide), hear_back]
    by_cases h34 : d = 34
    · subst h34
      rw [pair_bm, bad_q, pair_head34, pair_head113 r fun c hc => (hr c hc).2]
      by_cases q1 : r.head? = some 34
      · cases r with
        | nil => simp at q1
        | cons e t =>
          have : e = 34 := by simpa using q1
          subst this
          rw [tell_two, hear_back, hear_mark, tell_end]
          simp
      · by_cases q2 : ∃ t, r = 92 :: 34 :: t
        · obtain ⟨t, rfl⟩ := q2
          rw [tell_stop (by decide), hear_last, hear_back, tell_two]
          simp
        · have e1 : tellL (34 :: r) = [] := tell_stop' q1
          have e2 : tellL (34 :: hearL r) = [] := tell_stop' fun q => q2 ((hear_head34 r).mp q)
          rw [e1, e2, hear_last]
          simp [q1, q2]
    · rw [tell_other h34, hear_back, tell_other h34]
      by_cases h92 : d = 92
      · subst h92
        rw [pair_bb, bad_c (by decide) (by decide), ← ih']
        simp
      · rw [pair_bo h92 h34, bad_c (by decide) (by decide), bad_c h34 hd.2, ← ih']
        simp
  · intro c r hc ih h
    have ih' := ih fun c hc => h c (.tail _ hc)
    have hd := h c (.head _)
    rw [pair_o hc]
    by_cases h34 : c = 34
    · subst h34
      rw [hear_mark, tell_nil]
      have e : hearL (tellL (34 :: r)) = [] := by
        rcases tell_head 34 r with q | q
        · cases q2 : tellL (34 :: r) with
          | nil => rfl
          | cons x t =>
            rw [q2] at q
            have : x = 34 := by simpa using q
            subst this; exact hear_mark t
        · rw [q]; rfl
      rw [e]
      simp [badP]
    · rw [tell_other h34, hear_other h34 hc, hear_other h34 hc, tell_other h34, bad_c h34 hd.2, ← ih']
      simp
end Mine
end
section
open PySem PySem.W PyProof.Rows
open PySem.Builtin PySem.Builtin.Str
set_option Elab.async false
set_option maxRecDepth 100000
namespace Mine
theorem Fr_slim {h₀ : Heap} {L : Addr} {h : Heap} {m : Str → Option Value} {l : List (Str × Value)} (F : Fr h₀ L h m) (e : AllAt m l) : ∃ M, Hold (Fr h₀ L h (putAll l M)) := ⟨m, Fr_puts F e⟩
theorem hold_elim {P : Prop} (h : Hold P) : P := h
/-! neither e nor q -/
def NoEq (l : List Nat) : Prop := ∀ c ∈ l, Okc c
def GoodS (y : Str) : Prop := NoEq y.cps.toList
theorem NoEq.tail {c : Nat} {l : List Nat} (h : NoEq (c :: l)) : NoEq l := fun d hd => h d (.tail _ hd)
theorem NoEq.cons {c : Nat} {l : List Nat} (h1 : Okc c) (h : NoEq l) : NoEq (c :: l) := fun d hd => by
  rcases List.mem_cons.mp hd with rfl | hd
  · exact h1
  · exact h d hd
theorem noEq_nil : NoEq [] := fun _ h => by cases h
theorem noEq_tell : ∀ (n : Nat) (l : List Nat), l.length ≤ n → NoEq l → NoEq (tellL l)
  | _, [], _, _ => by rw [tell_nil]; exact noEq_nil
  | 0, _ :: _, h, _ => absurd h (Nat.not_succ_le_zero _)
  | n + 1, c :: r, h, g => by
    simp only [List.length_cons] at h
    by_cases hc : c = 34
    · subst hc
      cases r with
      | nil => rw [tell_end]; exact noEq_nil
      | cons d t =>
        by_cases hd : d = 34
        · subst hd; rw [tell_two]
          exact .cons (by decide) (noEq_tell n t (by simp only [List.length_cons] at h; omega) g.tail.tail)
        · rw [tell_stop hd]; exact noEq_nil
    · rw [tell_other hc]; exact .cons (g c (.head _)) (noEq_tell n r (by omega) g.tail)
theorem noEq_hear (l : List Nat) : NoEq l → NoEq (hearL l) := by
  refine back_cases (P := fun l => NoEq l → NoEq (hearL l)) ?_ ?_ ?_ ?_ l
  · intro _; exact noEq_nil
  · intro _; exact noEq_nil
  · intro d r ih g; rw [hear_back]; exact .cons (g d (.tail _ (.head _))) (ih g.tail.tail)
  · intro c r hc ih g
    by_cases h : c = 34
    · subst h; rw [hear_mark]; exact noEq_nil
    · rw [hear_other h hc]; exact .cons (g c (.head _)) (ih g.tail)
theorem noEq_send (l : List Nat) : ∀ b, NoEq l → NoEq (sendG b l) := by
  refine send_cases (P := fun l => ∀ b, NoEq l → NoEq (sendG b l)) ?_ ?_ ?_ ?_ ?_ ?_ l
  · intro b _; rw [sendG_nil]; exact noEq_nil
  · intro r ih b g; rw [sendG_rf]; exact .cons (by decide) (.cons (by decide) (ih _ g.tail.tail))
  · intro b _; rw [sendG_r1]; exact .cons (by decide) (.cons (by decide) noEq_nil)
  · intro d r hd ih b g; rw [sendG_r b r hd]; exact .cons (by decide) (.cons (by decide) (ih _ g.tail))
  · intro r ih b g; rw [sendG_f]; exact .cons (by decide) (.cons (by decide) (ih _ g.tail))
  · intro c r h1 h2 ih b g
    by_cases h3 : b = true ∧ c = 46
    · obtain ⟨rfl, rfl⟩ := h3; rw [sendG_dot]; exact .cons (by decide) (.cons (by decide) (ih _ g.tail))
    · rw [sendG_c b r h1 h2 h3]; exact .cons (g c (.head _)) (ih _ g.tail)
theorem good_tell {y : Str} (g : GoodS y) : GoodS (tellS y) := by unfold GoodS tellS; rw [ofL_list]; exact noEq_tell _ _ (Nat.le_refl _) g
theorem good_hear {y : Str} (g : GoodS y) : GoodS (hearS y) := by unfold GoodS hearS; rw [ofL_list]; exact noEq_hear _ g
theorem good_send {y : Str} (g : GoodS y) : GoodS (sendS y) := by unfold GoodS sendS sendL; rw [ofL_list]; exact noEq_send _ _ g
theorem heard_good {y : Str} (g : GoodS y) : heardS y = hearS y := heardS_eq y fun c hc => (g c hc).1
/-! sending and reading -/
theorem inf3_iff : ∀ w : List Nat, inf3 w ↔ ∃ k, [13, 92, 10] <+: w.drop k
  | [] => by simp [inf3]
  | c :: r => by
    have ih := inf3_iff r
    show (c = 13 ∧ r.take 2 = [92, 10]) ∨ inf3 r ↔ _
    rw [ih]
    have h0 : [13, 92, 10] <+: (c :: r) ↔ c = 13 ∧ r.take 2 = [92, 10] := by
      rw [List.cons_prefix_cons, List.prefix_iff_eq_take]
      constructor
      · rintro ⟨a, b⟩; exact ⟨a.symm, b.symm⟩
      · rintro ⟨a, b⟩; exact ⟨a.symm, b.symm⟩
    constructor
    · rintro (h | ⟨k, h⟩)
      · exact ⟨0, h0.mpr h⟩
      · exact ⟨k + 1, h⟩
    · rintro ⟨k, h⟩
      cases k with
      | zero => exact .inl (h0.mp h)
      | succ k => exact .inr ⟨k, h⟩
theorem found_inf3 (y : Str) : (!(occurrences y (Str.ofString "\r\\\n") 0 y.length 1).isEmpty) = true ↔ inf3 y.cps.toList := by
  have lit : (Str.ofString "\r\\\n").cps.toList = [13, 92, 10] := by decide +kernel
  rw [StrLaws.found_iff, inf3_iff, ← lit]
  constructor
  · rintro ⟨i, h⟩; exact ⟨i, (at_iff y _ (by decide +kernel) i).mp h⟩
  · rintro ⟨i, h⟩; exact ⟨i, (at_iff y _ (by decide +kernel) i).mpr h⟩
theorem beq_dec {a b : Str} : (a == b) = decide (a = b) := by
  by_cases h : a = b
  · subst h; simp
  · simp [h]
theorem send_hear_bool (T : Str) (l3 : List (Str × Tok)) (e3 : l3.map (fun x => x.1) = (Txt.split (Txt.replace (wordS T) (Str.ofString "\r") (Str.ofString "\n")) (Str.ofString "\n")).map (fun z => Txt.slice z none (some 2))) :
    (hearS (sendS T) == sendS (hearS T)) = ((!(!(occurrences (wordS T) (Str.ofString "\r\\\n") 0 (wordS T).length 1).isEmpty)) && (!((l3.map (fun x => x.1)).any (· == Str.ofString "\\.")))) := by
  have hw : (wordS T).cps.toList = wdL T.cps.toList := by rw [wordS_list, ofL_list]; rfl
  have h1 := found_inf3 (wordS T)
  have h2 := heads_mem (wordS T)
  rw [← e3] at h2
  rw [hw] at h1 h2
  have h3 : ((l3.map (fun x => x.1)).any (· == Str.ofString "\\.")) = true ↔ hb true (wdL T.cps.toList) := by
    rw [← h2, List.any_eq_true]
    constructor
    · rintro ⟨x, hx, e⟩; rw [beq_iff_eq] at e; exact e ▸ hx
    · exact fun h => ⟨_, h, by simp⟩
  have hc := commute_iff T.cps.toList true
  have hcm : hearS (sendS T) = sendS (hearS T) ↔ ¬ inf3 (wdL T.cps.toList) ∧ ¬ hb true (wdL T.cps.toList) := by
    rw [← hc]
    unfold hearS sendS sendL shS shY
    rw [ofL_list, ofL_list, ofL_inj]
    exact eq_comm
  rw [Bool.eq_iff_iff, beq_iff_eq, hcm, ← h1, ← h3]
  generalize (occurrences (wordS T) (Str.ofString "\r\\\n") 0 (wordS T).length 1).isEmpty = a
  generalize (List.map (fun x => x.fst) l3).any (fun x => x == Str.ofString "\\.") = b
  cases a <;> cases b <;> decide
/-! reading and telling -/
def isQ (c : Nat) : Bool := c == 113 || c == 34
theorem badP_iff : ∀ p : List Nat, badP p ↔ ∃ k, (∀ j, j < k → ¬ isQ (p.getD j 0) = true) ∧ p[k]? = some 113 ∧ (p[k + 1]? = some 34 ∨ p[k + 1]? = some 113)
  | [] => by simp [badP]
  | c :: p => by
    have ih := badP_iff p
    by_cases h1 : c = 34
    · subst h1
      constructor
      · intro h; exact absurd h (by simp [badP])
      · rintro ⟨k, a, b, _⟩
        cases k with
        | zero => simp at b
        | succ k => exact absurd rfl (a 0 (by omega))
    · by_cases h2 : c = 113
      · subst h2
        rw [bad_q]
        constructor
        · intro h
          refine ⟨0, fun j hj => absurd hj (by omega), rfl, ?_⟩
          simpa [List.head?_eq_getElem?] using h
        · rintro ⟨k, a, b, d⟩
          cases k with
          | zero => simpa [List.head?_eq_getElem?] using d
          | succ k => exact absurd rfl (a 0 (by omega))
      · rw [bad_c h1 h2, ih]
        constructor
        · rintro ⟨k, a, b, d⟩
          refine ⟨k + 1, fun j hj => ?_, b, d⟩
          cases j with
          | zero => simp [isQ, h1, h2]
          | succ j => exact a j (by omega)
        · rintro ⟨k, a, b, d⟩
          cases k with
          | zero => simp at b; exact absurd b h2
          | succ k => exact ⟨k, fun j hj => a (j + 1) (by omega), b, d⟩
theorem pairedS_list (y : Str) : (pairedS y).cps.toList = pairL y.cps.toList := by
  unfold pairedS
  rw [replace_list _ _ _ (by decide +kernel), replace_list _ _ _ (by decide +kernel)]
  exact pair_list _
theorem slice_one {P : Str} {k : Nat} (hk : k < P.length) : Txt.slice P (some ((k : Int) + 1)) (some ((k : Int) + 2)) = ofL ((P.cps.toList.drop (k + 1)).take 1) := by
  have hl := len_eq P
  have e1 : (k : Int) + 1 = ((k + 1 : Nat) : Int) := by omega
  have e2 : (k : Int) + 2 = ((k + 2 : Nat) : Int) := by omega
  rw [e1, e2]
  by_cases h : k + 2 ≤ P.length
  · have := slice_mid P.cps.toList (k + 1) (k + 2) (by omega) (by omega)
    rw [ofL_toList] at this
    rw [this]
    congr 1
    congr 1
    omega
  · have e : k + 1 = P.length := by omega
    rw [e, List.drop_eq_nil_of_le (by omega)]
    rw [slice_sliceText]
    unfold StrLaws.sliceText
    have hs : strSliceIndices (some ((P.length : Nat) : Int)) (some ((k + 2 : Nat) : Int)) 1 P.length = strSliceIndices (some ((P.length : Nat) : Int)) (some ((P.length : Nat) : Int)) 1 P.length := by
      have a1 : ¬ (((k + 2 : Nat) : Int) < 0) := by omega
      have a2 : ¬ (((P.length : Nat) : Int) < 0) := by omega
      have a3 : min ((k : Int) + 2) (P.length : Int) = (P.length : Int) := by omega
      have a4 : ¬ ((k : Int) + 2 < 0) := by omega
      have a5 : ¬ ((P.length : Int) < 0) := by omega
      simp only [strSliceIndices, e2.symm, a4, a5, if_false, a3, Int.min_self, show (1 : Int) > 0 by decide, if_true]
    have hn : strSliceIndices (some ((P.length : Nat) : Int)) (some ((P.length : Nat) : Int)) 1 P.length = [] := by
      have := StrLaws.strSliceIndices_plain (a := P.length) (b := P.length) (len := P.length) (Nat.le_refl _) (Nat.le_refl _)
      rw [this]; simp
    rw [hs, hn]
    have : ¬ (((1 : Int) == 1 && (([] : List Nat)).length == P.length) = true) := by simp; omega
    rw [if_neg this]; rfl
/-- the marks' first: the first place of a mark or a q -/
theorem first_of {n k : Nat} {r : List Nat} {ok : Nat → Bool} (h : (List.range n).filter ok = k :: r) : k < n ∧ ok k = true ∧ ∀ j, j < k → ok j = false := by
  have h1 : ((List.range n).filter ok).head? = some k := by rw [h]; rfl
  rw [List.head?_filter, List.find?_range_eq_some] at h1
  exact ⟨by simpa using h1.2.1, h1.1, fun j hj => by simpa using h1.2.2 j hj⟩
theorem none_of {n : Nat} {ok : Nat → Bool} (h : (List.range n).filter ok = []) : ∀ j, j < n → ok j = false := by
  intro j hj
  rw [List.filter_eq_nil_iff] at h
  simpa using h j (List.mem_range.mpr hj)
def okP (P : Str) (i : Nat) : Bool := isQ (P.cps.toList.getD i 0)
section
variable {T P : Str}
theorem hear_tell_bool (g : GoodS T) : (hearS (tellS T) == tellS (hearS T)) = true ↔ ¬ badP (pairedS T).cps.toList := by
  rw [beq_iff_eq, pairedS_list, ← hear_tell_iff _ fun c hc => (g c hc).1]
  unfold hearS tellS
  rw [ofL_list, ofL_list, ofL_inj]
theorem bad_none (h : (List.range P.length).filter (okP P) = []) : ¬ badP P.cps.toList := by
  rw [badP_iff]
  rintro ⟨k, _, b, _⟩
  have hk : k < P.cps.toList.length := (List.getElem?_eq_some_iff.mp b).1
  have := none_of h k (by rw [← len_eq]; exact hk)
  unfold okP at this
  rw [List.getD_eq_getElem?_getD, b] at this
  exact absurd this (by decide)
theorem bad_first {k : Nat} {r : List Nat} (h : (List.range P.length).filter (okP P) = k :: r) : badP P.cps.toList ↔ P.cps.toList.getD k 0 = 113 ∧ (P.cps.toList[k + 1]? = some 34 ∨ P.cps.toList[k + 1]? = some 113) := by
  obtain ⟨hk, h1, h2⟩ := first_of h
  rw [← len_eq] at hk
  rw [badP_iff]
  constructor
  · rintro ⟨j, a, b, d⟩
    have e : j = k := by
      rcases Nat.lt_trichotomy j k with q | q | q
      · have := h2 j q
        unfold okP at this
        rw [List.getD_eq_getElem?_getD, b] at this
        exact absurd this (by decide)
      · exact q
      · exact absurd h1 (a k q)
    subst e
    exact ⟨by rw [List.getD_eq_getElem?_getD, b]; rfl, d⟩
  · rintro ⟨a, d⟩
    refine ⟨k, fun j hj => by have := h2 j hj; unfold okP at this; rw [this]; decide, ?_, d⟩
    rw [List.getElem?_eq_getElem hk]
    rw [List.getD_eq_getElem?_getD, List.getElem?_eq_getElem hk] at a
    exact congrArg some a
theorem drop_one_beq {l : List Nat} {k c : Nat} : (ofL ((l.drop k).take 1) == ofL [c]) = true ↔ l[k]? = some c := by
  rw [ofL_beq, beq_iff_eq, ← List.head?_drop]
  cases l.drop k with
  | nil => simp
  | cons d r => simp
theorem tell_none (g : GoodS T) (h : (List.range (pairedS T).length).filter (okP (pairedS T)) = []) : (hearS (tellS T) == tellS (hearS T)) = true := (hear_tell_bool g).mpr (bad_none h)
theorem tell_mark {k : Nat} {r : List Nat} (g : GoodS T) (h : (List.range (pairedS T).length).filter (okP (pairedS T)) = k :: r) (hc : (Txt.item (pairedS T) k == Str.ofString "q") = false) : (hearS (tellS T) == tellS (hearS T)) = true := by
  rw [hear_tell_bool g, bad_first h]
  rintro ⟨a, _⟩
  rw [item_is _ _ (first_of h).1, a] at hc
  exact absurd hc (by decide +kernel)
theorem tell_q {k : Nat} {r : List Nat} (g : GoodS T) (h : (List.range (pairedS T).length).filter (okP (pairedS T)) = k :: r) (hc : (Txt.item (pairedS T) k == Str.ofString "q") = true) :
    (hearS (tellS T) == tellS (hearS T)) = (!(Txt.slice (pairedS T) (some ((k : Int) + 1)) (some ((k : Int) + 2)) == Str.ofString "\"") && !(Txt.slice (pairedS T) (some ((k : Int) + 1)) (some ((k : Int) + 2)) == Str.ofString "q")) := by
  have hk := (first_of h).1
  have ha : (pairedS T).cps.toList.getD k 0 = 113 := by
    rw [item_is _ _ hk, show Str.ofString "q" = ofL [113] by decide +kernel, ofL_beq] at hc
    simpa using hc
  rw [slice_one hk, Bool.eq_iff_iff, hear_tell_bool g, bad_first h, lit_mark, show Str.ofString "q" = ofL [113] by decide +kernel]
  have q1 := drop_one_beq (l := (pairedS T).cps.toList) (k := k + 1) (c := 34)
  have q2 := drop_one_beq (l := (pairedS T).cps.toList) (k := k + 1) (c := 113)
  rw [← q1, ← q2]
  generalize (ofL (List.take 1 (List.drop (k + 1) (pairedS T).cps.toList)) == ofL [34]) = x
  generalize (ofL (List.take 1 (List.drop (k + 1) (pairedS T).cps.toList)) == ofL [113]) = y
  rw [ha]
  cases x <;> cases y <;> decide
end
theorem nums12 (t0 t1 t2 t3 t4 t5 t6 t7 t8 t9 t10 t11 : Tok) : IntsAre [.int 0 t0, .int 1 t1, .int 5 t2, .int 3 t3, .int 0 t4, .int 4 t5, .int 1 t6, .int 0 t7, .int 2 t8, .int 0 t9, .int 2 t10, .int 5 t11] [0, 1, 5, 3, 0, 4, 1, 0, 2, 0, 2, 5] := by
  repeat constructor
theorem gen_toks0 {α : Type} {M : Model} {A : Around} {t : Sem α} {Q : α → Shared → Prop} {E : Value → Shared → Prop} {h : Heap} {g : Array GenState} {d : Drawn} {X : Nat} {o : OsState}
    (k : ∀ tk, wpAny M A t Q E ⟨h, g, d, tk, o⟩) : wpAny M A t Q E ⟨h, g, d, X, o⟩ := k X
theorem q_mark_in {P : Str} {i : Nat} (hi : i < P.length) : (!(occurrences (Str.ofString "q\"") (Txt.item P (0 + (i : Int))) 0 (Str.ofString "q\"").length 1).isEmpty) = okP P i := by
  have e0 : (0 : Int) + (i : Int) = (i : Int) := Int.zero_add _
  rw [e0, item_is P i hi]
  generalize hc : P.cps.toList.getD i 0 = c
  have h := StrLaws.found_one (Str.ofString "q\"") c
  show (!(occurrences (Str.ofString "q\"") ⟨#[c]⟩ 0 (Str.ofString "q\"").length 1).isEmpty) = _
  rw [h, show (Str.ofString "q\"").cps.toList = [113, 34] by decide +kernel]
  unfold okP isQ
  rw [hc]
  by_cases h1 : c = 113
  · subst h1; decide
  · by_cases h2 : c = 34
    · subst h2; decide
    · simp [h1, h2]
end Mine
end
section
open PySem PySem.W PyProof.Rows PySem.Spec
set_option Elab.async false
set_option maxRecDepth 100000
namespace Mine
def OkL (ns : List Str) : Prop := ∀ x ∈ ns, PyData.strOk x = true
theorem okL_nil : OkL [] := fun _ h => by cases h
theorem okL_cons {x : Str} {l : List Str} (h : PyData.strOk x = true) (hl : OkL l) : OkL (x :: l) := fun d hd => by
  rcases List.mem_cons.mp hd with rfl | hd
  · exact h
  · exact hl d hd
theorem strOk_good {x : Str} (g : GoodS x) : PyData.strOk x = true := by
  unfold PyData.strOk
  rw [Array.all_eq_true]
  intro i hi
  have := (g x.cps[i] (by simp)).2
  simpa using this
theorem es_canLayAll0 : ∀ ns : List Str, OkL ns → PyData.canLayAll0 (ns.map PyData.str) = true
  | [], _ => rfl
  | x :: r, g => by simp [PyData.canLayAll0, PyData.canLay0, es_canLayAll0 r fun y hy => g y (.tail _ hy), g x (.head _)]
theorem es_depthAll : ∀ ns : List Str, PyData.depthAll (ns.map PyData.str) = 0
  | [] => rfl
  | _ :: r => by simp [PyData.depthAll, PyData.depth, es_depthAll r]
theorem es_shaped (ns : List Str) (g : OkL ns) : SeqAt.shaped (.list (ns.map PyData.str)) = true := by
  simp [SeqAt.shaped, PyData.canLay0, PyData.depth, es_canLayAll0 ns g, es_depthAll]
theorem es_eqvAll : ∀ ns ms : List Str, PyData.eqvAll (ns.map PyData.str) (ms.map PyData.str) = decide (ns = ms)
  | [], [] => by simp [PyData.eqvAll]
  | [], _ :: _ => by simp [PyData.eqvAll]
  | _ :: _, [] => by simp [PyData.eqvAll]
  | a :: r, b :: t => by
    simp only [List.map_cons, PyData.eqvAll, PyData.eqv, es_eqvAll r t]
    by_cases h : a = b <;> by_cases h' : r = t <;> simp [h, h']
theorem es_eqv (ns ms : List Str) : PyData.eqv (.list (ns.map PyData.str)) (.list (ms.map PyData.str)) = decide (ns = ms) := by
  simp only [PyData.eqv]; exact es_eqvAll ns ms
theorem es_carried : ∀ {vs : List Value} {ns : List Str}, StrsAre vs ns → CarriedAll vs (ns.map PyData.str)
  | _, _, .nil => .nil
  | _, _, .cons _ t r => .cons (.str _ t) (es_carried r)
section
variable {prog : Program} {w : World} {A : Around} {E : Value → Shared → Prop} {s : Shared} {a b : Addr} {xs ys : List Value} {ns ms : List Str} {Q : Value → Shared → Prop}
theorem es_eq (ha : s.heap.IsList a xs.toArray) (hb : s.heap.IsList b ys.toArray) (hi : StrsAre xs ns) (hj : StrsAre ys ms) (g1 : OkL ns) (g2 : OkL ms) (hu : A.units + 64 < cLine) (h : Q (.bool (decide (ns = ms))) s) :
    wpAny (model prog w) A (compareOp .Eq (.ref a) (.ref b)) Q E s :=
  eq_dataH (reads_newData ha (es_carried hi)) (reads_newData hb (es_carried hj)) (es_shaped _ g1) (es_shaped _ g2) hu (by rw [es_eqv]; exact h)
theorem es_ne (ha : s.heap.IsList a xs.toArray) (hb : s.heap.IsList b ys.toArray) (hi : StrsAre xs ns) (hj : StrsAre ys ms) (g1 : OkL ns) (g2 : OkL ms) (hu : A.units + 64 < cLine) (h : Q (.bool (!decide (ns = ms))) s) :
    wpAny (model prog w) A (compareOp .NotEq (.ref a) (.ref b)) Q E s :=
  ne_dataH (reads_newData ha (es_carried hi)) (reads_newData hb (es_carried hj)) (es_shaped _ g1) (es_shaped _ g2) hu (by rw [es_eqv]; exact h)
end
theorem strsAre_vals : ∀ l : List (Str × Tok), StrsAre (strValues l) (l.map fun x => x.1)
  | [] => .nil
  | (x, t) :: r => .cons x t (strsAre_vals r)
theorem rel_strs {g : Nat → Str} : ∀ {l : List Nat} {r : List Value}, Rel2 (fun i v => ∃ t : Tok, v = .str (g i) t) l r → StrsAre r (l.map g)
  | _, _, .nil => .nil
  | _, _, .cons ⟨t, e⟩ h => by subst e; exact .cons _ t (rel_strs h)
theorem good_heard {y : Str} (g : GoodS y) : GoodS (heardS y) := by rw [heard_good g]; exact good_hear g
theorem pair_ok (l : List Nat) : (∀ c ∈ l, c < 1114112) → ∀ c ∈ pairL l, c < 1114112 := by
  refine back_cases (P := fun l => (∀ c ∈ l, c < 1114112) → ∀ c ∈ pairL l, c < 1114112) ?_ ?_ ?_ ?_ l
  · intro _ c hc; cases hc
  · intro g c hc; exact g c hc
  · intro d r ih g
    have ih' := ih fun c hc => g c (.tail _ (.tail _ hc))
    have hd := g d (.tail _ (.head _))
    by_cases h1 : d = 92
    · subst h1; rw [pair_bb]; intro c hc
      rcases List.mem_cons.mp hc with rfl | hc
      · decide
      · exact ih' c hc
    · by_cases h2 : d = 34
      · subst h2; rw [pair_bm]; intro c hc
        rcases List.mem_cons.mp hc with rfl | hc
        · decide
        · exact ih' c hc
      · rw [pair_bo h1 h2]; intro c hc
        rcases List.mem_cons.mp hc with rfl | hc
        · decide
        · rcases List.mem_cons.mp hc with rfl | hc
          · exact hd
          · exact ih' c hc
  · intro c r hc ih g
    have ih' := ih fun c hc => g c (.tail _ hc)
    rw [pair_o hc]; intro d hd
    rcases List.mem_cons.mp hd with rfl | hd
    · exact g _ (.head _)
    · exact ih' d hd
theorem strOk_list {x : Str} (g : ∀ c ∈ x.cps.toList, c < 1114112) : PyData.strOk x = true := by
  unfold PyData.strOk
  rw [Array.all_eq_true]
  intro i hi
  have := g x.cps[i] (by simp)
  simpa using this
/-! what stands behind the first mark -/
def behindL (P : Str) : List Str := match (List.range P.length).filter (okP P) with
  | [] => []
  | k :: _ => if (Txt.item P k == Str.ofString "q") = true then [Txt.slice P (some ((k : Int) + 1)) (some ((k : Int) + 2))] else []
theorem behind_ok {T : Str} (g : GoodS T) : OkL (behindL (pairedS T)) := by
  unfold behindL
  cases h : (List.range (pairedS T).length).filter (okP (pairedS T)) with
  | nil => exact okL_nil
  | cons k r =>
    dsimp only
    split
    · refine okL_cons (strOk_list ?_) okL_nil
      rw [slice_one (first_of h).1, ofL_list, pairedS_list]
      intro c hc
      exact pair_ok _ (fun d hd => (g d hd).2) c (List.mem_of_mem_drop (List.mem_of_mem_take hc))
    · exact okL_nil
theorem behind_nil {P : Str} (h : (List.range P.length).filter (okP P) = []) : behindL P = [] := by unfold behindL; rw [h]
theorem behind_q {P : Str} {k : Nat} {r : List Nat} (h : (List.range P.length).filter (okP P) = k :: r) (hc : (Txt.item P k == Str.ofString "q") = true) : behindL P = [Txt.slice P (some ((k : Int) + 1)) (some ((k : Int) + 2))] := by
  unfold behindL; rw [h]; exact if_pos hc
theorem behind_m {P : Str} {k : Nat} {r : List Nat} (h : (List.range P.length).filter (okP P) = k :: r) (hc : ¬ (Txt.item P k == Str.ofString "q") = true) : behindL P = [] := by
  unfold behindL; rw [h]; exact if_neg hc
theorem behind_bool {T : Str} (g : GoodS T) : (hearS (tellS T) == tellS (hearS T)) = ((!decide (behindL (pairedS T) = [Str.ofString "\""])) && (!decide (behindL (pairedS T) = [Str.ofString "q"]))) := by
  cases h : (List.range (pairedS T).length).filter (okP (pairedS T)) with
  | nil => rw [tell_none g h, behind_nil h]; simp
  | cons k r =>
    by_cases hc : (Txt.item (pairedS T) k == Str.ofString "q") = true
    · rw [tell_q g h hc, behind_q h hc]
      simp only [beq_dec, List.cons.injEq, and_true]
    · rw [tell_mark g h (by simpa using hc), behind_m h hc]; simp
theorem end_one {T : Str} (g : GoodS T) (h : behindL (pairedS T) = [Str.ofString "\""]) : (hearS (tellS T) == tellS (hearS T)) = !decide (behindL (pairedS T) = [Str.ofString "\""]) := by rw [behind_bool g]; simp [h]
theorem end_two {T : Str} (g : GoodS T) (h : ¬ behindL (pairedS T) = [Str.ofString "\""]) : (hearS (tellS T) == tellS (hearS T)) = !decide (behindL (pairedS T) = [Str.ofString "q"]) := by rw [behind_bool g]; simp [h]
theorem first_get {n i : Nat} {ok : Nat → Bool} {k : Int} (h : (List.take 1 (((List.range n).filter ok).map fun i : Nat => (i : Int)))[i]? = some k) : ∃ (k0 : Nat) (r : List Nat), (List.range n).filter ok = k0 :: r ∧ k = (k0 : Int) ∧ k0 < n := by
  cases hF : (List.range n).filter ok with
  | nil => rw [hF] at h; simp at h
  | cons k0 r =>
    rw [hF] at h
    refine ⟨k0, r, rfl, ?_, (first_of hF).1⟩
    cases i with
    | zero => exact (Option.some.inj h).symm
    | succ i => simp at h
def okB (P : Str) (_ : Nat) : Bool := match (List.range P.length).filter (okP P) with
  | [] => false
  | k :: _ => Txt.item P k == Str.ofString "q"
def gB (P : Str) (_ : Nat) : Str := match (List.range P.length).filter (okP P) with
  | [] => Str.empty
  | k :: _ => Txt.slice P (some ((k : Int) + 1)) (some ((k : Int) + 2))
theorem okB_at {P : Str} {k : Nat} {r : List Nat} (i : Nat) (h : (List.range P.length).filter (okP P) = k :: r) : (Txt.item P k == Str.ofString "q") = okB P i := by unfold okB; rw [h]
theorem gB_at {P : Str} {k : Nat} {r : List Nat} (i : Nat) (h : (List.range P.length).filter (okP P) = k :: r) : gB P i = Txt.slice P (some ((k : Int) + 1)) (some ((k : Int) + 2)) := by unfold gB; rw [h]
theorem behind_of {P : Str} {n : Nat} (hn : n = (List.take 1 (((List.range P.length).filter (okP P)).map fun i : Nat => (i : Int))).length) : ((List.range n).filter (okB P)).map (gB P) = behindL P := by
  subst hn
  cases hF : (List.range P.length).filter (okP P) with
  | nil => rw [behind_nil hF]; rfl
  | cons k r =>
    show ((List.range 1).filter (okB P)).map (gB P) = _
    by_cases hc : (Txt.item P k == Str.ofString "q") = true
    · rw [behind_q hF hc]
      have : okB P 0 = true := by rw [← okB_at 0 hF]; exact hc
      rw [show List.range 1 = [0] from rfl, List.filter_cons_of_pos this, List.filter_nil, List.map_cons, List.map_nil, gB_at 0 hF]
    · rw [behind_m hF hc]
      have : ¬ okB P 0 = true := by rw [← okB_at 0 hF]; exact hc
      rw [show List.range 1 = [0] from rfl, List.filter_cons_of_neg this, List.filter_nil, List.map_nil]
section
variable {prog : Program} {w : World} {A : Around} {E : Value → Shared → Prop} {s : Shared} {a b : Addr} {xs ys : List Value} {ns ms : List Str} {Q : Value → Shared → Prop}
theorem ne_str_same {x y : Str} {t u : Tok} (e : x = y) (h : Q (.bool false) s) : wpAny (model prog w) A (compareOp .NotEq (.str x t) (.str y u)) Q E s := ne_str (by subst e; simpa using h)
theorem ne_bool_same {c d : Bool} (e : c = d) (h : Q (.bool false) s) : wpAny (model prog w) A (compareOp .NotEq (.bool c) (.bool d)) Q E s := ne_bool (by subst e; simpa using h)
theorem eq_bool_same {c d : Bool} (e : c = d) (h : Q (.bool true) s) : wpAny (model prog w) A (compareOp .Eq (.bool c) (.bool d)) Q E s := eq_bool (by subst e; simpa using h)
theorem es_ne_same (ha : s.heap.IsList a xs.toArray) (hb : s.heap.IsList b ys.toArray) (hi : StrsAre xs ns) (hj : StrsAre ys ms) (g1 : OkL ns) (e : ns = ms) (hu : A.units + 64 < cLine) (h : Q (.bool false) s) :
    wpAny (model prog w) A (compareOp .NotEq (.ref a) (.ref b)) Q E s := by
  subst e
  exact es_ne ha hb hi hj g1 g1 hu (by simpa using h)
end
end Mine
end
section
open PySem PySem.W PyProof.Rows
set_option Elab.async false
namespace Mine
set_option maxRecDepth 100000 in
set_option maxHeartbeats 8000000 in
open_top hd for PySem.Challenge.rw_rw0018_02
end Mine
end
section
open PySem PySem.W PyProof.Rows
set_option Elab.async false
set_option maxRecDepth 100000
namespace Mine
section
local macro_rules | `(tactic| walk_at "exec While Compare cons nil") => `(tactic| refine hold_intro ?_)
local macro_rules | `(tactic| walk_at "execs cons") => `(tactic| (k_here; (refine gen_toks ?gp ?_); (case gp => k_dflt (first | assumption | exact Nat.succ_pos _ | exact Nat.add_pos_right _ (Nat.succ_pos _) | (dsimp only; omega))); intro tk0 htk0; (with_reducible refine wpAny_execs_cons ?_); try dsimp only))
local macro_rules | `(tactic| walk_at "WTurn") => `(tactic| first | refine wturn_brk ?_ | refine wturn_ret ?_)
local macro_rules | `(tactic| walk_at "call builtin:str.replace") => `(tactic| k_dflt (refine replaceP ?rs ?ru ?rv ?ruv ?ryz ?rx ?rz ?ry ?_; (case rs => first | assumption | exact Nat.succ_pos _); (case ru => exact Nat.ne_of_gt (by first | assumption | exact Nat.succ_pos _)); (case rv => exact Nat.ne_of_gt (by first | assumption | exact Nat.succ_pos _)); (case ruv => exact Nat.ne_of_lt (Nat.lt_succ_self _)); (case ryz => decide +kernel); (case rx => first | assumption | omega); (case rz => decide +kernel); (case ry => decide +kernel); intro t' k' hk' hl'; (first | replace hl' := of_if_t hl' (by decide +kernel) | replace hl' := of_if_f hl' (by decide +kernel)); (try dsimp only)))
variable {prog : Program} {w : World} {p : Program} {loose : List Str} {mean : ExcName → Option Value} {mg mb : Str → Option Value} {news : List (Addr × Obj)}

set_option maxHeartbeats 4000000 in
theorem parse257_fn (x : Str) (t : Tok) (hx : x.length ≤ 1000) (h3 : Txt.slice x none (some 3) = Str.ofString "257") (h5 : Txt.slice x (some 3) (some 5) = Str.ofString " \"") (h55 : 5 ≤ x.length) :
    FnOk prog w (Mine.hd.heap_39 w.params) p loose mean mg mb 87 1 news [.str x t] (fun v => ∃ t, v = .str (ofL (tellL (x.cps.toList.drop 5))) t) := by
  w_on
  intro dp un gd cn cs a ccd cl outer A₀ base h₀ L m s Q E B F X N T hk hd hu hret
  refine wpAny_call ?_
  k_dflt cell_enter
  k_steps
  all_goals try (exfalso; rename (Txt.slice _ _ _ != _) = true => hq; first | (rw [h3] at hq; exact absurd hq (by decide)) | (rw [h5] at hq; exact absurd hq (by decide)))
  refine hold_out ?_
  rename Fr _ _ _ _ => F1
  rename News _ _ _ _ => N1
  rename (0 < _) => htk1
  refine while_inv (fun n m₁ => ∃ (k : Nat) (d : List Nat) (ti td tn0 : Tok), 5 ≤ k ∧ k ≤ x.length ∧ n = x.length - k ∧ (ofL d).length ≤ k ∧ d ++ tellL (x.cps.toList.drop k) = tellL (x.cps.toList.drop 5) ∧
    AllAt m₁ [(Str.ofString "i", .int k ti), (Str.ofString "dirname", .str (ofL d) td), (Str.ofString "n", .int x.length tn0), (Str.ofString "resp", .str x t)]) (x.length - 5) F1 N1 htk1 ?init ?turn
  case init => exact ⟨5, [], _, _, _, Nat.le_refl _, h55, rfl, Nat.zero_le _, rfl, rfl, rfl, rfl, rfl, trivial⟩
  case turn =>
    rintro n m₁ h tk htk ⟨k, d, ti, td, tn0, hk5, hkl, hn, hdl, hde, e1⟩ F₁ N₁
    have F2 := Fr_puts F₁ e1
    dsimp only [putAll] at F2
    clear F₁ F1
    k_steps
    all_goals (try dsimp only)
    · rename (_ == Str.ofString "\"") = true => q1
      rename _ ≤ (k : Int) + 1 => q2
      rename (k : Int) < _ => q0
      rw [show ofL d = ofL (tellL (List.drop 5 x.cps.toList)) by rw [← hde, tell_at1 q0 q1 q2, List.append_nil]]
      exact hret _ _ _ ⟨_, rfl⟩ (by assumption) (by assumption)
    · rename (_ == Str.ofString "\"") = true => q1
      rename ¬ _ ≤ (k : Int) + 1 => q2
      rename (k : Int) < _ => q0
      rename (Txt.item x (_ + 1) != _) = true => q3
      rw [show ofL d = ofL (tellL (List.drop 5 x.cps.toList)) by rw [← hde, tell_at2 q0 q1 q2 q3, List.append_nil]]
      exact hret _ _ _ ⟨_, rfl⟩ (by assumption) (by assumption)
    · rename (_ == Str.ofString "\"") = true => q1
      rename ¬ _ ≤ (k : Int) + 1 => q2
      rename (k : Int) < _ => q0
      rename (Txt.item x (_ + 1) != _) = false => q3
      obtain ⟨q4, q5⟩ := tell_at3 q0 q1 q2 q3
      refine wturn_next (by assumption) (by assumption) (k := x.length - (k + 2)) (by omega) ⟨k + 2, d ++ [34], _, _, _, by omega, by omega, rfl, ?_, ?_, Eq.trans (b := some (.int (k + 1 + 1) _)) rfl (int_eq (by omega)), Eq.trans (b := some (.str (ofL d ++ Txt.item x k) _)) rfl (str_eq (by rw [q5, ofL_append])), rfl, rfl, trivial⟩
      · rw [ofL_length] at hdl ⊢; simp only [List.length_append, List.length_cons, List.length_nil]; omega
      · rw [← hde, q4, List.append_assoc]; rfl
    · rename (_ == Str.ofString "\"") = false => q1
      rename (k : Int) < _ => q0
      obtain ⟨q4, q5⟩ := tell_at4 q0 q1
      refine wturn_next (by assumption) (by assumption) (k := x.length - (k + 1)) (by omega) ⟨k + 1, d ++ [x.cps.toList.getD k 0], _, _, _, by omega, by omega, rfl, ?_, ?_, Eq.trans (b := some (.int (k + 1) _)) rfl (int_eq (by omega)), Eq.trans (b := some (.str (ofL d ++ Txt.item x k) _)) rfl (str_eq (by rw [q5, ofL_append])), rfl, rfl, trivial⟩
      · rw [ofL_length] at hdl ⊢; simp only [List.length_append, List.length_cons, List.length_nil]; omega
      · rw [← hde, q4, List.append_assoc]; rfl
    · rename ¬ (k : Int) < _ => q0
      have hl := len_eq x
      rw [show ofL d = ofL (tellL (List.drop 5 x.cps.toList)) by rw [← hde, List.drop_eq_nil_of_le (by omega), tell_nil, List.append_nil]]
      exact hret _ _ _ ⟨_, rfl⟩ (by assumption) (by assumption)
theorem parse257_tell (y : Str) (t : Tok) (hx : y.length ≤ 900) : FnOk prog w (Mine.hd.heap_39 w.params) p loose mean mg mb 87 1 news [.str (Str.ofString "257 \"" ++ y) t] (StrIs (tellS y) y.length) := by
  have h := parse257_fn (prog := prog) (w := w) (p := p) (loose := loose) (mean := mean) (mg := mg) (mb := mb) (news := news) (Str.ofString "257 \"" ++ y) t (by rw [pre257_len]; omega) (pre257_3 y) (pre257_5 y) (by rw [pre257_len]; omega)
  rw [pre257_drop] at h
  exact fn_mono h fun v ⟨t, e⟩ => ⟨t, e, tellS_len y⟩
end
end Mine
end
section
open PySem PySem.W PyProof.Rows
set_option Elab.async false
set_option maxRecDepth 100000
namespace Mine
section
local macro_rules | `(tactic| walk_at "execs cons") => `(tactic| (k_here; (refine gen_toks ?gp ?_); (case gp => k_dflt (first | assumption | exact Nat.succ_pos _ | exact Nat.add_pos_right _ (Nat.succ_pos _) | (dsimp only; omega))); intro tk0 htk0; (with_reducible refine wpAny_execs_cons ?_); try dsimp only))
local macro_rules | `(tactic| walk_at "WTurn") => `(tactic| first | refine wturn_brk ?_ | refine wturn_ret ?_)
local macro_rules | `(tactic| walk_at "call builtin:str.replace") => `(tactic| k_dflt (refine replaceP ?rs ?ru ?rv ?ruv ?ryz ?rx ?rz ?ry ?_; (case rs => first | assumption | exact Nat.succ_pos _); (case ru => exact Nat.ne_of_gt (by first | assumption | exact Nat.succ_pos _)); (case rv => exact Nat.ne_of_gt (by first | assumption | exact Nat.succ_pos _)); (case ruv => exact Nat.ne_of_lt (Nat.lt_succ_self _)); (case ryz => decide +kernel); (case rx => first | assumption | omega); (case rz => decide +kernel); (case ry => decide +kernel); intro t' k' hk' hl'; (first | replace hl' := of_if_t hl' (by decide +kernel) | replace hl' := of_if_f hl' (by decide +kernel)); (try dsimp only)))
variable {prog : Program} {w : World} {p : Program} {loose : List Str} {mean : ExcName → Option Value} {mg mb : Str → Option Value} {news : List (Addr × Obj)}

local macro_rules | `(tactic| walk_at "call ref") => `(tactic| (k_here; k_dflt (refine' fn_use (parse257_tell _ _ ?kp) ?k1 ?k2 ?k3 ?k4 ?k5 ?kK ?kd ?ku ?_; (case k1 => k_asm); (case k2 => k_asm); (case k3 => k_asm); (case k4 => k_asm); (case k5 => k_asm); (case kK => first | exact rfl | assumption); (case kd => ktr_room); (case ku => ktr_units); k_whole; (case kp => first | assumption | omega)); k_dflt (rintro v' h' tk' ⟨t', rv', rl'⟩ F' N'; subst rv'); (try dsimp only); (try k_fold)))
set_option maxHeartbeats 4000000 in
theorem telling_fn (y : Str) (t : Tok) (hx : y.length ≤ 900) :
    FnOk prog w (Mine.hd.heap_39 w.params) p loose mean mg mb 136 2 news [.str y t] (StrIs (tellS y) y.length) := by
  w_on
  intro dp un gd cn cs a ccd cl outer A₀ base h₀ L m s Q E B F X N T hk hd hu hret
  refine wpAny_call ?_
  k_dflt cell_enter
  k_steps
  all_goals exact hret _ _ _ ⟨_, rfl, tellS_len y⟩ (by assumption) (by assumption)
end
end Mine
end
section
open PySem PySem.W PyProof.Rows
set_option Elab.async false
set_option maxRecDepth 100000
namespace Mine
section
local macro_rules | `(tactic| walk_at "execs cons") => `(tactic| (k_here; (refine gen_toks ?gp ?_); (case gp => k_dflt (first | assumption | exact Nat.succ_pos _ | exact Nat.add_pos_right _ (Nat.succ_pos _) | (dsimp only; omega))); intro tk0 htk0; (with_reducible refine wpAny_execs_cons ?_); try dsimp only))
local macro_rules | `(tactic| walk_at "WTurn") => `(tactic| first | refine wturn_brk ?_ | refine wturn_ret ?_)
local macro_rules | `(tactic| walk_at "call builtin:str.replace") => `(tactic| k_dflt (refine replaceP ?rs ?ru ?rv ?ruv ?ryz ?rx ?rz ?ry ?_; (case rs => first | assumption | exact Nat.succ_pos _); (case ru => exact Nat.ne_of_gt (by first | assumption | exact Nat.succ_pos _)); (case rv => exact Nat.ne_of_gt (by first | assumption | exact Nat.succ_pos _)); (case ruv => exact Nat.ne_of_lt (Nat.lt_succ_self _)); (case ryz => decide +kernel); (case rx => first | assumption | omega); (case rz => decide +kernel); (case ry => decide +kernel); intro t' k' hk' hl'; (first | replace hl' := of_if_t hl' (by decide +kernel) | replace hl' := of_if_f hl' (by decide +kernel)); (try dsimp only)))
variable {prog : Program} {w : World} {p : Program} {loose : List Str} {mean : ExcName → Option Value} {mg mb : Str → Option Value} {news : List (Addr × Obj)}
set_option maxHeartbeats 4000000 in
theorem paired_fn (y : Str) (t : Tok) (hx : y.length ≤ 900) :
    FnOk prog w (Mine.hd.heap_39 w.params) p loose mean mg mb 157 1 news [.str y t] (StrIs (pairedS y) y.length) := by
  w_on
  intro dp un gd cn cs a ccd cl outer A₀ base h₀ L m s Q E B F X N T hk hd hu hret
  refine wpAny_call ?_
  k_dflt cell_enter
  k_steps
  all_goals exact hret _ _ _ ⟨_, rfl, pairedS_len y⟩ (by assumption) (by assumption)
end
end Mine
end
section
open PySem PySem.W PyProof.Rows
set_option Elab.async false
set_option maxRecDepth 100000
namespace Mine
section
local macro_rules | `(tactic| walk_at "execs cons") => `(tactic| (k_here; (refine gen_toks ?gp ?_); (case gp => k_dflt (first | assumption | exact Nat.succ_pos _ | exact Nat.add_pos_right _ (Nat.succ_pos _) | (dsimp only; omega))); intro tk0 htk0; (with_reducible refine wpAny_execs_cons ?_); try dsimp only))
local macro_rules | `(tactic| walk_at "WTurn") => `(tactic| first | refine wturn_brk ?_ | refine wturn_ret ?_)
local macro_rules | `(tactic| walk_at "call builtin:str.replace") => `(tactic| k_dflt (refine replaceP ?rs ?ru ?rv ?ruv ?ryz ?rx ?rz ?ry ?_; (case rs => first | assumption | exact Nat.succ_pos _); (case ru => exact Nat.ne_of_gt (by first | assumption | exact Nat.succ_pos _)); (case rv => exact Nat.ne_of_gt (by first | assumption | exact Nat.succ_pos _)); (case ruv => exact Nat.ne_of_lt (Nat.lt_succ_self _)); (case ryz => decide +kernel); (case rx => first | assumption | omega); (case rz => decide +kernel); (case ry => decide +kernel); intro t' k' hk' hl'; (first | replace hl' := of_if_t hl' (by decide +kernel) | replace hl' := of_if_f hl' (by decide +kernel)); (try dsimp only)))
variable {prog : Program} {w : World} {p : Program} {loose : List Str} {mean : ExcName → Option Value} {mg mb : Str → Option Value} {news : List (Addr × Obj)}
local macro_rules | `(tactic| walk_at "call ref") => `(tactic| (k_here; k_dflt (refine' fn_use (paired_fn _ _ ?kp) ?k1 ?k2 ?k3 ?k4 ?k5 ?kK ?kd ?ku ?_; (case k1 => k_asm); (case k2 => k_asm); (case k3 => k_asm); (case k4 => k_asm); (case k5 => k_asm); (case kK => first | exact rfl | assumption); (case kd => ktr_room); (case ku => ktr_units); k_whole; (case kp => first | assumption | omega)); k_dflt (rintro v' h' tk' ⟨t', rv', rl'⟩ F' N'; subst rv'); (try dsimp only); (try k_fold)))
set_option maxHeartbeats 4000000 in
theorem heard_fn (y : Str) (t : Tok) (hx : y.length ≤ 900) :
    FnOk prog w (Mine.hd.heap_39 w.params) p loose mean mg mb 164 2 news [.str y t] (StrIs (heardS y) y.length) := by
  w_on
  intro dp un gd cn cs a ccd cl outer A₀ base h₀ L m s Q E B F X N T hk hd hu hret
  refine wpAny_call ?_
  k_dflt cell_enter
  k_steps
  rename List.map _ _ = Txt.split _ _ => q1
  rename _[Int.toNat 0]? = some _ => q2
  with_reducible rename (∀ a : Str, a ∈ _ → _ ≤ _) => q3
  have q4 := len_of q3 q2
  have q5 := word_of q1 q2
  subst q5
  k_steps
  all_goals exact hret _ _ _ ⟨_, rfl, by unfold heardS; omega⟩ (by assumption) (by first | assumption | exact news_drop (by assumption) | exact news_drop (news_drop (by assumption)) | exact news_drop (news_drop (news_drop (by assumption))) | exact news_drop (news_drop (news_drop (news_drop (by assumption)))))
end
end Mine
end
section
open PySem PySem.W PyProof.Rows
set_option Elab.async false
set_option maxRecDepth 100000
namespace Mine
section
local macro_rules | `(tactic| walk_at "exec While BoolOp cons nil") => `(tactic| refine hold_intro ?_)
local macro_rules | `(tactic| walk_at "subscriptTail Name Name ref int") => `(tactic| (k_here; k_dflt (refine' strs_item ?l ?a ?b ?c ?d ?_; (case l => exact News.isList (by k_asm) (by k_mem)); (case a => omega); (case b => omega); (case c => omega); (case d => assumption); k_whole); intro z' t' hz' hzl'))
local macro_rules | `(tactic| walk_at "subscriptTail Name BinOp ref int") => `(tactic| (k_here; k_dflt (refine' strs_item ?l ?a ?b ?c ?d ?_; (case l => exact News.isList (by k_asm) (by k_mem)); (case a => omega); (case b => omega); (case c => omega); (case d => assumption); k_whole); intro z' t' hz' hzl'))
local macro_rules | `(tactic| walk_at "execs cons") => `(tactic| (k_here; (refine gen_toks ?gp ?_); (case gp => k_dflt (first | assumption | exact Nat.succ_pos _ | exact Nat.add_pos_right _ (Nat.succ_pos _) | (dsimp only; omega))); intro tk0 htk0; (with_reducible refine wpAny_execs_cons ?_); try dsimp only))
local macro_rules | `(tactic| walk_at "WTurn") => `(tactic| first | refine wturn_brk ?_ | refine wturn_ret ?_)
local macro_rules | `(tactic| walk_at "call builtin:str.replace") => `(tactic| k_dflt (refine replaceP ?rs ?ru ?rv ?ruv ?ryz ?rx ?rz ?ry ?_; (case rs => first | assumption | exact Nat.succ_pos _); (case ru => exact Nat.ne_of_gt (by first | assumption | exact Nat.succ_pos _)); (case rv => exact Nat.ne_of_gt (by first | assumption | exact Nat.succ_pos _)); (case ruv => exact Nat.ne_of_lt (Nat.lt_succ_self _)); (case ryz => decide +kernel); (case rx => first | assumption | omega); (case rz => decide +kernel); (case ry => decide +kernel); intro t' k' hk' hl'; (first | replace hl' := of_if_t hl' (by decide +kernel) | replace hl' := of_if_f hl' (by decide +kernel)); (try dsimp only)))
variable {prog : Program} {w : World} {p : Program} {loose : List Str} {mean : ExcName → Option Value} {mg mb : Str → Option Value} {news : List (Addr × Obj)}

set_option maxHeartbeats 4000000 in
theorem told_fn (y : Str) (t : Tok) (hx : y.length ≤ 900) :
    FnOk prog w (Mine.hd.heap_39 w.params) p loose mean mg mb 150 1 news [.str y t] (StrIs (tellS y) y.length) := by
  w_on
  intro dp un gd cn cs a ccd cl outer A₀ base h₀ L m s Q E B F X N T hk hd hu hret
  refine wpAny_call ?_
  k_dflt cell_enter
  k_steps
  rename List.map _ _ = Txt.split _ _ => q1
  rename _[Int.toNat 0]? = some _ => q2
  with_reducible rename (∀ a : Str, a ∈ _ → _ ≤ _) => q3
  obtain ⟨q4, q5⟩ := strs_len q1
  refine hold_out ?_
  rename Fr _ _ _ _ => F1
  rename News _ _ _ _ => N1
  obtain ⟨vp, hvp, hvp2⟩ := Fr_get F1 (Str.ofString "pieces") rfl
  refine while_inv (fun n m₁ => ∃ (k : Nat) (d : List Nat) (ta td : Tok), 1 ≤ k ∧ n = (Txt.split y (Str.ofString "\"")).length + 1 - k ∧ k ≤ (Txt.split y (Str.ofString "\"")).length + 1 ∧ (ofL d).length ≤ 1000 * k ∧ d ++ toldT ((splitL 34 y.cps.toList).drop k) = tellL y.cps.toList ∧
    AllAt m₁ [(Str.ofString "at", .int k ta), (Str.ofString "name", .str (ofL d) td), (Str.ofString "pieces", vp)]) (Txt.split y (Str.ofString "\"")).length F1 N1 (by assumption) ?init ?turn
  case init =>
    have hz0 := len_of q3 q2
    refine ⟨1, (PySem.Str.cps _).toList, _, _, Nat.le_refl _, by omega, by omega, ?_, told_init q1 q2, rfl, Eq.trans (b := some (.str _ _)) rfl (str_eq (ofL_toList _).symm), hvp2, trivial⟩
    rw [ofL_toList]; omega
  case turn =>
    rintro n m₁ h tk htk ⟨k, d, ta, td, hk1, hn, hkl, hdl, hde, e1⟩ F₁ N₁
    have F2 := Fr_puts F₁ e1
    dsimp only [putAll] at F2
    clear F₁ F1
    subst hvp
    k_steps
    all_goals (try dsimp only)
    · rename (_ == Str.ofString "") = true => p1
      rename (k : Int) + 1 < _ => p2
      with_reducible rename _[(k : Int).toNat]? = some _ => p3
      with_reducible rename _[((k : Int) + 1).toNat]? = some _ => p4
      rename List.map _ _ = Txt.split _ _ => q1
      have p5 := told_step1 q1 p3 p4 p1
      with_reducible rename _ ≤ (ofL d ++ _ ++ _).length ∧ _ => p6
      with_reducible rename _ ≤ (ofL d ++ _).length ∧ _ => p7
      have p8 : (Str.ofString "\"").length = 1 := by decide +kernel
      refine wturn_next (by assumption) (by assumption) (k := (Txt.split y (Str.ofString "\"")).length + 1 - (k + 2)) (by omega) ⟨k + 2, d ++ (34 :: (PySem.Str.cps _).toList), _, _, by omega, rfl, by omega, ?_, ?_, Eq.trans (b := some (.int (k + 2) _)) rfl (int_eq (by omega)), Eq.trans (b := some (.str (ofL d ++ Str.ofString "\"" ++ _) _)) rfl (str_eq (told_cat _ _)), rfl, trivial⟩
      · rw [← told_cat]; omega
      · rw [← hde, p5, List.append_assoc]; rfl
    · rename (_ == Str.ofString "") = false => p1
      rename (k : Int) + 1 < _ => p2
      with_reducible rename _[(k : Int).toNat]? = some _ => p3
      rename List.map _ _ = Txt.split _ _ => q1
      exact hret _ _ _ ⟨_, by rw [tellS, ← hde, told_step2 q1 p3 p2 p1, List.append_nil], tellS_len y⟩ (by assumption) (by first | assumption | exact news_drop (by assumption) | exact news_drop (news_drop (by assumption)) | exact news_drop (news_drop (news_drop (by assumption))) | exact news_drop (news_drop (news_drop (news_drop (by assumption)))))
    · rename ¬ (k : Int) + 1 < _ => p2
      rename List.map _ _ = Txt.split _ _ => q1
      exact hret _ _ _ ⟨_, by rw [tellS, ← hde, told_step3 q1 p2, List.append_nil], tellS_len y⟩ (by assumption) (by first | assumption | exact news_drop (by assumption) | exact news_drop (news_drop (by assumption)) | exact news_drop (news_drop (news_drop (by assumption))) | exact news_drop (news_drop (news_drop (news_drop (by assumption)))))
end
end Mine
end
section
open PySem PySem.W PyProof.Rows
set_option Elab.async false
set_option maxRecDepth 100000
namespace Mine
section
local macro_rules | `(tactic| walk_at "eval ListComp") => `(tactic| (k_here; k_dflt (refine LCg.ListComp_U (F₀ := by k_asm) (by with_unfolding_all rfl) (by decide) (by rfl) (by decide) (by rfl) ?_)))
local macro_rules | `(tactic| walk_at "CompSrc") => `(tactic| refine hold_intro ?_)
local macro_rules | `(tactic| walk_at "CompEnd") => `(tactic| refine hold_intro ?_)
local macro_rules | `(tactic| walk_at "call builtin:str.join") => `(tactic| (k_here; k_dflt (refine' joinP ?l ?ok ?_; (case l => exact News.isList (by k_asm) (by k_mem)); (case ok => assumption)); intro t' k'; (try dsimp only)))
local macro_rules | `(tactic| walk_at "execs cons") => `(tactic| (k_here; (refine gen_toks ?gp ?_); (case gp => k_dflt (first | assumption | exact Nat.succ_pos _ | exact Nat.add_pos_right _ (Nat.succ_pos _) | (dsimp only; omega))); intro tk0 htk0; (with_reducible refine wpAny_execs_cons ?_); try dsimp only))
local macro_rules | `(tactic| walk_at "WTurn") => `(tactic| first | refine wturn_brk ?_ | refine wturn_ret ?_)
local macro_rules | `(tactic| walk_at "call builtin:str.replace") => `(tactic| k_dflt (refine replaceP ?rs ?ru ?rv ?ruv ?ryz ?rx ?rz ?ry ?_; (case rs => first | assumption | exact Nat.succ_pos _); (case ru => exact Nat.ne_of_gt (by first | assumption | exact Nat.succ_pos _)); (case rv => exact Nat.ne_of_gt (by first | assumption | exact Nat.succ_pos _)); (case ruv => exact Nat.ne_of_lt (Nat.lt_succ_self _)); (case ryz => decide +kernel); (case rx => first | assumption | omega); (case rz => decide +kernel); (case ry => decide +kernel); intro t' k' hk' hl'; (first | replace hl' := of_if_t hl' (by decide +kernel) | replace hl' := of_if_f hl' (by decide +kernel)); (try dsimp only)))
variable {prog : Program} {w : World} {p : Program} {loose : List Str} {mean : ExcName → Option Value} {mg mb : Str → Option Value} {news : List (Addr × Obj)}

set_option maxHeartbeats 4000000 in
theorem sent_fn (y : Str) (t : Tok) (hx : y.length ≤ 900) :
    FnOk prog w (Mine.hd.heap_39 w.params) p loose mean mg mb 169 1 news [.str y t] (StrIs (sendS y) (2 * y.length)) := by
  w_on
  intro dp un gd cn cs a ccd cl outer A₀ base h₀ L m s Q E B F X N T hk hd hu hret
  refine wpAny_call ?_
  k_dflt cell_enter
  k_steps
  rename List.map _ _ = Txt.split _ _ => q1
  with_reducible rename (∀ a : Str, a ∈ _ → _ ≤ _) => q3
  have q5 := strs_lenF q1
  have q6 : (normS y).length ≤ y.length := by unfold normS; omega
  refine hold_out ?_
  refine LCg.CompSrc.ledger (by rfl) (by k_asm) (by k_asm) (by k_mem) ?sz ?rest
  case sz =>
    rw [sizeLine_eq]
    simp only [strValues, List.size_toArray, List.length_map]
    omega
  case rest =>
    intro g1
    refine comp_strs dotS (Or.inr ⟨_, by k_mem, rfl, _, rfl⟩) ?turn ?fin
    case turn =>
      intro z tz I oI C oC D m₂ ys h tk E' hz hC hx2 F1 N1 off ne
      have hzl := q3 z hz
      k_steps
      all_goals refine hold_out ?_
      · rename (_ == _) = true => p1
        exact txEnd (by assumption) (by k_asm) (by kcf_all) (by assumption) (Or.inr ⟨_, by k_mem, rfl, _, rfl⟩) (by unfold dotS; rw [if_pos p1])
      · rename (_ == _) = false => p1
        exact txEnd (by assumption) (by k_asm) (by kcf_all) (by assumption) (Or.inr ⟨_, by k_mem, rfl, _, rfl⟩) (by unfold dotS; rw [p1]; rfl)
    case fin =>
      intro l2 e2
      have hok : ((l2.map fun x => x.1).map fun y => y.length).sum + (l2.map fun x => x.1).length * (Str.ofString "\r\n").length ≤ 1000000 := by
        refine join_ok ?_ ?_ (by decide +kernel)
        · rw [e2, List.length_map, List.length_map]; omega
        · intro a ha
          rw [e2] at ha
          obtain ⟨z, hz, rfl⟩ := List.mem_map.mp ha
          have h1 := q3 z hz
          have h2 := dotS_len z
          omega
      unfold LCg.FinE
      intro D h' tk' F1 N1 o1
      dsimp only
      k_steps
      all_goals exact hret _ _ _ ⟨_, by rw [← lawSentS_eq, lawSentS, normS, ← q1, ← e2], sendS_len y⟩ (by assumption) (by first | assumption | exact news_drop (by assumption) | exact news_drop (news_drop (by assumption)) | exact news_drop (news_drop (news_drop (by assumption))) | exact news_drop (news_drop (news_drop (news_drop (by assumption)))))
end
end Mine
end
section
open PySem PySem.W PyProof.Rows
set_option Elab.async false
set_option maxRecDepth 100000
namespace Mine
section
theorem pat1_K {w : World} {h : Heap} (X : ((Mine.hd.heap_39 w.params)).In h) : PatAt h 43 42 R1.code := ⟨⟨_, _, X _ _ (by rfl)⟩, ⟨_, _, X _ _ (by rfl), by decide +kernel⟩⟩
theorem pat2_K {w : World} {h : Heap} (X : ((Mine.hd.heap_39 w.params)).In h) : PatAt h 48 47 R2.code := ⟨⟨_, _, X _ _ (by rfl)⟩, ⟨_, _, X _ _ (by rfl), by decide +kernel⟩⟩
theorem getMethod_pat {M : Model} {A : Around} {E : Value → Shared → Prop} {s : Shared} {h₀ : Heap} {L : Addr} {m : Str → Option Value} {pat ct : Addr} {cd : Array Nat} {pl : Sem Bool} {Q : Value × List Value → Shared → Prop} (F : Fr h₀ L s.heap m) (P : PatAt h₀ pat ct cd)
    (h : Q (.builtin "re.Pattern.sub", [.ref pat]) s) : wpAny M A (getMethod (.ref pat) (PySem.Str.ofString "sub") pl) Q E s := by
  obtain ⟨p, fl, e⟩ := P.o
  exact getMethod_builtin ⟨_, F.keep _ _ e, rfl⟩ plainAttrs_pat slot_sub type_sub (fun a ha => by cases ha; exact ⟨_, F.keep _ _ e, rfl⟩) h
theorem call_pat {prog : Program} {w : World} {A : Around} {E : Value → Shared → Prop} {s : Shared} {h₀ : Heap} {L : Addr} {m : Str → Option Value} {news : List (Addr × Obj)} {pat ct : Addr} {cd : Array Nat} {Fd : Array Nat → Nat → Option (Nat × Nat)} {x z : Str} {t tz : Tok} {Q : Value → Shared → Prop}
    (F : Fr h₀ L s.heap m) (N : News h₀ L s.heap news) (P : PatAt h₀ pat ct cd) (hF : Finder cd Fd) (hx : x.length ≤ 1000000) (hz : z.cps.contains 92 = false) (hfit : (subOut Fd z.cps.toList x.cps x.cps.size 0).length ≤ 1000000)
    (h : ∀ h' t' tk', Fr h₀ L h' m → News h₀ L h' news → Q (.str (ofL (subOut Fd z.cps.toList x.cps x.cps.size 0)) t') ⟨h', s.gens, s.drawn, tk', s.os⟩) :
    wpAny (model prog w) A (call (.builtin "re.Pattern.sub") [.ref pat, .str z tz, .str x t]) Q E s :=
  subCall hF hx (P.keeps F.keep) hz hfit fun h' t' tk' k => h h' t' tk' (F.keeps k) (N.grown k)
theorem call_pat2 {prog : Program} {w : World} {A : Around} {E : Value → Shared → Prop} {s : Shared} {h₀ : Heap} {L : Addr} {m : Str → Option Value} {news : List (Addr × Obj)} {pat ct : Addr} {x : Str} {t tz : Tok} {Q : Value → Shared → Prop}
    (F : Fr h₀ L s.heap m) (N : News h₀ L s.heap news) (P : PatAt h₀ pat ct R2.code) (hx : x.length ≤ 10000)
    (h : ∀ h' t' tk', Fr h₀ L h' m → News h₀ L h' news → Q (.str (ofL (crlf x.cps.toList)) t') ⟨h', s.gens, s.drawn, tk', s.os⟩) :
    wpAny (model prog w) A (call (.builtin "re.Pattern.sub") [.ref pat, .str (Str.ofString "\r\n") tz, .str x t]) Q E s := by
  have e : subOut FR2 (Str.ofString "\r\n").cps.toList x.cps x.cps.size 0 = crlf x.cps.toList := by
    rw [lit_rf]
    exact sub2 x.cps x.cps.size 0 (by omega) (Nat.zero_le _)
  have hl := crlf_len x.cps.toList
  rw [len_eq] at hl
  exact call_pat F N P finder2 (by omega) (by decide +kernel) (by rw [e]; omega) (by rw [e]; exact h)
theorem call_pat1 {prog : Program} {w : World} {A : Around} {E : Value → Shared → Prop} {s : Shared} {h₀ : Heap} {L : Addr} {m : Str → Option Value} {news : List (Addr × Obj)} {pat ct : Addr} {x : Str} {t tz : Tok} {Q : Value → Shared → Prop}
    (F : Fr h₀ L s.heap m) (N : News h₀ L s.heap news) (P : PatAt h₀ pat ct R1.code) (hx : x.length ≤ 10000)
    (h : ∀ h' t' tk', Fr h₀ L h' m → News h₀ L h' news → Q (.str (sendS x) t') ⟨h', s.gens, s.drawn, tk', s.os⟩) :
    wpAny (model prog w) A (call (.builtin "re.Pattern.sub") [.ref pat, .str (Str.ofString "..") tz, .str (ofL (crlf x.cps.toList)) t]) Q E s := by
  have hl := crlf_len x.cps.toList
  rw [len_eq] at hl
  have e : subOut FR1 (Str.ofString "..").cps.toList (ofL (crlf x.cps.toList)).cps (ofL (crlf x.cps.toList)).cps.size 0 = sendL x.cps.toList := by
    rw [show Str.ofString ".." = ofL [46, 46] by decide +kernel]
    have e2 : (ofL (crlf x.cps.toList)).cps.size = (crlf x.cps.toList).length := by simp [ofL]
    rw [e2]
    exact quote_send x.cps.toList
  have hs := sendS_len x
  unfold sendS at hs
  rw [ofL_length] at hs
  exact call_pat F N P finder1 (by rw [ofL_length]; omega) (by decide +kernel) (by rw [e]; omega) (by rw [e]; exact h)
local macro_rules | `(tactic| walk_at "getMethod ref") => `(tactic| (k_here; k_dflt (first
  | (refine' getMethod_pat ?F (pat1_K ?X) ?_; (case F => k_asm); (case X => k_asm); k_whole)
  | (refine' getMethod_pat ?F (pat2_K ?X) ?_; (case F => k_asm); (case X => k_asm); k_whole))))
local macro_rules | `(tactic| walk_at "call builtin:re.Pattern.sub") => `(tactic| (k_here; k_dflt (first
  | (refine' call_pat2 ?F ?N (pat2_K ?X) ?hx ?_; (case F => k_asm); (case N => k_asm); (case X => k_asm); (case hx => omega); k_whole)
  | (refine' call_pat1 ?F ?N (pat1_K ?X) ?hx ?_; (case F => k_asm); (case N => k_asm); (case X => k_asm); (case hx => omega); k_whole)); intro h' t' tk' F' N'; (try dsimp only)))
local macro_rules | `(tactic| walk_at "execs cons") => `(tactic| (k_here; (refine gen_toks ?gp ?_); (case gp => k_dflt (first | assumption | exact Nat.succ_pos _ | exact Nat.add_pos_right _ (Nat.succ_pos _) | (dsimp only; omega))); intro tk0 htk0; (with_reducible refine wpAny_execs_cons ?_); try dsimp only))
local macro_rules | `(tactic| walk_at "WTurn") => `(tactic| first | refine wturn_brk ?_ | refine wturn_ret ?_)
local macro_rules | `(tactic| walk_at "call builtin:str.replace") => `(tactic| k_dflt (refine replaceP ?rs ?ru ?rv ?ruv ?ryz ?rx ?rz ?ry ?_; (case rs => first | assumption | exact Nat.succ_pos _); (case ru => exact Nat.ne_of_gt (by first | assumption | exact Nat.succ_pos _)); (case rv => exact Nat.ne_of_gt (by first | assumption | exact Nat.succ_pos _)); (case ruv => exact Nat.ne_of_lt (Nat.lt_succ_self _)); (case ryz => decide +kernel); (case rx => first | assumption | omega); (case rz => decide +kernel); (case ry => decide +kernel); intro t' k' hk' hl'; (first | replace hl' := of_if_t hl' (by decide +kernel) | replace hl' := of_if_f hl' (by decide +kernel)); (try dsimp only)))
variable {prog : Program} {w : World} {p : Program} {loose : List Str} {mean : ExcName → Option Value} {mg mb : Str → Option Value} {news : List (Addr × Obj)}

set_option maxHeartbeats 4000000 in
theorem quotedata_fn (y : Str) (t : Tok) (hx : y.length ≤ 10000) :
    FnOk prog w (Mine.hd.heap_39 w.params) p loose mean mg mb 55 1 news [.str y t] (StrIs (sendS y) (2 * y.length)) := by
  w_on
  intro dp un gd cn cs a ccd cl outer A₀ base h₀ L m s Q E B F X N T hk hd hu hret
  refine wpAny_call ?_
  k_dflt cell_enter
  k_steps
  all_goals exact hret _ _ _ ⟨_, rfl, sendS_len y⟩ (by assumption) (by assumption)
end
end Mine
end
section
open PySem PySem.W PyProof.Rows
set_option Elab.async false
set_option maxRecDepth 100000
namespace Mine
section
local macro_rules | `(tactic| walk_at "execs cons") => `(tactic| (k_here; (refine gen_toks ?gp ?_); (case gp => k_dflt (first | assumption | exact Nat.succ_pos _ | exact Nat.add_pos_right _ (Nat.succ_pos _) | (dsimp only; omega))); intro tk0 htk0; (with_reducible refine wpAny_execs_cons ?_); try dsimp only))
local macro_rules | `(tactic| walk_at "WTurn") => `(tactic| first | refine wturn_brk ?_ | refine wturn_ret ?_)
local macro_rules | `(tactic| walk_at "call builtin:str.replace") => `(tactic| k_dflt (refine replaceP ?rs ?ru ?rv ?ruv ?ryz ?rx ?rz ?ry ?_; (case rs => first | assumption | exact Nat.succ_pos _); (case ru => exact Nat.ne_of_gt (by first | assumption | exact Nat.succ_pos _)); (case rv => exact Nat.ne_of_gt (by first | assumption | exact Nat.succ_pos _)); (case ruv => exact Nat.ne_of_lt (Nat.lt_succ_self _)); (case ryz => decide +kernel); (case rx => first | assumption | omega); (case rz => decide +kernel); (case ry => decide +kernel); intro t' k' hk' hl'; (first | replace hl' := of_if_t hl' (by decide +kernel) | replace hl' := of_if_f hl' (by decide +kernel)); (try dsimp only)))
variable {prog : Program} {w : World} {p : Program} {loose : List Str} {mean : ExcName → Option Value} {mg mb : Str → Option Value} {news : List (Addr × Obj)}

local macro_rules | `(tactic| k_all) => `(tactic| (first | with_reducible assumption | fail "k_all"))
local macro_rules | `(tactic| walk_at "callWith ref") => `(tactic| (k_here; k_dflt (refine' callWith_F ?k1 ?_; (case k1 => exact FnAt.of (by k_asm) (by k_mem)); k_whole)))
local macro_rules | `(tactic| walk_at "call ref") => `(tactic| refine hold_intro ?_)
set_option maxHeartbeats 4000000 in
theorem readchar (l2 x2 d2 f' l1 x1 d1 D : Addr) (fd : FuncData) (kk : Nat → Tok) (rest : List (Addr × Obj)) (hr : Rd.Ok ⟨125, l2, x2, d2, f', l1, x1, d1, D, fd, w.params, kk, rest⟩)
    {rest0 : List (Addr × Obj)} (hsub : ∀ q ∈ rest0, q ∈ rest) (H : LamOk prog w (Mine.hd.heap_39 w.params) p loose mean mg mb ⟨125, l2, x2, d2, f', l1, x1, d1, D, fd, w.params, kk, rest0⟩)
    (u : List (Str × Tok)) (n : Nat) (ln : Int) (tl : Tok) (A A₀ : Around) (env : Env) (outer : List Env) (base h₀ : Heap) (L : Addr) (m : Str → Option Value) (s : Shared) (R : Result → Shared → Prop)
    (B : Below A₀ base outer h₀) (F : Fr h₀ L s.heap m) (X : ((Mine.hd.heap_39 w.params)).In h₀) (N : News h₀ L s.heap (Rd.led ⟨125, l2, x2, d2, f', l1, x1, d1, D, fd, w.params, kk, rest⟩ u n ln tl)) (T : Top p loose mean mg mb h₀)
    (hA : A.frames = some (env :: outer)) (hf : env.frame = some L) (hke : env.scope.kind = .function) (hd : A.depth + 2 < recursionLimit) (hu : u.length ≤ 1000)
    (hret : ∀ x tx tl' h' tk', popIs u x → Fr h₀ L h' m → News h₀ L h' (Rd.led ⟨125, l2, x2, d2, f', l1, x1, d1, D, fd, w.params, kk, rest⟩ (popU u) (popN u n) (if (x == Str.ofString "\n") = true then ln + 1 else ln) tl') → R (.ok (.ret (.str x tx))) ⟨h', s.gens, s.drawn, tk', s.os⟩) :
    codeAny (model prog w) A (.call (.ref 108) ⟨[.ref x2], []⟩) R s := by
  w_on
  obtain ⟨a1, a2, a3, a4, a5, a6, ht, ht2⟩ := hr
  dsimp only [Rd.led] at N a1 a2 a3 a4 a5 a6 ht ht2
  k_dflt (refine' code_def ?k1 ?k2 ?k3 ?k4 ?k5 ?kA ?kF ?kK ?k6 ?k7 ?k8 ?k9 ?kB ?_ ?c2 ?c3 ?c4 ?c5; (case kA => assumption); (case kF => assumption); (case kK => assumption); (case k1 => k_asm); (case k2 => k_asm); (case k3 => k_asm); (case k4 => k_asm); (case k5 => k_asm); (case k6 => k_is); (case k7 => k_is); (case k8 => ktr_room); (case k9 => first | exact BindsTo.of_eq rfl | exact binds_K (by k_in) rfl (by k_is) rfl rfl rfl); (case c5 => decide); (case kB => exact locs rfl); (case c2 => exact rfl); (case c3 => exact rfl); (case c4 => exact rfl); k_whole; intro g' L' h' FG' F' N' B' X' T'; (try dsimp only); (try k_lift B'); (try k_fold))
  k_steps
  refine hold_out ?_
  refine wpAny_call ?_
  k_dflt (refine' H rest u n ln tl ?lA ?lA0 ?le ?lo ?lb ?lh ?lL ?lm ?ls ?lt ?lR hsub ht ht2 ?l1 ?l2 ?l3 ?l4 ?l5 ?l6 ?l7 ?l8 ?l9 ?l10 ?_)
  (case l1 => k_asm)
  (case l2 => k_asm)
  (case l3 => k_asm)
  (case l4 => k_asm)
  (case l5 => k_asm)
  (case l6 => exact Around.frames_deeper hA)
  (case l7 => exact rfl)
  (case l8 => exact rfl)
  (case l9 => ktr_room)
  (case l10 => assumption)
  k_whole
  intro x tx h' tk' hp F' N'
  dsimp only [Rd.led] at N'
  (try dsimp only)
  k_steps
  · rename (x == _) = true => hx
    rename News h₀ _ _ _ => hN
    exact hret x tx _ _ _ hp (by assumption) (led_pos hx hN)
  · rename (x == _) = false => hx
    rename News h₀ _ _ _ => hN
    exact hret x tx _ _ _ hp (by assumption) (led_neg hx hN)
end
end Mine
end
section
open PySem PySem.W PyProof.Rows
set_option Elab.async false
set_option maxRecDepth 100000
namespace Mine
section
theorem next_read {prog : Program} {w : World} {p : Program} {loose : List Str} {mean : ExcName → Option Value} {mg mb : Str → Option Value} {l2 x2 d2 f' l1 x1 d1 D : Addr} {fd : FuncData} {kk : Nat → Tok} {rest : List (Addr × Obj)} (hr : Rd.Ok ⟨125, l2, x2, d2, f', l1, x1, d1, D, fd, w.params, kk, rest⟩)
    {rest0 : List (Addr × Obj)} (hsub : ∀ q ∈ rest0, q ∈ rest) (H : LamOk prog w (Mine.hd.heap_39 w.params) p loose mean mg mb ⟨125, l2, x2, d2, f', l1, x1, d1, D, fd, w.params, kk, rest0⟩)
    {it q : Addr} {tq : Tok} (hit : ∀ p ∈ Rd.led ⟨125, l2, x2, d2, f', l1, x1, d1, D, fd, w.params, kk, rest⟩ [] 0 0 0, p.1 < it) (qD : @LT.lt Nat _ D q) (qd2 : @LT.lt Nat _ d2 q) (hqi : q < it)
    {u : List (Str × Tok)} {lr : List Nat} (hS : SgOf lr u) {n : Nat} {ln : Int} {tl : Tok} {A A₀ : Around} {env : Env} {outer : List Env} {base h₀ : Heap} {L : Addr} {m : Str → Option Value} {s : Shared} {Q : Option Value → Shared → Prop} {E : Value → Shared → Prop}
    (B : Below A₀ base outer h₀) (F : Fr h₀ L s.heap m) (X : ((Mine.hd.heap_39 w.params)).In h₀) (N : News h₀ L s.heap ((it, ciObj q tq) :: (q, methodObj (.ref 108) (.ref x2)) :: Rd.led ⟨125, l2, x2, d2, f', l1, x1, d1, D, fd, w.params, kk, rest⟩ u n ln tl)) (T : Top p loose mean mg mb h₀)
    (hA : A.frames = some (env :: outer)) (hf : env.frame = some L) (hke : env.scope.kind = .function) (hd : A.depth + 2 < recursionLimit) (hu : u.length ≤ 1000) (hh : A.handled = none)
    (item : ∀ ch lr' tx u' n' tl' h' tk', lr = ch :: lr' → SgOf lr' u' → u'.length ≤ u.length → Fr h₀ L h' m → News h₀ L h' ((it, ciObj q tq) :: (q, methodObj (.ref 108) (.ref x2)) :: Rd.led ⟨125, l2, x2, d2, f', l1, x1, d1, D, fd, w.params, kk, rest⟩ u' n' (if ch = 10 then ln + 1 else ln) tl') → Q (some (.str (ofL [ch]) tx)) ⟨h', s.gens, s.drawn, tk', s.os⟩)
    (stop : ∀ n' tl' h' tk', lr = [] → Fr h₀ L h' m → News h₀ L h' ((it, ciEnd) :: (q, methodObj (.ref 108) (.ref x2)) :: Rd.led ⟨125, l2, x2, d2, f', l1, x1, d1, D, fd, w.params, kk, rest⟩ [] n' ln tl') → Q none ⟨h', s.gens, s.drawn, tk', s.os⟩) :
    wpAny (model prog w) A (pyNext (.ref it)) Q E s := by
  have hitm : ∀ {o : Obj} {l : List (Addr × Obj)}, (∀ p ∈ l, p.1 < it) → ∀ p ∈ l, p.1 ≠ it := fun h p hp => Nat.ne_of_lt (h p hp)
  have ok' : Rd.Ok ⟨125, l2, x2, d2, f', l1, x1, d1, D, fd, w.params, kk, (it, ciObj q tq) :: (q, methodObj (.ref 108) (.ref x2)) :: rest⟩ := by
    obtain ⟨a1, a2, a3, a4, a5, a6, t, t2⟩ := hr
    have iD : D < it := hit (D, sgObj [] 0) (by dsimp only [Rd.led]; k_mem)
    have id2 : @LT.lt Nat _ d2 it := hit (d2, _) (by dsimp only [Rd.led]; exact .tail _ (.head _))
    refine ⟨a1, a2, a3, a4, a5, a6, ?_, ?_⟩
    · intro p hp
      rcases List.mem_cons.mp hp with rfl | hp
      · exact Nat.ne_of_gt iD
      · rcases List.mem_cons.mp hp with rfl | hp
        · exact Nat.ne_of_gt qD
        · exact t p hp
    · intro p hp
      rcases List.mem_cons.mp hp with rfl | hp
      · exact Nat.ne_of_gt id2
      · rcases List.mem_cons.mp hp with rfl | hp
        · exact Nat.ne_of_gt qd2
        · exact t2 p hp
  have ifn : ∃ o fd', ((Mine.hd.heap_39 w.params)).lookup 108 = some o ∧ o.data = .func fd' := ⟨_, _, by rfl, by rfl⟩
  obtain ⟨ob, fdb, hob, hdb⟩ := ifn
  have hne : ∀ (u' : List (Str × Tok)) (n' : Nat) (ln' : Int) (tl' : Tok), ∀ p ∈ ((q, methodObj (.ref 108) (.ref x2)) :: Rd.led ⟨125, l2, x2, d2, f', l1, x1, d1, D, fd, w.params, kk, rest⟩ u' n' ln' tl' : List (Addr × Obj)), p.1 ≠ it := by
    intro u' n' ln' tl' p hp
    rcases List.mem_cons.mp hp with rfl | hp
    · exact Nat.ne_of_lt hqi
    · have : p.1 ∈ ((Rd.led ⟨125, l2, x2, d2, f', l1, x1, d1, D, fd, w.params, kk, rest⟩ [] 0 0 0).map (·.1)) := by
        have e : (Rd.led ⟨125, l2, x2, d2, f', l1, x1, d1, D, fd, w.params, kk, rest⟩ [] 0 0 0).map (·.1) = (Rd.led ⟨125, l2, x2, d2, f', l1, x1, d1, D, fd, w.params, kk, rest⟩ u' n' ln' tl').map (·.1) := rfl
        rw [e]; exact List.mem_map_of_mem hp
      obtain ⟨p2, hp2, e2⟩ := List.mem_map.mp this
      rw [← e2]; exact Nat.ne_of_lt (hit p2 hp2)
  refine next_ci (fa := 108) (self := .ref x2) hh (N _ (.head _)).1 (N _ (.tail _ (.head _))).1 (X.keeps F.keep _ _ hob) hdb (method_call (N _ (.tail _ (.head _))).1 ?_)
  refine readchar l2 x2 d2 f' l1 x1 d1 D fd kk _ ok' (rest0 := rest0) (fun z hz => .tail _ (.tail _ (hsub z hz))) H u n ln tl A.in1 A₀ env outer base h₀ L m s _ B F X (led_in N) T hA hf hke hd hu ?_
  intro x tx tl' h' tk' hp F' N'
  have N2 := led_out (r := ⟨125, l2, x2, d2, f', l1, x1, d1, D, fd, w.params, kk, rest⟩) N'
  refine ⟨x, tx, rfl, (N2 _ (.head _)).1, (N2 _ (.tail _ (.head _))).1, ⟨ob, fdb, X.keeps F'.keep _ _ hob, hdb⟩, fun hx => ?_, fun hx h2 hext hit2 => ?_⟩
  · cases lr with
    | nil =>
      have := hS.nil_inv
      subst this
      have hp' : x = Str.ofString "" := hp
      rw [hp'] at hx
      exact absurd hx (by decide +kernel)
    | cons ch lr' =>
      obtain ⟨t, r, rfl, hS'⟩ := hS.cons_inv
      have hp' : x = ofL [ch] := hp
      subst hp'
      have e := is_feed ch
      have e3 : (if (ofL [ch] == Str.ofString "\n") = true then ln + 1 else ln) = (if ch = 10 then ln + 1 else ln) := by
        rw [e]; simp
      rw [e3] at N2
      exact item ch lr' tx r _ tl' h' tk' rfl hS' (by simp) F' N2
  · cases lr with
    | nil =>
      have := hS.nil_inv
      subst this
      have hp' : x = Str.ofString "" := hp
      subst hp'
      have e3 : (if (Str.ofString "" == Str.ofString "\n") = true then ln + 1 else ln) = ln := by rw [if_neg (by decide +kernel)]
      rw [e3] at N2
      obtain ⟨F4, N4⟩ := extBut_fr F' N2 hext hit2 (hne _ _ _ _)
      exact stop _ tl' h2 tk' rfl F4 N4
    | cons ch lr' =>
      obtain ⟨t, r, rfl, hS'⟩ := hS.cons_inv
      have hp' : x = ofL [ch] := hp
      subst hp'
      rw [is_empty] at hx
      cases hx
end
end Mine
end
section
open PySem PySem.W PyProof.Rows
set_option Elab.async false
set_option maxRecDepth 100000
namespace Mine
section
local macro_rules | `(tactic| walk_at "execs cons") => `(tactic| (k_here; (refine gen_toks ?gp ?_); (case gp => k_dflt (first | assumption | exact Nat.succ_pos _ | exact Nat.add_pos_right _ (Nat.succ_pos _) | (dsimp only; omega))); intro tk0 htk0; (with_reducible refine wpAny_execs_cons ?_); try dsimp only))
local macro_rules | `(tactic| walk_at "WTurn") => `(tactic| first | refine wturn_brk ?_ | refine wturn_ret ?_)
local macro_rules | `(tactic| walk_at "call builtin:str.replace") => `(tactic| k_dflt (refine replaceP ?rs ?ru ?rv ?ruv ?ryz ?rx ?rz ?ry ?_; (case rs => first | assumption | exact Nat.succ_pos _); (case ru => exact Nat.ne_of_gt (by first | assumption | exact Nat.succ_pos _)); (case rv => exact Nat.ne_of_gt (by first | assumption | exact Nat.succ_pos _)); (case ruv => exact Nat.ne_of_lt (Nat.lt_succ_self _)); (case ryz => decide +kernel); (case rx => first | assumption | omega); (case rz => decide +kernel); (case ry => decide +kernel); intro t' k' hk' hl'; (first | replace hl' := of_if_t hl' (by decide +kernel) | replace hl' := of_if_f hl' (by decide +kernel)); (try dsimp only)))
variable {prog : Program} {w : World} {p : Program} {loose : List Str} {mean : ExcName → Option Value} {mg mb : Str → Option Value} {news : List (Addr × Obj)}

local macro_rules | `(tactic| k_all) => `(tactic| (first | with_reducible assumption | k_dflt (refine' tail_ne ?a ?b; (case a => assumption); (case b => (refine leN ?_; (try dsimp only); omega)))))
local macro_rules | `(tactic| walk_at "call ref") => `(tactic| refine hold_intro ?_)
local macro_rules | `(tactic| walk_at "call builtin:iter") => `(tactic| refine hold_intro ?_)
local macro_rules | `(tactic| walk_at "exec For") => `(tactic| refine hold_intro ?_)
local macro_rules | `(tactic| walk_at "pyIter ref") => `(tactic| refine hold_intro ?_)
local macro_rules | `(tactic| walk_at "FTurn") => `(tactic| first | refine fturn_brk ?_ | refine fturn_ret ?_)
def OutJ (r : Rd) (it q : Addr) (tq : Tok) (g : Heap) (L' : Addr) (l0 : List Nat) (ln : Int) (n : Nat) (h : Heap) (m : Str → Option Value) : Prop :=
  ∃ (u : List (Str × Tok)) (c : Nat) (ln1 : Int) (tl1 : Tok) (d : List Nat) (td : Tok), Fr g L' h m ∧ AllAt m [(Str.ofString "token", .str (ofL d) td), (Str.ofString "self", .ref r.x2), (Str.ofString "fiter", .ref it)] ∧
   ((n = 2 ∧ d = [] ∧ SgOf l0 u ∧ ln1 = ln ∧ u.length ≤ 950 ∧ News g L' h ((it, ciObj q tq) :: (q, methodObj (.ref 108) (.ref r.x2)) :: r.led u c ln1 tl1)) ∨
    (n = 1 ∧ d = hearL l0.tail ∧ u = [] ∧ restL l0.tail = [] ∧ ln1 = ln + (l0.count 10 : Nat) ∧ News g L' h ((it, ciEnd) :: (q, methodObj (.ref 108) (.ref r.x2)) :: r.led [] c ln1 tl1)))
def InJ (r : Rd) (it q : Addr) (tq : Tok) (g : Heap) (L' : Addr) (r0 : List Nat) (ln : Int) (n : Nat) (h : Heap) (m : Str → Option Value) : Prop :=
  ∃ (lr : List Nat) (u : List (Str × Tok)) (c : Nat) (ln1 : Int) (tl1 : Tok) (d : List Nat) (td : Tok), n = lr.length ∧ SgOf lr u ∧ u.length ≤ 950 ∧ d ++ hearL lr = hearL r0 ∧ restL lr = restL r0 ∧ ln1 + (lr.count 10 : Nat) = ln + (r0.count 10 : Nat) ∧ (ofL d).length + lr.length ≤ 950 ∧
    Fr g L' h m ∧ AllAt m [(Str.ofString "token", .str (ofL d) td), (Str.ofString "self", .ref r.x2), (Str.ofString "fiter", .ref it)] ∧
    News g L' h ((it, ciObj q tq) :: (q, methodObj (.ref 108) (.ref r.x2)) :: r.led u c ln1 tl1)
set_option maxHeartbeats 4000000 in
theorem gettoken (l2 x2 d2 f' lb x1 d1 D : Addr) (fd : FuncData) (kk : Nat → Tok) (rest : List (Addr × Obj)) (hr : Rd.Ok ⟨125, l2, x2, d2, f', lb, x1, d1, D, fd, w.params, kk, rest⟩)
    {rest0 : List (Addr × Obj)} (hsub : ∀ q ∈ rest0, q ∈ rest) (H : LamOk prog w (Mine.hd.heap_39 w.params) p loose mean mg mb ⟨125, l2, x2, d2, f', lb, x1, d1, D, fd, w.params, kk, rest0⟩)
    (l0 : List Nat) (u : List (Str × Tok)) (hS : SgOf l0 u) (hl0 : l0 = [] ∨ ∃ r, l0 = 34 :: r)
    (n : Nat) (ln : Int) (tl : Tok) (A A₀ : Around) (env : Env) (outer : List Env) (base h₀ : Heap) (L : Addr) (m : Str → Option Value) (s : Shared) (R : Result → Shared → Prop)
    (B : Below A₀ base outer h₀) (F : Fr h₀ L s.heap m) (X : ((Mine.hd.heap_39 w.params)).In h₀) (N : News h₀ L s.heap (Rd.led ⟨125, l2, x2, d2, f', lb, x1, d1, D, fd, w.params, kk, rest⟩ u n ln tl)) (T : Top p loose mean mg mb h₀)
    (hA : A.frames = some (env :: outer)) (hf : env.frame = some L) (hke : env.scope.kind = .function) (hd : A.depth + 5 < recursionLimit) (hu : u.length ≤ 950) (hh : A.handled = none)
    (hret : ∀ tx u' n' ln' tl' h' tk', SgOf (restL l0.tail) u' → ln' + ((restL l0.tail).count 10 : Nat) = ln + (l0.count 10 : Nat) → Fr h₀ L h' m → News h₀ L h' (Rd.led ⟨125, l2, x2, d2, f', lb, x1, d1, D, fd, w.params, kk, rest⟩ u' n' ln' tl') → R (.ok (.ret (.str (ofL (hearL l0.tail)) tx))) ⟨h', s.gens, s.drawn, tk', s.os⟩) :
    codeAny (model prog w) A (.call (.ref 115) ⟨[.ref x2], []⟩) R s := by
  w_on
  have hr0 := hr
  obtain ⟨a1, a2, a3, a4, a5, a6, ht, ht2⟩ := hr
  dsimp only [Rd.led] at N a1 a2 a3 a4 a5 a6 ht ht2
  k_dflt (refine' code_def ?k1 ?k2 ?k3 ?k4 ?k5 ?kA ?kF ?kK ?k6 ?k7 ?k8 ?k9 ?kB ?_ ?c2 ?c3 ?c4 ?c5; (case kA => assumption); (case kF => assumption); (case kK => assumption); (case k1 => k_asm); (case k2 => k_asm); (case k3 => k_asm); (case k4 => k_asm); (case k5 => k_asm); (case k6 => k_is); (case k7 => k_is); (case k8 => ktr_room); (case k9 => first | exact BindsTo.of_eq rfl | exact binds_K (by k_in) rfl (by k_is) rfl rfl rfl); (case c5 => decide); (case kB => exact locs rfl); (case c2 => exact rfl); (case c3 => exact rfl); (case c4 => exact rfl); k_whole; intro g' L' h' FG' F' N' B' X' T'; (try dsimp only); (try k_lift B'); (try k_fold))
  k_steps
  refine hold_out ?_
  refine iter_named ?_
  intro q tq hq htq
  subst hq
  clear htq
  k_dflt (refine' iterK ?F ?N ?q ?_)
  (case F => k_asm)
  (case N => k_asm)
  (case q => k_mem)
  k_whole
  intro it h2 F2 N2 l1
  have hqi : q < it := l1 (q, methodObj (.ref 108) (.ref x2)) (.head _)
  have hit := led_lt (r := ⟨125, l2, x2, d2, f', lb, x1, d1, D, fd, w.params, kk, rest⟩) (u2 := []) (n2 := 0) (ln2 := 0) (tl2 := 0) l1
  have qD : @LT.lt Nat _ D q := by omega
  have qd2 : @LT.lt Nat _ d2 q := by omega
  k_lt l1
  (try dsimp only)
  k_steps
  refine hold_out ?_
  rename Fr _ _ _ _ => F5
  rename News _ _ _ _ => N5
  refine for_inv (.ref it) (OutJ ⟨125, l2, x2, d2, f', lb, x1, d1, D, fd, w.params, kk, rest⟩ it q tq g' L' l0 ln) 2 ?start ?turn
  case start =>
    k_steps
    refine hold_out ?_
    refine pyIter_ci (N5 _ (.head _)).1 ?_
    exact ⟨rfl, _, _, _, rfl, by assumption, u, _, ln, _, [], _, by assumption, ⟨Eq.trans (b := some (.str _ _)) rfl (str_eq (by decide +kernel)), rfl, rfl, trivial⟩, .inl ⟨rfl, rfl, hS, rfl, hu, N5⟩⟩
  case turn =>
    clear F5 N5
    rintro n m h tk htk ⟨u1, c1, ln1, tl1, d, td, F3, e1, ⟨rfl, rfl, hS1, rfl, hu1, N3⟩ | ⟨rfl, rfl, rfl, hrest, hln, N3⟩⟩
    · have F6 := Fr_puts F3 e1
      dsimp only [putAll] at F6
      refine next_read hr0 hsub H hit qD qd2 hqi hS1 (A := A.deeper _) B' F6 X' N3 T' (Around.frames_deeper hA) rfl rfl (by ktr_room) (by omega) hh ?item ?stop
      case stop =>
        rintro n' tl' h3 tk' rfl F4 N4
        clear F3 F6 N3
        dsimp only
        k_steps
        exact hret _ [] _ ln1 _ _ _ rfl (by simp [restL]) (by assumption) (news_drop (news_drop (by assumption)))
      case item =>
        rintro ch lr' tx u' n' tl' h3 tk' hlr hS' hu' F4 N4
        rcases hl0 with rfl | ⟨r0, rfl⟩
        · cases hlr
        · cases hlr
          clear F3 F6 N3
          dsimp only
          rw [show ofL [34] = Str.ofString "\"" by decide +kernel]
          rw [if_neg (by decide)] at N4
          dsimp only [Rd.led] at N4
          k_steps
          all_goals try (exfalso; rename List.isEmpty _ = false => hw; exact absurd hw (by decide +kernel))
          refine hold_out ?_
          rename Fr _ _ _ _ => F7
          rename News _ _ _ _ => N7
          refine for_inv (.ref it) (InJ ⟨125, l2, x2, d2, f', lb, x1, d1, D, fd, w.params, kk, rest⟩ it q tq g' L' lr' ln1) lr'.length ?start ?turn
          case start =>
            k_steps
            refine hold_out ?_
            refine pyIter_ci (N7 _ (.head _)).1 ?_
            refine ⟨rfl, _, _, _, rfl, by assumption, lr', u', _, ln1, _, [], _, rfl, hS', by omega, rfl, rfl, rfl, ?_, by assumption, ⟨rfl, rfl, rfl, trivial⟩, N7⟩
            have := hS'.length
            show 0 + lr'.length ≤ 950
            omega
          case turn =>
            clear F7 N7 e1
            rintro n m h tk htk ⟨lr, u2, c2, ln2, tl2, d, td2, hn, hS2, hu2, hde, hre, hce, hdl, F3, e1, N3⟩
            have F6 := Fr_puts F3 e1
            dsimp only [putAll] at F6
            refine next_read hr0 hsub H hit qD qd2 hqi hS2 (A := A.deeper _) B' F6 X' N3 T' (Around.frames_deeper hA) rfl rfl (by ktr_room) (by omega) hh ?item ?stop
            case stop =>
              rintro n' tl' h3 tk' rfl F4 N4
              clear F3 F6 N3
              dsimp only
              k_steps
              refine fturn_next (k := 1) (by omega) ⟨[], n', ln2, tl', d, td2, by assumption, ⟨rfl, rfl, rfl, trivial⟩, .inr ⟨rfl, ?_, rfl, ?_, ?_, N4⟩⟩
              · rw [hear_nil, List.append_nil] at hde; exact hde
              · exact hre.symm
              · have e3 := count_cons 34 lr'
                rw [if_neg (by decide)] at e3
                simp only [List.count_nil] at hce
                omega
            case item =>
              rintro ch lr3 tx3 u3 n3 tl3 h3 tk3 rfl hS3 hu3 F4 N4
              have e3 := count_cons ch lr3
              have hd1 := one_len ch
              have e6 : (if ch = 10 then ln2 + 1 else ln2) = ln2 + if ch = 10 then 1 else 0 := by
                by_cases h : ch = 10 <;> simp [h]
              rw [e6] at N4
              clear F3 F6 N3 e6
              dsimp only [Rd.led] at N4
              dsimp only
              k_steps
              · rename (_ == Str.ofString "\"") = true => hm
                rw [is_mark, beq_iff_eq] at hm
                subst hm
                rw [hear_mark, List.append_nil] at hde
                rw [rest_mark] at hre
                have e4 := count_cons 34 lr'
                subst hde
                rename News h₀ _ _ _ => N11
                refine hret _ u3 n3 _ tl3 _ _ ?_ ?_ (by assumption) (news_drop (news_drop N11))
                · rw [List.tail_cons, ← hre]; exact hS3
                · rw [List.tail_cons, ← hre]; omega
              · rename (_ == Str.ofString "\\") = true => hm
                rw [is_back, beq_iff_eq] at hm
                subst hm
                rename Fr _ _ _ _ => F8
                rename News _ _ _ _ => N8
                refine hold_out ?_
                refine wpAny_call (show codeAny _ _ (.call (.ref 108) ⟨[.ref x2], []⟩) _ _ from ?_)
                refine readchar l2 x2 d2 f' lb x1 d1 D fd kk _ (Rd.Ok.ext hr0 (it := it) (q := q) (by dsimp only; omega) (by dsimp only; omega) qD qd2) (fun z hz => .tail _ (.tail _ (hsub z hz))) H u3 n3 _ tl3 (A.deeper _) _ _ _ _ _ _ _ _ _ B' F8 X' (led_in (r := ⟨125, l2, x2, d2, f', lb, x1, d1, D, fd, w.params, kk, rest⟩) N8) T' (Around.frames_deeper hA) rfl rfl (by ktr_room) (by omega) ?_
                intro x4 tx4 tl4 h4 tk4 hp F9 N9
                have N10 := led_out (r := ⟨125, l2, x2, d2, f', lb, x1, d1, D, fd, w.params, kk, rest⟩) N9
                clear F8 N8 N9
                have e9 := hear_last
                have e10 := hS3.length
                cases lr3 with
                | nil =>
                  have hu := hS3.nil_inv
                  subst hu
                  have hp' : x4 = Str.ofString "" := hp
                  subst hp'
                  rw [if_neg (show ¬ ((Str.ofString "" == Str.ofString "\n") = true) by rw [empty_feed]; decide)] at N10
                  dsimp only [Rd.led] at N10
                  have hd2 : (Str.ofString "").length = 0 := by decide +kernel
                  dsimp only
                  k_steps
                  rename News _ _ _ _ => N11
                  rw [hear_last] at hde
                  refine fturn_next (k := 0) (by rw [hn]; simp) ⟨[], [], _, _, tl4, d, _, rfl, rfl, by simp, hde, hre, ?_, ?_, by assumption, ⟨Eq.trans (b := some (.str (ofL d ++ Str.ofString "") _)) rfl (str_eq (cat_empty d)), rfl, rfl, trivial⟩, N11⟩
                  · simp only [List.count_nil] at e3 hce ⊢; omega
                  · simp only [List.length_cons, List.length_nil] at hdl ⊢; omega
                | cons c lr4 =>
                  obtain ⟨t5, u5, rfl, hS5⟩ := hS3.cons_inv
                  have hp' : x4 = ofL [c] := hp
                  subst hp'
                  have e5 := count_cons c lr4
                  rw [is_feed] at N10
                  have e6 : ∀ z : Int, (if (c == 10) = true then z + 1 else z) = z + if c = 10 then 1 else 0 := by
                    intro z
                    by_cases h : c = 10 <;> simp [h]
                  rw [e6] at N10
                  dsimp only [Rd.led, popU] at N10
                  have hd2 := one_len c
                  simp only [List.length_cons] at hdl hu3 hn
                  dsimp only
                  k_steps
                  rename News _ _ _ _ => N11
                  rw [hear_back] at hde
                  rw [rest_back] at hre
                  refine fturn_next (k := lr4.length) (by omega) ⟨lr4, u5, _, _, tl4, d ++ [c], _, rfl, hS5, by omega, ?_, hre, ?_, ?_, by assumption, ⟨Eq.trans (b := some (.str (ofL d ++ ofL [c]) _)) rfl (str_eq (ofL_append _ _)), rfl, rfl, trivial⟩, N11⟩
                  · rw [← hde, List.append_assoc]; rfl
                  · omega
                  · rw [ofL_length] at hdl ⊢; rw [List.length_append]; simp only [List.length_cons, List.length_nil]; omega
              · rename (_ == Str.ofString "\"") = false => hm1
                rename (_ == Str.ofString "\\") = false => hm2
                rw [is_mark] at hm1
                rw [is_back] at hm2
                have hm1' : ch ≠ 34 := by simpa using hm1
                have hm2' : ch ≠ 92 := by simpa using hm2
                rename News _ _ _ _ => N11
                rw [hear_other hm1' hm2'] at hde
                rw [rest_other hm1' hm2'] at hre
                simp only [List.length_cons] at hdl hn
                refine fturn_next (k := lr3.length) (by omega) ⟨lr3, u3, _, _, tl3, d ++ [ch], _, rfl, hS3, by omega, ?_, hre, ?_, ?_, by assumption, ⟨Eq.trans (b := some (.str (ofL d ++ ofL [ch]) _)) rfl (str_eq (ofL_append _ _)), rfl, rfl, trivial⟩, N11⟩
                · rw [← hde, List.append_assoc]; rfl
                · omega
                · rw [ofL_length] at hdl ⊢; rw [List.length_append]; simp only [List.length_cons, List.length_nil]; omega
    · refine next_ci_end hh (N3 _ (.head _)).1 fun h3 hx hi3 => ?_
      obtain ⟨F4, N4⟩ := extBut_fr F3 N3 hx hi3 (led_ne hit hqi)
      have F6 := Fr_puts F4 e1
      dsimp only [putAll] at F6
      clear F3 F4 N3
      dsimp only
      k_steps
      exact hret td [] _ _ _ _ _ (by rw [hrest]; rfl) (by rw [hrest]; simp; omega) (by assumption) (news_drop (news_drop (by assumption)))
theorem call_token {prog : Program} {w : World} {p : Program} {loose : List Str} {mean : ExcName → Option Value} {mg mb : Str → Option Value} {l2 x2 d2 f' lb x1 d1 D c' D0 cc tb : Addr} {fd : FuncData} {oc oD0 o0 otb : Obj} {news : List (Addr × Obj)} {t0 t1 t2 t3 t4 t5 t6 t7 t8 t9 t10 t11 tl : Tok}
    {l0 : List Nat} {u : List (Str × Tok)} {n : Nat} {ln : Int} {A A₀ : Around} {env : Env} {outer : List Env} {base h₀ : Heap} {L : Addr} {m : Str → Option Value} {s : Shared} {Q E : Value → Shared → Prop}
    (N : News h₀ L s.heap ((l2, listOf #[] 0) :: (x2, instObj 125 d2) :: (d2, dictOf [⟨PyData.keyHash w.params (Str.ofString "lineno"), .str (Str.ofString "lineno") t0, .int ln tl⟩, ⟨PyData.keyHash w.params (Str.ofString "instream"), .str (Str.ofString "instream") t1, .ref x1⟩,
    ⟨PyData.keyHash w.params (Str.ofString "whitespace"), .str (Str.ofString "whitespace") t2, .str wsT t3⟩, ⟨PyData.keyHash w.params (Str.ofString "pushback"), .str (Str.ofString "pushback") t4, .ref l2⟩] 4) ::
      (f', (⟨.type "function", none, .func fd, #[]⟩ : Obj)) :: (c', oc) :: (lb, listOf #[] 0) :: (x1, instObj 125 d1) ::
      (d1, dictOf [⟨PyData.keyHash w.params (Str.ofString "lineno"), .str (Str.ofString "lineno") t5, .int 1 t6⟩, ⟨PyData.keyHash w.params (Str.ofString "instream"), .str (Str.ofString "instream") t7, .none⟩,
    ⟨PyData.keyHash w.params (Str.ofString "whitespace"), .str (Str.ofString "whitespace") t8, .str wsT t9⟩, ⟨PyData.keyHash w.params (Str.ofString "pushback"), .str (Str.ofString "pushback") t10, .ref lb⟩, ⟨PyData.keyHash w.params (Str.ofString "read"), .str (Str.ofString "read") t11, .ref f'⟩] 5) ::
      (D, sgObj u n) :: (D0, oD0) :: (cc, o0) :: (tb, otb) :: news))
    (hr : Rd.Ok ⟨125, l2, x2, d2, f', lb, x1, d1, D, fd, w.params, toks12 t0 t1 t2 t3 t4 t5 t6 t7 t8 t9 t10 t11, (c', oc) :: (lb, listOf #[] 0) :: (D0, oD0) :: (cc, o0) :: (tb, otb) :: news⟩)
    (H : LamOk prog w (Mine.hd.heap_39 w.params) p loose mean mg mb ⟨125, l2, x2, d2, f', lb, x1, d1, D, fd, w.params, toks12 t0 t1 t2 t3 t4 t5 t6 t7 t8 t9 t10 t11, (c', oc) :: (lb, listOf #[] 0) :: (D0, oD0) :: (cc, o0) :: (tb, otb) :: news⟩)
    (hS : SgOf l0 u) (hl0 : l0 = [] ∨ ∃ r, l0 = 34 :: r)
    (B : Below A₀ base outer h₀) (F : Fr h₀ L s.heap m) (X : ((Mine.hd.heap_39 w.params)).In h₀) (T : Top p loose mean mg mb h₀)
    (hA : A.frames = some (env :: outer)) (hf : env.frame = some L) (hke : env.scope.kind = .function) (hd : A.depth + 5 < recursionLimit) (hu : u.length ≤ 950) (hh : A.handled = none)
    (hret : ∀ tx h' tk', Fr h₀ L h' m → News h₀ L h' ((c', oc) :: (tb, otb) :: news) → Q (.str (ofL (hearL l0.tail)) tx) ⟨h', s.gens, s.drawn, tk', s.os⟩) :
    wpAny (model prog w) A (call (.ref 115) [.ref x2]) Q E s := by
  refine wpAny_call ?_
  refine gettoken l2 x2 d2 f' lb x1 d1 D fd _ _ hr (rest0 := _) (fun z hz => hz) H l0 u hS hl0 n ln tl A A₀ env outer base h₀ L m s _ B F X (fun p hp => N p ?_) T hA hf hke hd hu hh ?_
  · dsimp only [Rd.led, toks12] at hp
    simp only [List.mem_cons] at hp ⊢
    rcases hp with hp | hp | hp | hp | hp | hp | hp | hp | hp | hp | hp | hp | hp <;> simp only [hp, true_or, or_true]
  · intro tx u' n' ln' tl' h' tk' _ _ F' N'
    refine hret tx h' tk' F' fun q hq => N' q ?_
    dsimp only [Rd.led]
    simp only [List.mem_cons] at hq ⊢
    rcases hq with hq | hq | hq <;> simp only [hq, true_or, or_true]
end
end Mine
end
section
open PySem PySem.W PyProof.Rows
set_option Elab.async false
set_option maxRecDepth 100000
namespace Mine
section
local macro_rules | `(tactic| walk_at "call type:list") => `(tactic| (k_here; (with_reducible show wpAny _ _ (call (Value.type _) [Value.str _ _]) _ _ _); k_dflt (refine' listStr ?H ?F ?N ?z ?_; (case H => exact rfl); (case F => k_asm); (case N => k_asm); (case z => exact lit1_len (by assumption) (by omega)); k_whole); intro D' u' c' h' tk' F' N' l1 hS'; (try k_lt l1); (try dsimp only)))
local macro_rules | `(tactic| walk_at "subscriptTail Name Slice ref ref") => `(tactic| (k_here; (with_reducible show wpAny _ _ (subscriptTail _ (PySem.Expr.Slice none none (some _) _) (Value.ref _) (Value.ref _)) _ _ _); k_dflt (refine' krv_lit ?F ?N ?l ?k ?e ?_ ?s ?t ?z; (case F => k_asm); (case N => k_asm); (case l => exact News.isList (by k_asm) (by k_mem)); (case k => exact IsPart.int _ _); (case e => exact rfl); (case s => with_unfolding_all rfl); (case t => intro _; with_unfolding_all rfl); (case z => exact rev_room (by assumption) (lit1_room (by omega))); k_whole); intro D' h' F' N' l1; (try k_lt l1); (try k_sweep)))
local macro_rules | `(tactic| k_all) => `(tactic| (first | with_reducible assumption | k_dflt (refine' tail_ne ?a ?b; (case a => assumption); (case b => (refine leN ?_; (try dsimp only); omega)))))
local macro_rules | `(tactic| walk_at "call ref") => `(tactic| (k_here; k_dflt (first
  | (refine' call_cls ?k1 ?k2 ?k3 ?k4 ?k5 ?k6 ?_; (case k1 => k_asm); (case k2 => k_asm); (case k3 => k_asm); (case k4 => k_is); (case k5 => k_is); (case k6 => k_is); k_whole; intro x' d' h' F' N' l1 l2; (try k_lt l1); (try k_lt2 l2); (try k_sweep); (refine' code_def ?k1 ?k2 ?k3 ?k4 ?k5 ?kA ?kF ?kK ?k6 ?k7 ?k8 ?k9 ?kB ?_ ?c2 ?c3 ?c4 ?c5; (case kA => exact rfl); (case kF => exact rfl); (case kK => first | exact rfl | assumption); (case k1 => k_asm); (case k2 => k_asm); (case k3 => k_asm); (case k4 => k_asm); (case k5 => k_asm); (case k6 => k_is); (case k7 => k_is); (case k8 => ktr_room); (case k9 => first | exact BindsTo.of_eq rfl | exact binds_K (by k_in) rfl (by k_is) rfl rfl rfl); (case c5 => decide); (case kB => exact locs rfl); (case c2 => exact rfl); (case c3 => exact rfl); (case c4 => exact rfl); k_whole; intro g' L' h' FG' F' N' B' X' T'; (try dsimp only); (try k_lift B'); (try k_fold)))
  | (refine' call_meth ?k1 ?k2 ?_; (case k1 => k_asm); (case k2 => k_mem); k_whole; (refine' code_def ?k1 ?k2 ?k3 ?k4 ?k5 ?kA ?kF ?kK ?k6 ?k7 ?k8 ?k9 ?kB ?_ ?c2 ?c3 ?c4 ?c5; (case kA => exact rfl); (case kF => exact rfl); (case kK => first | exact rfl | assumption); (case k1 => k_asm); (case k2 => k_asm); (case k3 => k_asm); (case k4 => k_asm); (case k5 => k_asm); (case k6 => k_is); (case k7 => k_is); (case k8 => ktr_room); (case k9 => first | exact BindsTo.of_eq rfl | exact binds_K (by k_in) rfl (by k_is) rfl rfl rfl); (case c5 => decide); (case kB => exact locs rfl); (case c2 => exact rfl); (case c3 => exact rfl); (case c4 => exact rfl); k_whole; intro g' L' h' FG' F' N' B' X' T'; (try dsimp only); (try k_lift B'); (try k_fold)))
  | refine hold_intro ?_)))
local macro_rules | `(tactic| walk_at "eval Lambda") => `(tactic| refine hold_intro ?_)
local macro_rules | `(tactic| walk_at "execs cons") => `(tactic| (k_here; (refine gen_toks ?gp ?_); (case gp => k_dflt (first | assumption | exact Nat.succ_pos _ | exact Nat.add_pos_right _ (Nat.succ_pos _) | (dsimp only; omega))); intro tk0 htk0; (with_reducible refine wpAny_execs_cons ?_); try dsimp only))
local macro_rules | `(tactic| walk_at "WTurn") => `(tactic| first | refine wturn_brk ?_ | refine wturn_ret ?_)
local macro_rules | `(tactic| walk_at "call builtin:str.replace") => `(tactic| k_dflt (refine replaceP ?rs ?ru ?rv ?ruv ?ryz ?rx ?rz ?ry ?_; (case rs => first | assumption | exact Nat.succ_pos _); (case ru => exact Nat.ne_of_gt (by first | assumption | exact Nat.succ_pos _)); (case rv => exact Nat.ne_of_gt (by first | assumption | exact Nat.succ_pos _)); (case ruv => exact Nat.ne_of_lt (Nat.lt_succ_self _)); (case ryz => decide +kernel); (case rx => first | assumption | omega); (case rz => decide +kernel); (case ry => decide +kernel); intro t' k' hk' hl'; (first | replace hl' := of_if_t hl' (by decide +kernel) | replace hl' := of_if_f hl' (by decide +kernel)); (try dsimp only)))
variable {prog : Program} {w : World} {p : Program} {loose : List Str} {mean : ExcName → Option Value} {mg mb : Str → Option Value} {news : List (Addr × Obj)}

def LamCode (oc : Obj) : Prop := ∃ vs t, oc.data = .fields vs ∧ vs[1]? = some (.str (Str.ofString "_law_reading" ++ ".<locals>." ++ Str.ofString "<lambda>") t)
theorem codeHd_K {w : World} {h : Heap} (X : ((Mine.hd.heap_39 w.params)).In h) : CodeHd h 142 138 := ⟨_, _, _, _, _, _, _, _, _, X 142 _ (by rfl), rfl, rfl, rfl, rfl, rfl, rfl, rfl, rfl, by decide⟩
set_option maxHeartbeats 4000000 in
theorem reading_fn (y : Str) (t : Tok) (hx : y.length ≤ 900) (prog : Program) (w : World) (p : Program) (loose : List Str) (mean : ExcName → Option Value) (mg mb : Str → Option Value) (news : List (Addr × Obj))
  (dp un : Nat) (gd : Option (List Code)) (cn : Str) (cs : Scope) (a : Addr) (ccd : Value) (cl : List (Str × Addr)) (outer : List Env) (A₀ : Around) (base h₀ : Heap) (L : Addr) (m : Str → Option Value) (s : Shared) (Q E : Value → Shared → Prop)
  (B : Below A₀ base outer h₀) (F : Fr h₀ L s.heap m) (X : ((Mine.hd.heap_39 w.params)).In h₀) (N : News h₀ L s.heap ((138, tabObj #[]) :: news)) (T : Top p loose mean mg mb h₀) (hk : cs.kind = .function) (hd : dp + 10 < recursionLimit) (hu : un + 8 * 10 < cLine) (C : CodeHd base 142 138) (hT : ∀ p ∈ news, p.1 ≠ (138 : Addr))
  (hret : ∀ v h' tk', StrIs (hearS y) y.length v → Fr h₀ L h' m → ∀ c' oc', LamCode oc' → News h₀ L h' ((138, tabObj #[rawInt 83, rawInt 18, .ref c']) :: (c', oc') :: news) → (∀ p ∈ news, p.1 < c') → Q v ⟨h', s.gens, s.drawn, tk', s.os⟩) :
      wpAny (model prog w) (ktrTop dp un gd cn cs L a ccd cl outer) (call (.ref 143) [.str y t]) Q E s := by
  w_on
  refine wpAny_call ?_
  k_dflt (refine' code_defC ?k1 ?k2 ?k3 ?k4 ?k5 ?kA ?kF ?kK ?k6 ?k7 ?k8 ?k9 ?kB ?kD ?_ ?c2 ?c3 ?c4; (case kA => exact rfl); (case kF => exact rfl); (case kK => assumption); (case k1 => k_asm); (case k2 => k_asm); (case k3 => k_asm); (case k4 => k_asm); (case k5 => k_asm); (case k6 => k_is); (case k7 => k_is); (case k8 => ktr_room); (case k9 => exact BindsTo.of_eq rfl); (case kB => exact rfl); (case kD => decide +kernel); (case c2 => exact rfl); (case c3 => exact rfl); (case c4 => exact rfl); k_whole; intro g' L' h' tk' cells' FG' F' N' Y' B' X' T' l1; (have hNL := drop_lt l1); (try k_lt l1); k_cells Y'; (try simp only [List.cons_append, List.nil_append] at N'); (try dsimp only); (try k_lift B'); (try k_fold))
  k_steps
  refine hold_out ?_
  k_dflt (refine' kla_eval ?d0 ?_; (case d0 => exact rfl))
  k_dflt (refine' kla_nest ?F ?N ?T ?C ?cd ?U ?t ?n ?cl ?_)
  (case F => k_asm)
  (case N => k_asm)
  (case T => k_asm)
  (case cd => exact rfl)
  (case C => kn_code)
  (case U => k_updF)
  (case t => kn_triples)
  (case n => kn_among); (case cl => exact rfl); k_whole
  intro f' c' oc' vs' t' ct' h' tk' F' N' d1' d2' l1 l2; (try dsimp only at N'); (try k_lt l1); (try k_lt2 l2)
  k_steps
  refine hold_out ?_
  (try dsimp only)
  k_dflt (refine' call_token ?N ?hr ?H ?hS ?hl0 ?B ?F ?X ?T ?hA ?hf ?hke ?hd ?hu ?hh ?_)
  (case N => k_asm)
  (case hS => assumption)
  (case hl0 => exact .inr ⟨_, quote_list y⟩)
  (case B => k_asm)
  (case F => k_asm)
  (case X => k_asm)
  (case T => k_asm)
  (case hA => exact rfl)
  (case hf => exact rfl)
  (case hke => exact rfl)
  (case hd => ktr_room)
  (case hh => exact rfl)
  (case hu => exact sg_room (by assumption) (by rw [quote_list]; simp only [List.length_cons, len_eq]; omega))
  (case hr => exact ⟨(by refine ltN ?_; (try dsimp only); omega), (by refine ltN ?_; (try dsimp only); omega), (by refine ltN ?_; (try dsimp only); omega), (by refine ltN ?_; (try dsimp only); omega), (by refine ltN ?_; (try dsimp only); omega), (by refine ltN ?_; (try dsimp only); omega), (by dsimp only; refine List.forall_mem_cons.mpr ⟨by k_ne, ?_⟩; refine List.forall_mem_cons.mpr ⟨by k_ne, ?_⟩; refine List.forall_mem_cons.mpr ⟨by k_ne, ?_⟩; refine List.forall_mem_cons.mpr ⟨by k_ne, ?_⟩; refine List.forall_mem_cons.mpr ⟨by k_ne, ?_⟩; exact tail_ne hNL (by refine leN ?_; omega)), (by dsimp only; refine List.forall_mem_cons.mpr ⟨by k_ne, ?_⟩; refine List.forall_mem_cons.mpr ⟨by k_ne, ?_⟩; refine List.forall_mem_cons.mpr ⟨by k_ne, ?_⟩; refine List.forall_mem_cons.mpr ⟨by k_ne, ?_⟩; refine List.forall_mem_cons.mpr ⟨by k_ne, ?_⟩; exact tail_ne hNL (by refine leN ?_; omega))⟩)
  case H =>
    intro news' u n ln tl A A₁ env outer' base' h₁ L₁ m₁ s₁ t R hsub hD hd2 B1 F1 X1 N1 T1 hA hf hke hd hu hret1
    dsimp only at hD hd2
    have hm1 := hsub (L' + 1, _) (by k_mem)
    have hm2 := hsub (c', oc') (by k_mem)
    have N2 := news_cons N1 (q := (L' + 1, _)) (by (repeat' first | exact hm1 | refine List.Mem.tail _ ?_))
    have N3 := news_cons N2 (q := (c', oc')) (by (repeat' first | exact hm2 | refine List.Mem.tail _ ?_))
    clear N1 N2
    dsimp only [Rd.led, Rd.with, sgObj] at N3
    cases u with
    | nil =>
      rw [show (strValues ([] : List (Str × Tok))).reverse.toArray = #[] from rfl] at N3
      k_dflt (refine' kla_code ?k1 ?k2 ?k3 ?k4 ?k5 ?kA ?kF ?kK ?k6 ?k7 ?k8 ?k9 ?kB ?_ ?c2 ?c3 ?c4 ?c5; (case kA => assumption); (case kF => assumption); (case kK => assumption); (case k1 => k_asm); (case k2 => k_asm); (case k3 => k_asm); (case k4 => k_asm); (case k5 => k_asm); (case k6 => k_mem); (case k7 => exact codeRec_news (by k_asm) (by k_mem) (by assumption) (by assumption)); (case k8 => ktr_room); (case k9 => exact rfl); (case c5 => decide); (case kB => exact locs rfl); (case c2 => exact rfl); (case c3 => exact rfl); (case c4 => exact rfl); k_whole; intro g' L' h' FG' F' N' B' X' T'; (try dsimp only); (try k_lift B'); (try k_fold))
      k_steps
      exact hret1 _ _ _ _ rfl (by assumption) (news_drop (news_drop (by assumption)))
    | cons a r =>
      obtain ⟨ax, at'⟩ := a
      k_dflt (refine' kla_code ?k1 ?k2 ?k3 ?k4 ?k5 ?kA ?kF ?kK ?k6 ?k7 ?k8 ?k9 ?kB ?_ ?c2 ?c3 ?c4 ?c5; (case kA => assumption); (case kF => assumption); (case kK => assumption); (case k1 => k_asm); (case k2 => k_asm); (case k3 => k_asm); (case k4 => k_asm); (case k5 => k_asm); (case k6 => k_mem); (case k7 => exact codeRec_news (by k_asm) (by k_mem) (by assumption) (by assumption)); (case k8 => ktr_room); (case k9 => exact rfl); (case c5 => decide); (case kB => exact locs rfl); (case c2 => exact rfl); (case c3 => exact rfl); (case c4 => exact rfl); k_whole; intro g' L' h' FG' F' N' B' X' T'; (try dsimp only); (try k_lift B'); (try k_fold))
      k_steps
      refine wpAny_truthy_list (News.isList (by k_asm) (by k_mem)) (sg_fit hu) ?_
      rw [sg_true]
      dsimp only
      rw [if_pos rfl]
      k_steps
      rename Fr _ _ _ _ => F8
      rename News _ _ _ _ => N8
      k_dflt (refine' popStr (x := ax) (t := at') (u := r) F8 N8 ?U ?z ?_; (case U => k_upd); (case z => simp only [List.length_cons] at hu; omega))
      intro h5 F9 N9
      (try dsimp only at N9)
      (try dsimp only)
      k_steps
      exact hret1 _ _ _ _ rfl (by assumption) (news_drop (news_drop (by assumption)))
  intro tx h3 tk3 F3 N3
  rw [quote_list, List.tail_cons]
  k_steps
  exact hret _ _ _ ⟨_, rfl, hearS_len y⟩ (by assumption) c' oc' ⟨_, _, d1', d2'⟩ (news_swap (by assumption)) (fun p hp => Nat.lt_trans (hNL p hp) (by refine ltN ?_; omega))
set_option maxHeartbeats 4000000 in
theorem reading_again (y : Str) (t : Tok) (hx : y.length ≤ 900) (prog : Program) (w : World) (p : Program) (loose : List Str) (mean : ExcName → Option Value) (mg mb : Str → Option Value) (news : List (Addr × Obj)) (c' : Addr) (oc' : Obj) (hcode : LamCode oc') :
    FnOk prog w (Mine.hd.heap_39 w.params) p loose mean mg mb 143 10 ((138, tabObj #[rawInt 83, rawInt 18, .ref c']) :: (c', oc') :: news) [.str y t] (StrIs (hearS y) y.length) := by
  intro dp un gd cn cs a ccd cl outer A₀ base h₀ L m s Q E B F X N T hk hd hu hret
  obtain ⟨vs', t', d1', d2'⟩ := hcode
  w_on
  refine wpAny_call ?_
  k_dflt (refine' code_defC ?k1 ?k2 ?k3 ?k4 ?k5 ?kA ?kF ?kK ?k6 ?k7 ?k8 ?k9 ?kB ?kD ?_ ?c2 ?c3 ?c4; (case kA => exact rfl); (case kF => exact rfl); (case kK => assumption); (case k1 => k_asm); (case k2 => k_asm); (case k3 => k_asm); (case k4 => k_asm); (case k5 => k_asm); (case k6 => k_is); (case k7 => k_is); (case k8 => ktr_room); (case k9 => exact BindsTo.of_eq rfl); (case kB => exact rfl); (case kD => decide +kernel); (case c2 => exact rfl); (case c3 => exact rfl); (case c4 => exact rfl); k_whole; intro g' L' h' tk' cells' FG' F' N' Y' B' X' T' l1; (have hNL := drop_lt (drop_lt l1)); (try k_lt l1); k_cells Y'; (try simp only [List.cons_append, List.nil_append] at N'); (try dsimp only); (try k_lift B'); (try k_fold))
  k_steps
  refine hold_out ?_
  k_dflt (refine' kla_eval ?d0 ?_; (case d0 => exact rfl))
  have C := codeHd_K X'
  k_dflt (refine' kla_hit ?F ?N ?T ?C ?cd ?mem ?t ?n ?cl ?_; (case F => k_asm); (case N => k_asm); (case T => k_asm); (case cd => exact rfl); (case C => exact codeHd_K X'); (case mem => k_mem); (case t => kn_triples); (case n => kn_hit); (case cl => exact rfl); k_whole)
  intro f' ct' h' tk' F' N' l1; (try dsimp only at N'); (try k_lt l1)
  k_steps
  refine hold_out ?_
  (try dsimp only)
  k_dflt (refine' call_token ?N ?hr ?H ?hS ?hl0 ?B ?F ?X ?T ?hA ?hf ?hke ?hd ?hu ?hh ?_)
  (case N => refine' news_ins ?nn ?nq; (case nn => k_asm); (case nq => exact List.Mem.tail _ (by k_mem)))
  (case hS => assumption)
  (case hl0 => exact .inr ⟨_, quote_list y⟩)
  (case B => k_asm)
  (case F => k_asm)
  (case X => k_asm)
  (case T => k_asm)
  (case hA => exact rfl)
  (case hf => exact rfl)
  (case hke => exact rfl)
  (case hd => ktr_room)
  (case hh => exact rfl)
  (case hu => exact sg_room (by assumption) (by rw [quote_list]; simp only [List.length_cons, len_eq]; omega))
  (case hr => exact ⟨(by refine ltN ?_; (try dsimp only); omega), (by refine ltN ?_; (try dsimp only); omega), (by refine ltN ?_; (try dsimp only); omega), (by refine ltN ?_; (try dsimp only); omega), (by refine ltN ?_; (try dsimp only); omega), (by refine ltN ?_; (try dsimp only); omega), (by dsimp only; refine List.forall_mem_cons.mpr ⟨by k_ne, ?_⟩; refine List.forall_mem_cons.mpr ⟨by k_ne, ?_⟩; refine List.forall_mem_cons.mpr ⟨by k_ne, ?_⟩; refine List.forall_mem_cons.mpr ⟨by k_ne, ?_⟩; refine List.forall_mem_cons.mpr ⟨by k_ne, ?_⟩; refine List.forall_mem_cons.mpr ⟨by k_ne, ?_⟩; exact tail_ne hNL (by refine leN ?_; omega)), (by dsimp only; refine List.forall_mem_cons.mpr ⟨by k_ne, ?_⟩; refine List.forall_mem_cons.mpr ⟨by k_ne, ?_⟩; refine List.forall_mem_cons.mpr ⟨by k_ne, ?_⟩; refine List.forall_mem_cons.mpr ⟨by k_ne, ?_⟩; refine List.forall_mem_cons.mpr ⟨by k_ne, ?_⟩; refine List.forall_mem_cons.mpr ⟨by k_ne, ?_⟩; exact tail_ne hNL (by refine leN ?_; omega))⟩)
  case H =>
    intro news' u n ln tl A A₁ env outer' base' h₁ L₁ m₁ s₁ t R hsub hD hd2 B1 F1 X1 N1 T1 hA hf hke hd hu hret1
    dsimp only at hD hd2
    have hm1 := hsub (L' + 1, _) (by k_mem)
    have hm2 := hsub (c', oc') (by k_mem)
    have N2 := news_cons N1 (q := (L' + 1, _)) (by (repeat' first | exact hm1 | refine List.Mem.tail _ ?_))
    have N3 := news_cons N2 (q := (c', oc')) (by (repeat' first | exact hm2 | refine List.Mem.tail _ ?_))
    clear N1 N2
    dsimp only [Rd.led, Rd.with, sgObj] at N3
    cases u with
    | nil =>
      rw [show (strValues ([] : List (Str × Tok))).reverse.toArray = #[] from rfl] at N3
      k_dflt (refine' kla_code ?k1 ?k2 ?k3 ?k4 ?k5 ?kA ?kF ?kK ?k6 ?k7 ?k8 ?k9 ?kB ?_ ?c2 ?c3 ?c4 ?c5; (case kA => assumption); (case kF => assumption); (case kK => assumption); (case k1 => k_asm); (case k2 => k_asm); (case k3 => k_asm); (case k4 => k_asm); (case k5 => k_asm); (case k6 => k_mem); (case k7 => exact codeRec_news (by k_asm) (by k_mem) (by assumption) (by assumption)); (case k8 => ktr_room); (case k9 => exact rfl); (case c5 => decide); (case kB => exact locs rfl); (case c2 => exact rfl); (case c3 => exact rfl); (case c4 => exact rfl); k_whole; intro g' L' h' FG' F' N' B' X' T'; (try dsimp only); (try k_lift B'); (try k_fold))
      k_steps
      exact hret1 _ _ _ _ rfl (by assumption) (news_drop (news_drop (by assumption)))
    | cons a r =>
      obtain ⟨ax, at'⟩ := a
      k_dflt (refine' kla_code ?k1 ?k2 ?k3 ?k4 ?k5 ?kA ?kF ?kK ?k6 ?k7 ?k8 ?k9 ?kB ?_ ?c2 ?c3 ?c4 ?c5; (case kA => assumption); (case kF => assumption); (case kK => assumption); (case k1 => k_asm); (case k2 => k_asm); (case k3 => k_asm); (case k4 => k_asm); (case k5 => k_asm); (case k6 => k_mem); (case k7 => exact codeRec_news (by k_asm) (by k_mem) (by assumption) (by assumption)); (case k8 => ktr_room); (case k9 => exact rfl); (case c5 => decide); (case kB => exact locs rfl); (case c2 => exact rfl); (case c3 => exact rfl); (case c4 => exact rfl); k_whole; intro g' L' h' FG' F' N' B' X' T'; (try dsimp only); (try k_lift B'); (try k_fold))
      k_steps
      refine wpAny_truthy_list (News.isList (by k_asm) (by k_mem)) (sg_fit hu) ?_
      rw [sg_true]
      dsimp only
      rw [if_pos rfl]
      k_steps
      rename Fr _ _ _ _ => F8
      rename News _ _ _ _ => N8
      k_dflt (refine' popStr (x := ax) (t := at') (u := r) F8 N8 ?U ?z ?_; (case U => k_upd); (case z => simp only [List.length_cons] at hu; omega))
      intro h5 F9 N9
      (try dsimp only at N9)
      (try dsimp only)
      k_steps
      exact hret1 _ _ _ _ rfl (by assumption) (news_drop (news_drop (by assumption)))
  intro tx h3 tk3 F3 N3
  rw [quote_list, List.tail_cons]
  k_steps
  exact hret _ _ _ ⟨_, rfl, hearS_len y⟩ (by assumption) (news_drop (by assumption))
theorem reading_any {y : Str} {t : Tok} (hx : y.length ≤ 900) {prog : Program} {w : World} {p : Program} {loose : List Str} {mean : ExcName → Option Value} {mg mb : Str → Option Value} {news : List (Addr × Obj)} {c' : Addr} {oc' : Obj} (hcode : LamCode oc') (h1 : ((138 : Addr), tabObj #[rawInt 83, rawInt 18, .ref c']) ∈ news) (h2 : (c', oc') ∈ news) :
    FnOk prog w (Mine.hd.heap_39 w.params) p loose mean mg mb 143 10 news [.str y t] (StrIs (hearS y) y.length) := by
  intro dp un gd cn cs a ccd cl outer A₀ base h₀ L m s Q E B F X N T hk hd hu hret
  exact reading_again y t hx prog w p loose mean mg mb news c' oc' hcode dp un gd cn cs a ccd cl outer A₀ base h₀ L m s Q E B F X (news_cons (news_cons N h2) (.tail _ h1)) T hk hd hu fun v h' tk' r F' N' => hret v h' tk' r F' (news_drop (news_drop N'))
end
end Mine
end
section
open PySem PySem.W PyProof.Rows
set_option Elab.async false
set_option maxRecDepth 100000
namespace Mine
section
local macro_rules | `(tactic| walk_at "subscriptTail List cons Slice ref ref") => `(tactic| refine hold_intro ?_)
local macro_rules | `(tactic| walk_at "eval ListComp") => `(tactic| (k_here; (fail_if_success (with_reducible show wpAny _ _ (eval (PySem.Expr.ListComp (PySem.Expr.BinOp _ _ _ _) _ _ _) _) _ _ _)); refine hold_intro ?_))
local macro_rules | `(tactic| walk_at "exec Assign cons ListComp") => `(tactic| refine hold_intro ?_)
local macro_rules | `(tactic| walk_at "call builtin:str.replace") => `(tactic| k_dflt (refine replaceP ?rs ?ru ?rv ?ruv ?ryz ?rx ?rz ?ry ?_; (case rs => first | with_reducible assumption | exact Nat.succ_pos _); (case ru => exact Nat.ne_of_gt (by first | with_reducible assumption | exact Nat.succ_pos _)); (case rv => exact Nat.ne_of_gt (by first | with_reducible assumption | exact Nat.succ_pos _)); (case ruv => exact Nat.ne_of_lt (Nat.lt_succ_self _)); (case ryz => decide +kernel); (case rx => first | with_reducible assumption | omega); (case rz => decide +kernel); (case ry => decide +kernel); intro t' k' hk' hl'; (first | replace hl' := of_if_t hl' (by decide +kernel) | replace hl' := of_if_f hl' (by decide +kernel)); (try dsimp only)))
local macro_rules | `(tactic| walk_at "execs cons") => `(tactic| (k_here; (refine gen_toks ?gp ?_); (case gp => with_reducible first | assumption | exact Nat.succ_pos _); intro tk0 htk0; (with_reducible refine wpAny_execs_cons ?_); try dsimp only))
local macro_rules | `(tactic| walk_at "CompSrcT") => `(tactic| refine hold_intro ?_)
local macro_rules | `(tactic| walk_at "CompSrc") => `(tactic| ((fail_if_success (with_reducible show LCg.CompSrc _ _ _ _ _ _ _ (PySem.Expr.BinOp _ _ _ _) _ _ _ _ _ _)); refine hold_intro ?_))
local macro_rules | `(tactic| walk_at "CompEnd") => `(tactic| ((fail_if_success (goal_lacks TxEl)); refine hold_intro ?_))
local macro_rules | `(tactic| walk_at "call builtin:str.join") => `(tactic| refine hold_intro ?_)
local macro_rules | `(tactic| walk_at "call ref") => `(tactic| refine hold_intro ?_)
local macro_rules | `(tactic| walk_at "call ref") => `(tactic| (k_here; k_dflt (refine' fn_use (telling_fn _ _ ?kp) ?k1 ?k2 ?k3 ?k4 ?k5 ?kK ?kd ?ku ?_; (case k1 => k_asm); (case k2 => k_asm); (case k3 => k_asm); (case k4 => k_asm); (case k5 => k_asm); (case kK => first | exact rfl | assumption); (case kd => ktr_room); (case ku => ktr_units); k_whole; (case kp => first | with_reducible assumption | omega)); k_dflt (rintro v' h' tk' ⟨t', rv', rl'⟩ F' N'; subst rv'); (try dsimp only); (try k_fold)))
local macro_rules | `(tactic| walk_at "call ref") => `(tactic| (k_here; k_dflt (refine' fn_use (quotedata_fn _ _ ?kp) ?k1 ?k2 ?k3 ?k4 ?k5 ?kK ?kd ?ku ?_; (case k1 => k_asm); (case k2 => k_asm); (case k3 => k_asm); (case k4 => k_asm); (case k5 => k_asm); (case kK => first | exact rfl | assumption); (case kd => ktr_room); (case ku => ktr_units); k_whole; (case kp => first | with_reducible assumption | omega)); k_dflt (rintro v' h' tk' ⟨t', rv', rl'⟩ F' N'; subst rv'); (try dsimp only); (try k_fold)))
local macro_rules | `(tactic| walk_at "call ref") => `(tactic| (k_here; k_dflt (refine' fn_use (told_fn _ _ ?kp) ?k1 ?k2 ?k3 ?k4 ?k5 ?kK ?kd ?ku ?_; (case k1 => k_asm); (case k2 => k_asm); (case k3 => k_asm); (case k4 => k_asm); (case k5 => k_asm); (case kK => first | exact rfl | assumption); (case kd => ktr_room); (case ku => ktr_units); k_whole; (case kp => first | with_reducible assumption | omega)); k_dflt (rintro v' h' tk' ⟨t', rv', rl'⟩ F' N'; subst rv'); (try dsimp only); (try k_fold)))
local macro_rules | `(tactic| walk_at "call ref") => `(tactic| (k_here; k_dflt (refine' fn_use (heard_fn _ _ ?kp) ?k1 ?k2 ?k3 ?k4 ?k5 ?kK ?kd ?ku ?_; (case k1 => k_asm); (case k2 => k_asm); (case k3 => k_asm); (case k4 => k_asm); (case k5 => k_asm); (case kK => first | exact rfl | assumption); (case kd => ktr_room); (case ku => ktr_units); k_whole; (case kp => first | with_reducible assumption | omega)); k_dflt (rintro v' h' tk' ⟨t', rv', rl'⟩ F' N'; subst rv'); (try dsimp only); (try k_fold)))
local macro_rules | `(tactic| walk_at "call ref") => `(tactic| (k_here; k_dflt (refine' fn_use (sent_fn _ _ ?kp) ?k1 ?k2 ?k3 ?k4 ?k5 ?kK ?kd ?ku ?_; (case k1 => k_asm); (case k2 => k_asm); (case k3 => k_asm); (case k4 => k_asm); (case k5 => k_asm); (case kK => first | exact rfl | assumption); (case kd => ktr_room); (case ku => ktr_units); k_whole; (case kp => first | with_reducible assumption | omega)); k_dflt (rintro v' h' tk' ⟨t', rv', rl'⟩ F' N'; subst rv'); (try dsimp only); (try k_fold)))
local macro_rules | `(tactic| walk_at "call ref") => `(tactic| (k_here; k_dflt (refine' fn_use (paired_fn _ _ ?kp) ?k1 ?k2 ?k3 ?k4 ?k5 ?kK ?kd ?ku ?_; (case k1 => k_asm); (case k2 => k_asm); (case k3 => k_asm); (case k4 => k_asm); (case k5 => k_asm); (case kK => first | exact rfl | assumption); (case kd => ktr_room); (case ku => ktr_units); k_whole; (case kp => first | with_reducible assumption | omega)); k_dflt (rintro v' h' tk' ⟨t', rv', rl'⟩ F' N'; subst rv'); (try dsimp only); (try k_fold)))
local macro_rules | `(tactic| walk_at "call ref") => `(tactic| (k_here; k_dflt (refine' fn_use (reading_any ?kp ?kcode ?kh1 ?kh2) ?k1 ?k2 ?k3 ?k4 ?k5 ?kK ?kd ?ku ?_; (case k1 => k_asm); (case k2 => k_asm); (case k3 => k_asm); (case k4 => k_asm); (case k5 => k_asm); (case kK => first | exact rfl | assumption); (case kd => ktr_room); (case ku => ktr_units); k_whole; (case kp => first | with_reducible assumption | omega); (case kcode => with_reducible assumption); (case kh1 => k_mem); (case kh2 => k_mem)); k_dflt (rintro v' h' tk' ⟨t', rv', rl'⟩ F' N'; subst rv'); (try dsimp only); (try k_fold)))
local macro_rules | `(tactic| walk_at "TTest") => `(tactic| refine hold_intro ?_)
local macro_rules | `(tactic| walk_at "CompEnd") => `(tactic| ((fail_if_success (goal_lacks TElt)); refine hold_intro ?_))
local macro_rules | `(tactic| walk_at "subscriptTail Name Slice ref ref") => `(tactic| ((with_reducible show wpAny _ _ (subscriptTail (PySem.Expr.Name (PySem.Str.ofString "marks") _) _ _ _) _ _ _); refine hold_intro ?_))
local macro_rules | `(tactic| walk_at "compareOp NotEq ref ref") => `(tactic| refine hold_intro ?_)
local macro_rules | `(tactic| walk_at "compareOp NotEq str str") => `(tactic| refine hold_intro ?_)
local macro_rules | `(tactic| walk_at "compareOp NotEq bool bool") => `(tactic| refine hold_intro ?_)
local macro_rules | `(tactic| walk_at "compareOp Eq bool bool") => `(tactic| refine hold_intro ?_)
local macro_rules | `(tactic| walk_at "compareOp NotIn str ref") => `(tactic| refine hold_intro ?_)
set_option maxHeartbeats 40000000 in
theorem law_main : PySem.Challenge.rw_rw0018_02.Holds := hd (by
  k_go0
  all_goals try k_fold
  (try (rename LooseAre _ _ _ => z; clear z))
  (try (rename TopE _ _ _ _ => z; clear z))
  (try (rename TopW _ _ _ => z; clear z))
  (try (rename Dflts _ _ _ => z; clear z))
  (try (rename CellsAre _ _ _ => z; clear z))
  (try (rename TabsAt _ _ => z; clear z))
  refine gen_toks0 ?_
  intro tkA
  k_steps
  refine hold_out ?_
  refine kba_turn (value' := PySem.Expr.Name (PySem.Str.ofString "_") ⟨0, 0, 0, 0⟩) (fun _ => rfl) ?_
  k_dflt (refine' kmk_slice_ints ?yF ?yN ?yl ?yp ?yq ?yi ?ym ?yc ?_ ?ys ?yt ?yz)
  (case yF => k_asm)
  (case yN => k_asm)
  (case yl => exact News.isList (by k_asm) (by k_mem))
  (case yp => exact IsPart.int _ _)
  (case yq => exact IsPart.none)
  (case yi => exact nums12 _ _ _ _ _ _ _ _ _ _ _ _)
  (case ym => exact kmk_from (nums12 _ _ _ _ _ _ _ _ _ _ _ _) (Int.natCast_nonneg _))
  (case yc => exact rfl)
  (case ys => with_unfolding_all rfl)
  (case yt => kmk_pure)
  (case yz => exact Nat.le_of_ble_eq_true rfl)
  intro D1 ws1 h1 F1 N1 l1 hI1 hC1 hL1
  (try k_lt l1)
  k_steps
  refine hold_out ?_
  with_reducible rename Fr _ _ _ _ => Fa
  obtain ⟨M1, Fb⟩ := Fr_slim (l := [(Str.ofString "numbers", _)]) Fa ⟨rfl, trivial⟩
  clear Fa
  (repeat (with_reducible rename Fr _ _ _ _ => z; clear z))
  replace Fb := hold_elim Fb
  dsimp only [putAll] at Fb
  k_dflt (refine LCg.ListComp_U (F₀ := by k_asm) (by with_unfolding_all rfl) (by decide) (by rfl) (by decide) (by rfl) ?_)
  k_steps
  refine hold_out ?_
  with_reducible rename IntsAre _ (_ ++ _) => hNL
  rename ¬ _ < _ => hlen
  refine LCg.CompSrc.ledger (by rfl) (by k_asm) (by k_asm) (by k_mem) ?sz ?rest
  case sz =>
    rw [sizeLine_eq, List.size_toArray, hNL.length]
    exact Nat.le_trans (nums_len _ _) (by decide)
  case rest =>
    intro g1
    refine comp_ints hNL signT (Or.inr ⟨_, by k_mem, rfl, _, rfl⟩) ?turn ?fin
    case turn =>
      intro k tz I oI C oC D m₂ ys h tk E' hz hC hx2 F1 N1 off ne
      obtain ⟨hk1, hk2, hk3, hk4, hk5, hk6⟩ := num_in hz
      k_steps
      all_goals refine hold_out ?_
      · rename k.fmod 6 = 5 => p1
        exact txEnd (by assumption) (by k_asm) (by kcf_all) (by assumption) (Or.inr ⟨_, by k_mem, rfl, _, rfl⟩) (by unfold signT; rw [if_pos p1])
      · rename k.fmod 6 ≠ 5 => p1
        exact txEnd (by assumption) (by k_asm) (by kcf_all) (by assumption) (Or.inr ⟨_, by k_mem, rfl, _, rfl⟩) (by unfold signT; rw [if_neg p1])
    case fin =>
      intro l2 e2
      obtain ⟨hok, hgood⟩ := text_facts e2
      clear hNL e2
      unfold LCg.FinE
      intro D h' tk' F1 N1 o1
      dsimp only
      k_steps
      refine hold_out ?_
      refine joinP (News.isList (by k_asm) (by k_mem)) hok ?_
      intro tj kj
      generalize Str.join (Str.ofString "") (l2.map fun x => x.1) = T at hgood ⊢
      obtain ⟨hTl, hTa⟩ := hgood
      dsimp only
      k_steps
      refine hold_out ?_
      rename News _ _ _ _ => N0
      have Nc := cell_pick N0
      clear N0
      k_dflt (refine' reading_fn T _ ?qhx _ _ _ _ _ _ _ _ _ _ _ _ _ _ _ _ _ _ _ _ _ _ _ _ _ ?qB ?qF ?qX ?qN ?qT ?qk ?qd ?qu ?qC ?qhT ?_)
      (case qhx => omega)
      (case qB => k_asm)
      (case qF => k_asm)
      (case qX => k_asm)
      (case qN => exact Nc)
      (case qT => k_asm)
      (case qk => exact rfl)
      (case qd => ktr_room)
      (case qu => ktr_units)
      (case qC => assumption)
      (case qhT => exact List.forall_mem_cons.mpr ⟨by k_ne, List.forall_mem_nil _⟩)
      clear Nc
      rintro v h' tk' ⟨t', rfl, rl'⟩ F' c' oc' hcode N' hcl
      have hcl2 := ltN (hcl _ (.head _))
      clear hcl
      (try dsimp only at hcl2)
      (try dsimp only)
      k_steps
      rename List.map _ _ = Txt.split _ _ => q1
      rename _[Int.toNat 0]? = some _ => q2
      with_reducible rename (∀ a : Str, a ∈ _ → _ ≤ _) => q3
      have hw := word_of q1 q2
      have hwl := len_of q3 q2
      subst hw
      clear q1 q2 q3
      have hpl := pairedS_len T
      refine hold_out ?_
      k_dflt (refine LCg.Assign_ListComp_U (F₀ := by k_asm) (by rfl) (by with_unfolding_all rfl) (by with_unfolding_all rfl) (by decide) (by rfl) (by decide) (by rfl) (by rfl) (by rfl) ?_)
      k_steps
      rename List.map _ _ = Txt.split _ _ => q1
      with_reducible rename (∀ a : Str, a ∈ _ → _ ≤ _) => q3
      have q5 := strs_lenF q1
      refine hold_out ?_
      refine LCg.CompSrc.ledger (by rfl) (by k_asm) (by k_asm) (by k_mem) ?sz2 ?rest2
      case sz2 =>
        rw [sizeLine_eq]
        simp only [strValues, List.size_toArray, List.length_map]
        omega
      case rest2 =>
        intro g2
        refine comp_strs (fun z => Txt.slice z none (some 2)) (Or.inr ⟨_, by k_mem, rfl, _, rfl⟩) ?turn2 ?fin2
        case turn2 =>
          intro z tz I oI C oC D m₂ ys h tk E' hz hC hx2 F1 N1 off ne
          have hzl := q3 z hz
          k_steps
          all_goals refine hold_out ?_
          all_goals exact txEnd (by assumption) (by k_asm) (by kcf_all) (by assumption) (Or.inr ⟨_, by k_mem, rfl, _, rfl⟩) rfl
        case fin2 =>
          intro l3 e3
          rw [q1] at e3
          clear q1 q3 q5
          unfold LCg.FinA
          intro D2 h2 tk2 F2 N2 o2
          dsimp only
          k_steps
          refine hold_out ?_
          with_reducible rename Fr _ _ _ _ => Fa
          with_reducible rename News _ _ _ _ => Na
          replace Fa := hold_out Fa
          replace Na := hold_out Na
          replace hpl := hold_out hpl
          replace hTl := hold_out hTl
          (repeat (with_reducible rename Fr _ _ _ _ => z; clear z))
          (repeat (with_reducible rename News _ _ _ _ => z; clear z))
          (repeat (with_reducible rename PySem.Str.length _ ≤ _ => z; clear z))
          replace Fa := hold_elim Fa
          replace Na := hold_elim Na
          replace hpl := hold_elim hpl
          replace hTl := hold_elim hTl
          k_dflt (refine LCt.Assign_ListComp_T (F₀ := by k_asm) (by rfl) (by with_unfolding_all rfl) (by with_unfolding_all rfl) (by decide) (by rfl) (by decide) (by rfl) (by rfl) (by rfl) ?_)
          k_steps
          refine hold_out ?_
          refine LCt.CompSrcT.range (by rfl) (by k_asm) (by k_asm) (by assumption) ?rsm (rangeSize_nat _ _) ?rsz ?rest3
          case rsm => exact small_one (by l_bnd) (by l_bnd) (by l_bnd) (by l_bnd)
          case rsz => rw [sizeLine_eq]; omega
          case rest3 =>
            intro g3
            refine comp_filter (okP (pairedS T)) (fun i v => ∃ t : Tok, v = .int (i : Int) t) ?turn3 ?fin3
            case turn3 =>
              intro i v I oI C oC D m₂ ys h tk E' hi hv hC hx2 F1 N1 off ne
              obtain ⟨tv, rfl⟩ := hv
              k_steps
              refine hold_out ?_
              refine ttest (q_mark_in (by omega)) (fun hq => ?_) (fun hq => ?_)
              · k_steps
                refine hold_out ?_
                exact tEnd (by k_asm) (by k_asm) (by kcf_all) (by assumption) trivial ⟨_, by rw [Int.zero_add]⟩
              · exact tSkip (by k_asm) (by k_asm) (by kcf_all) (by assumption) trivial
            case fin3 =>
              intro ys3 hrel
              have hn3 : ((pairedS T).length - (0 : Int)).toNat = (pairedS T).length := by omega
              rw [hn3] at hrel
              have hI3 := rel_ints hrel
              unfold LCg.FinA
              intro D3 h3 tk3 F3 N3 o3
              dsimp only
              k_steps
              refine hold_out ?_
              k_dflt (refine LCt.Assign_ListComp_T (F₀ := by k_asm) (by rfl) (by with_unfolding_all rfl) (by with_unfolding_all rfl) (by decide) (by rfl) (by decide) (by rfl) (by rfl) (by rfl) ?_)
              k_steps
              refine hold_out ?_
              have hle3 : ys3.length ≤ 100 := by
                rw [hI3.length, List.length_map]
                have hf := List.length_filter_le (okP (pairedS T)) (List.range (pairedS T).length)
                rw [List.length_range] at hf
                omega
              k_dflt (refine' kmk_slice_ints ?zF ?zN ?zl ?zp ?zq ?zi ?zm ?zc ?_ ?zs ?zt ?zz)
              (case zF => k_asm)
              (case zN => k_asm)
              (case zl => exact News.isList (by k_asm) (by k_mem))
              (case zp => exact IsPart.none)
              (case zq => exact IsPart.int _ _)
              (case zi => exact hI3)
              (case zm => exact kmk_upto hI3 (by decide))
              (case zc => exact rfl)
              (case zs => with_unfolding_all rfl)
              (case zt => kmk_pure)
              (case zz => rw [sizeLine_eq, List.size_toArray]; omega)
              intro D4 ws4 h4 F4 N4 l4 hI4 hC4 hL4
              (try k_lt l4)
              clear hC4 hL4 hle3
              replace hI4 : IntsAre ws4 (List.take 1 (((List.range (pairedS T).length).filter (okP (pairedS T))).map fun i : Nat => (i : Int))) := hI4
              have hn4 := hI4.length
              k_steps
              refine hold_out ?_
              refine LCt.CompSrcT.ledger (by rfl) (by k_asm) (by k_asm) (by k_mem) ?sz4 ?rest4
              case sz4 =>
                rw [sizeLine_eq, List.size_toArray, hn4]
                have := List.length_take_le 1 (((List.range (pairedS T).length).filter (okP (pairedS T))).map fun i : Nat => (i : Int))
                omega
              case rest4 =>
                intro g4
                refine comp_filter (okB (pairedS T)) (fun i v => ∃ t : Tok, v = .str (gB (pairedS T) i) t) ?turn4 ?fin4
                case turn4 =>
                  intro i v I oI C oC D m₂ ys h tk E' hi hv hC hx2 F1 N1 off ne
                  obtain ⟨kk, tv, hk5, rfl⟩ := ints_get hI4 (by simpa using hv)
                  obtain ⟨k0, r0, hF0, rfl, hk0⟩ := first_get hk5
                  clear hv hi hk5
                  k_steps
                  refine hold_out ?_
                  refine ttest (okB_at i hF0) (fun hq => ?_) (fun hq => ?_)
                  · k_steps
                    refine hold_out ?_
                    exact tEnd (by k_asm) (by k_asm) (by kcf_all) (by assumption) (Or.inr ⟨_, by k_mem, rfl, _, rfl⟩) ⟨_, by rw [gB_at i hF0]⟩
                  · exact tSkip (by k_asm) (by k_asm) (by kcf_all) (by assumption) (Or.inr ⟨_, by k_mem, rfl, _, rfl⟩)
                case fin4 =>
                  intro ys5 hrel5
                  have hS5 := rel_strs hrel5
                  rw [behind_of (by rw [List.size_toArray, hn4])] at hS5
                  clear hrel5 hI4 hn4 hI3 hrel
                  unfold LCg.FinA
                  intro D5 h5 tk5 F5 N5 o5
                  dsimp only
                  k_steps
                  refine hold_out ?_
                  have hg : GoodS T := hTa
                  k_dflt (refine' es_ne_same ?w1ha ?w1hb ?w1hi ?w1hj ?w1g1 ?w1e ?w1hu ?_)
                  (case w1ha => exact News.isList (by k_asm) (by k_mem))
                  (case w1hb => exact News.isList (by k_asm) (by k_mem))
                  (case w1hi => exact .cons _ _ (.cons _ _ (.cons _ _ .nil)))
                  (case w1hj => exact .cons _ _ (.cons _ _ (.cons _ _ .nil)))
                  (case w1g1 => exact okL_cons (strOk_good (good_tell hg)) (okL_cons (strOk_good (good_hear hg)) (okL_cons (strOk_good (good_send hg)) okL_nil)))
                  (case w1e => rw [heard_good hg])
                  (case w1hu => ke_room)
                  k_steps
                  refine hold_out ?_
                  k_dflt (refine' es_ne_same ?w2ha ?w2hb ?w2hi ?w2hj ?w2g1 ?w2e ?w2hu ?_)
                  (case w2ha => exact News.isList (by k_asm) (by k_mem))
                  (case w2hb => exact News.isList (by k_asm) (by k_mem))
                  (case w2hi => exact .cons _ _ (.cons _ _ (.cons _ _ (.cons _ _ (.cons _ _ (.cons _ _ .nil))))))
                  (case w2hj => exact .cons _ _ (.cons _ _ (.cons _ _ (.cons _ _ (.cons _ _ (.cons _ _ .nil))))))
                  (case w2g1 => exact okL_cons (strOk_good (good_send (good_hear (good_tell hg)))) (okL_cons (strOk_good (good_hear (good_send (good_tell hg)))) (okL_cons (strOk_good (good_send (good_tell (good_hear hg)))) (okL_cons (strOk_good (good_tell (good_send (good_hear hg)))) (okL_cons (strOk_good (good_hear (good_tell (good_send hg)))) (okL_cons (strOk_good (good_tell (good_hear (good_send hg)))) okL_nil))))))
                  (case w2e => rw [heard_good (good_tell hg), heard_good (good_send (good_tell hg)), heard_good hg, heard_good (good_tell (good_send hg)), heard_good (good_send hg)])
                  (case w2hu => ke_room)
                  k_steps
                  refine hold_out ?_
                  refine ne_str_same (send_tellS T) ?_
                  k_steps
                  · rename List.isEmpty _ = true => hoc
                    have hsh := send_hear_bool T l3 e3
                    rw [hoc] at hsh
                    refine hold_out ?_
                    k_dflt (refine' notin_list_strs (ys := l3.map fun x => x.1) ?w3hl ?w3hi ?_)
                    (case w3hl => exact News.isList (by k_asm) (by k_mem))
                    (case w3hi => exact strsAre_vals l3)
                    k_steps
                    refine hold_out ?_
                    refine ne_bool_same (hsh.trans (Bool.true_and _)) ?_
                    clear hsh
                    k_steps
                    refine hold_out ?_
                    k_dflt (refine' es_ne ?w4ha ?w4hb ?w4hi ?w4hj ?w4g1 ?w4g2 ?w4hu ?_)
                    (case w4ha => exact News.isList (by k_asm) (by k_mem))
                    (case w4hb => exact News.isList (by k_asm) (by k_mem))
                    (case w4hi => exact hS5)
                    (case w4hj => exact .cons _ _ .nil)
                    (case w4g1 => exact behind_ok hg)
                    (case w4g2 => exact okL_cons (by decide +kernel) okL_nil)
                    (case w4hu => ke_room)
                    k_steps
                    · refine hold_out ?_
                      refine eq_bool_same (end_one hg (by assumption)) ?_
                      k_steps
                    · refine hold_out ?_
                      k_dflt (refine' es_ne ?w5ha ?w5hb ?w5hi ?w5hj ?w5g1 ?w5g2 ?w5hu ?_)
                      (case w5ha => exact News.isList (by k_asm) (by k_mem))
                      (case w5hb => exact News.isList (by k_asm) (by k_mem))
                      (case w5hi => exact hS5)
                      (case w5hj => exact .cons _ _ .nil)
                      (case w5g1 => exact behind_ok hg)
                      (case w5g2 => exact okL_cons (by decide +kernel) okL_nil)
                      (case w5hu => ke_room)
                      k_steps
                      refine hold_out ?_
                      refine eq_bool_same (end_two hg (by assumption)) ?_
                      k_steps
                  · rename List.isEmpty _ = false => hoc
                    have hsh := send_hear_bool T l3 e3
                    rw [hoc] at hsh
                    refine hold_out ?_
                    refine ne_bool_same (hsh.trans ((Bool.false_and _).trans (by rw [hoc]; rfl))) ?_
                    clear hsh
                    k_steps
                    refine hold_out ?_
                    k_dflt (refine' es_ne ?w6ha ?w6hb ?w6hi ?w6hj ?w6g1 ?w6g2 ?w6hu ?_)
                    (case w6ha => exact News.isList (by k_asm) (by k_mem))
                    (case w6hb => exact News.isList (by k_asm) (by k_mem))
                    (case w6hi => exact hS5)
                    (case w6hj => exact .cons _ _ .nil)
                    (case w6g1 => exact behind_ok hg)
                    (case w6g2 => exact okL_cons (by decide +kernel) okL_nil)
                    (case w6hu => ke_room)
                    k_steps
                    · refine hold_out ?_
                      refine eq_bool_same (end_one hg (by assumption)) ?_
                      k_steps
                    · refine hold_out ?_
                      k_dflt (refine' es_ne ?w7ha ?w7hb ?w7hi ?w7hj ?w7g1 ?w7g2 ?w7hu ?_)
                      (case w7ha => exact News.isList (by k_asm) (by k_mem))
                      (case w7hb => exact News.isList (by k_asm) (by k_mem))
                      (case w7hi => exact hS5)
                      (case w7hj => exact .cons _ _ .nil)
                      (case w7g1 => exact behind_ok hg)
                      (case w7g2 => exact okL_cons (by decide +kernel) okL_nil)
                      (case w7hu => ke_room)
                      k_steps
                      refine hold_out ?_
                      refine eq_bool_same (end_two hg (by assumption)) ?_
                      k_steps)
end
end Mine
end
theorem PySem.Challenge.cw_rw0018_02_holds : PySem.Challenge.rw_rw0018_02.Holds := by
  exact Mine.law_main
