import PyProof.Rows.All
import Wide.All
import OpenK.AllK
import Wide.FinOn
import KE.KPop
import KE.KDictIter
import KE.KTryDeep
import Lean
import PySem.Challenge.RW_rw0018_01
set_option Elab.async false
section
open PySem PySem.W PyProof.Rows
set_option Elab.async false
set_option maxRecDepth 100000
namespace Mine
open Builtin Builtin.Str in
section
def ofL (l : List Nat) : Str := ⟨l.toArray⟩
theorem len_eq (x : Str) : x.cps.toList.length = x.length := by simp [PySem.Str.length]
theorem ofL_toList (x : Str) : ofL x.cps.toList = x := PySem.Str.ext' rfl
theorem ofL_length (l : List Nat) : (ofL l).length = l.length := by simp [ofL, PySem.Str.length]
theorem ofL_append (a b : List Nat) : ofL a ++ ofL b = ofL (a ++ b) := PySem.Str.ext' (by simp [ofL, PySem.Str.cps_append])
theorem ofL_list (l : List Nat) : (ofL l).cps.toList = l := rfl
theorem ofL_inj {a b : List Nat} : ofL a = ofL b ↔ a = b := ⟨fun h => by have := congrArg (fun s : Str => s.cps.toList) h; simpa [ofL] using this, fun h => by rw [h]⟩
theorem ofL_beq (a b : List Nat) : (ofL a == ofL b) = (a == b) := by
  rw [Bool.eq_iff_iff, beq_iff_eq, beq_iff_eq, ofL_inj]
theorem eq_ofL {x : Str} {l : List Nat} (h : x.cps.toList = l) : x = ofL l := by rw [← h, ofL_toList]

/-! replace, on lists -/
def repL (p z : List Nat) : Nat → List Nat → List Nat
  | _, [] => []
  | k + 1, _ :: r => repL p z k r
  | 0, c :: r => if p.isPrefixOf (c :: r) then z ++ repL p z (p.length - 1) r else c :: repL p z 0 r
theorem repL_nil (p z : List Nat) (k : Nat) : repL p z k [] = [] := by cases k <;> rfl
theorem repL_skip (p z : List Nat) : ∀ (k : Nat) (l : List Nat), repL p z k l = repL p z 0 (l.drop k)
  | 0, _ => rfl
  | k + 1, [] => by rw [List.drop_nil, repL_nil, repL_nil]
  | k + 1, _ :: r => by rw [List.drop_succ_cons]; exact repL_skip p z k r
theorem repL_hit {p z l : List Nat} (hp : p ≠ []) (h : p <+: l) : repL p z 0 l = z ++ repL p z 0 (l.drop p.length) := by
  cases l with
  | nil => exact absurd (List.prefix_nil.mp h) hp
  | cons c r =>
    show (if p.isPrefixOf (c :: r) then z ++ repL p z (p.length - 1) r else c :: repL p z 0 r) = _
    rw [if_pos (List.isPrefixOf_iff_prefix.mpr h), repL_skip]
    obtain ⟨a, q, rfl⟩ : ∃ a q, p = a :: q := by cases p with | nil => exact absurd rfl hp | cons a q => exact ⟨a, q, rfl⟩
    rfl
theorem repL_miss {p z r : List Nat} {c : Nat} (h : ¬ p <+: (c :: r)) : repL p z 0 (c :: r) = c :: repL p z 0 r := by
  show (if p.isPrefixOf (c :: r) then z ++ repL p z (p.length - 1) r else c :: repL p z 0 r) = _
  rw [if_neg (fun q => h (List.isPrefixOf_iff_prefix.mp q))]
theorem repL_none {p z : List Nat} : ∀ (l : List Nat), (∀ k, k < l.length → ¬ p <+: l.drop k) → repL p z 0 l = l
  | [], _ => rfl
  | c :: r, h => by
    rw [repL_miss (h 0 (Nat.succ_pos _)), repL_none r fun k hk => h (k + 1) (Nat.succ_lt_succ hk)]
theorem repL_first {p z : List Nat} (hp : p ≠ []) : ∀ (n : Nat) (l : List Nat), (∀ j, j < n → ¬ p <+: l.drop j) → p <+: l.drop n → repL p z 0 l = l.take n ++ (z ++ repL p z 0 (l.drop (n + p.length)))
  | 0, l, _, h => by rw [Nat.zero_add]; exact repL_hit hp h
  | n + 1, [], _, h => by rw [List.drop_nil] at h; exact absurd (List.prefix_nil.mp h) hp
  | n + 1, c :: r, hn, h => by
    rw [repL_miss (hn 0 (Nat.succ_pos _)), repL_first hp n r (fun j hj => hn (j + 1) (Nat.succ_lt_succ hj)) h]
    have e : n + 1 + p.length = (n + p.length) + 1 := by omega
    rw [e, List.drop_succ_cons, List.take_succ_cons]
    rfl

theorem at_iff (x y : Str) (hy : 1 ≤ y.length) (k : Nat) : StrLaws.At x y x.length k ↔ y.cps.toList <+: x.cps.toList.drop k := by
  unfold StrLaws.At
  rw [StrLaws.subAt_eq, beq_iff_eq, List.prefix_iff_eq_take, len_eq]
  constructor
  · exact fun h => h.2.symm
  · intro h
    refine ⟨?_, h.symm⟩
    have h1 := congrArg List.length h
    rw [len_eq, List.length_take, List.length_drop, len_eq] at h1
    omega

theorem sub_tail (x : Str) (a : Nat) : (strSub x a x.length).cps.toList = x.cps.toList.drop a := by
  rw [StrLaws.strSub_toList]
  exact List.take_of_length_le (by rw [List.length_drop, len_eq]; omega)

theorem join_cons (z a : Str) {l : List Str} (h : l ≠ []) : Str.join z (a :: l) = a ++ z ++ Str.join z l := by
  cases l with
  | nil => exact absurd rfl h
  | cons b r => rfl
theorem partsFrom_ne' (x : Str) (w a : Nat) (cuts : List Nat) : StrLaws.partsFrom x w a cuts ≠ [] := by
  cases cuts <;> exact List.cons_ne_nil _ _

theorem join_parts (x y z : Str) (hy : 1 ≤ y.length) : ∀ (cuts : List Nat) (a f : Nat), StrLaws.ChainG x y x.length a cuts f → (∀ k, f ≤ k → ¬ StrLaws.At x y x.length k) →
    (Str.join z (StrLaws.partsFrom x y.length a cuts)).cps.toList = repL y.cps.toList z.cps.toList 0 (x.cps.toList.drop a)
  | [], a, f, h, hn => by
    have e : f = a := h
    subst e
    show (strSub x f x.length).cps.toList = _
    rw [sub_tail, repL_none]
    intro k hk
    rw [List.drop_drop]
    exact fun q => hn (f + k) (by omega) ((at_iff x y hy _).mpr q)
  | c :: r, a, f, h, hn => by
    obtain ⟨hac, hat, hno, hr⟩ := h
    show (Str.join z (strSub x a c :: StrLaws.partsFrom x y.length (c + y.length) r)).cps.toList = _
    rw [join_cons z _ (partsFrom_ne' _ _ _ _)]
    simp only [PySem.Str.cps_append, Array.toList_append]
    rw [join_parts x y z hy r _ f hr hn, StrLaws.strSub_toList]
    have hp : y.cps.toList ≠ [] := by
      intro q
      have := congrArg List.length q
      rw [len_eq] at this
      simp at this; omega
    have e1 : c = a + (c - a) := by omega
    rw [repL_first (n := c - a) (l := x.cps.toList.drop a) hp, List.drop_drop, List.append_assoc]
    · rw [len_eq, show a + (c - a + y.length) = c + y.length by omega]
    · intro j hj
      rw [List.drop_drop]
      exact fun q => hno (a + j) (by omega) (by omega) ((at_iff x y hy _).mpr q)
    · rw [List.drop_drop, ← e1]
      exact (at_iff x y hy _).mp hat

theorem replace_list (x y z : Str) (hy : 1 ≤ y.length) : (Txt.replace x y z).cps.toList = repL y.cps.toList z.cps.toList 0 x.cps.toList := by
  obtain ⟨f, hc, hn⟩ := StrLaws.occ_tight x y hy
  have h := join_parts x y z hy _ 0 f hc hn
  rw [List.drop_zero] at h
  rw [← h]
  have hy0 : (y.length == 0) = false := by simp; omega
  unfold Txt.replace
  rw [hy0, Bool.false_and, Bool.or_false]
  cases he : (occurrences x y 0 x.length (x.length + 1)).isEmpty
  · rw [if_neg Bool.false_ne_true, StrLaws.glued_eq_join, StrLaws.partsBetween_eq]
  · rw [if_pos rfl]
    rw [List.isEmpty_iff] at he
    rw [he]
    show x.cps.toList = (strSub x 0 x.length).cps.toList
    rw [sub_tail, List.drop_zero]
theorem repL_len {p z : List Nat} (hz : z.length ≤ p.length) : ∀ (n : Nat) (l : List Nat), l.length ≤ n → (repL p z 0 l).length ≤ l.length
  | _, [], _ => by rw [repL_nil]; exact Nat.le_refl _
  | 0, _ :: _, h => absurd h (Nat.not_succ_le_zero _)
  | n + 1, c :: r, h => by
    by_cases hp : p = []
    · subst hp
      have hz0 : z = [] := List.eq_nil_of_length_eq_zero (by simpa using hz)
      subst hz0
      show (if ([] : List Nat).isPrefixOf (c :: r) then [] ++ repL [] [] (0 - 1) r else _).length ≤ _
      rw [if_pos (show ([] : List Nat).isPrefixOf (c :: r) = true from rfl)]
      have := repL_len (p := []) (z := []) (by simp) n r (by simp at h; omega)
      simp only [List.nil_append, List.length_cons]
      exact Nat.le_succ_of_le this
    by_cases hq : p <+: (c :: r)
    · rw [repL_hit hp hq]
      have hl := hq.length_le
      have hpos : 1 ≤ p.length := by
        cases p with
        | nil => exact absurd rfl hp
        | cons a q => exact Nat.succ_pos _
      have := repL_len hz n ((c :: r).drop p.length) (by rw [List.length_drop]; simp only [List.length_cons] at h ⊢; omega)
      rw [List.length_append]
      rw [List.length_drop] at this
      omega
    · rw [repL_miss hq]
      have := repL_len hz n r (by simp only [List.length_cons] at h; omega)
      simp only [List.length_cons]; omega
theorem repL_len2 {p z : List Nat} (hz : z.length ≤ 2) : ∀ (n : Nat) (l : List Nat), l.length ≤ n → (repL p z 0 l).length ≤ 3 * l.length
  | _, [], _ => by rw [repL_nil]; exact Nat.zero_le _
  | 0, _ :: _, h => absurd h (Nat.not_succ_le_zero _)
  | n + 1, c :: r, h => by
    by_cases hq : p.isPrefixOf (c :: r) = true
    · show (if p.isPrefixOf (c :: r) then z ++ repL p z (p.length - 1) r else _).length ≤ _
      rw [if_pos hq, repL_skip, List.length_append]
      have := repL_len2 (p := p) hz n (r.drop (p.length - 1)) (by rw [List.length_drop]; simp only [List.length_cons] at h; omega)
      rw [List.length_drop] at this
      simp only [List.length_cons]; omega
    · show (if p.isPrefixOf (c :: r) then _ else c :: repL p z 0 r).length ≤ _
      rw [if_neg hq]
      have := repL_len2 (p := p) hz n r (by simp only [List.length_cons] at h; omega)
      simp only [List.length_cons]; omega

/-! one sign, two signs -/
def rep1 (a : Nat) (z : List Nat) (l : List Nat) : List Nat := l.flatMap fun c => if c = a then z else [c]
theorem repL_one (a : Nat) (z : List Nat) : ∀ l : List Nat, repL [a] z 0 l = rep1 a z l
  | [] => rfl
  | c :: r => by
    by_cases h : c = a
    · subst h
      rw [repL_hit (List.cons_ne_nil _ _) (by simp)]
      show z ++ repL [c] z 0 r = (if c = c then z else [c]) ++ rep1 c z r
      rw [if_pos rfl, repL_one c z r]
    · rw [repL_miss (by simp; exact fun q => h q.symm)]
      show c :: repL [a] z 0 r = (if c = a then z else [c]) ++ rep1 a z r
      rw [if_neg h, repL_one a z r]; rfl
theorem repL_two_hit (a b : Nat) (z r : List Nat) : repL [a, b] z 0 (a :: b :: r) = z ++ repL [a, b] z 0 r := by
  rw [repL_hit (List.cons_ne_nil _ _) (by simp)]; rfl
theorem repL_two_miss {a b c : Nat} (z r : List Nat) (h : c ≠ a) : repL [a, b] z 0 (c :: r) = c :: repL [a, b] z 0 r :=
  repL_miss (by simp; exact fun q => absurd q.symm h)
theorem repL_two_miss2 {a b c d : Nat} (z r : List Nat) (h : d ≠ b) : repL [a, b] z 0 (c :: d :: r) = c :: repL [a, b] z 0 (d :: r) :=
  repL_miss (by simp; exact fun _ q => absurd q.symm h)
theorem repL_two_one {a b c : Nat} (z : List Nat) : repL [a, b] z 0 [c] = [c] := by
  rw [repL_miss (by intro q; have := q.length_le; simp at this), repL_nil]

/-! split, on lists -/
def splitL (c : Nat) : List Nat → List (List Nat)
  | [] => [[]]
  | d :: r => if d = c then [] :: splitL c r else match splitL c r with
    | [] => [[d]]
    | h :: t => (d :: h) :: t
theorem splitL_ne (c : Nat) : ∀ l, splitL c l ≠ []
  | [] => List.cons_ne_nil _ _
  | d :: r => by
    unfold splitL
    split
    · exact List.cons_ne_nil _ _
    · split <;> exact List.cons_ne_nil _ _
def joinL (z : List Nat) : List (List Nat) → List Nat
  | [] => []
  | [a] => a
  | a :: b :: r => a ++ z ++ joinL z (b :: r)
theorem join_list (z : Str) : ∀ l : List Str, (Str.join z l).cps.toList = joinL z.cps.toList (l.map fun s => s.cps.toList)
  | [] => rfl
  | [_] => rfl
  | a :: b :: r => by
    show (a ++ z ++ Str.join z (b :: r)).cps.toList = a.cps.toList ++ z.cps.toList ++ joinL z.cps.toList ((b :: r).map fun s => s.cps.toList)
    simp only [PySem.Str.cps_append, Array.toList_append]
    rw [join_list z (b :: r)]
theorem splitL_cat (c : Nat) (r : List Nat) : ∀ a : List Nat, c ∉ a → splitL c (a ++ [c] ++ r) = a :: splitL c r
  | [], _ => by show (if c = c then [] :: splitL c r else _) = _; rw [if_pos rfl]
  | d :: a, h => by
    have hd : d ≠ c := fun q => h (q ▸ List.mem_cons_self)
    show (if d = c then _ else match splitL c (a ++ [c] ++ r) with | [] => [[d]] | h :: t => (d :: h) :: t) = _
    rw [if_neg hd, splitL_cat c r a (fun q => h (List.mem_cons_of_mem _ q))]
theorem splitL_free (c : Nat) : ∀ a : List Nat, c ∉ a → splitL c a = [a]
  | [], _ => rfl
  | d :: a, h => by
    have hd : d ≠ c := fun q => h (q ▸ List.mem_cons_self)
    show (if d = c then _ else match splitL c a with | [] => [[d]] | h :: t => (d :: h) :: t) = _
    rw [if_neg hd, splitL_free c a (fun q => h (List.mem_cons_of_mem _ q))]
theorem splitL_join (c : Nat) : ∀ P : List (List Nat), P ≠ [] → (∀ a ∈ P, c ∉ a) → splitL c (joinL [c] P) = P
  | [], h, _ => absurd rfl h
  | [a], _, h => splitL_free c a (h a List.mem_cons_self)
  | a :: b :: r, _, h => by
    show splitL c (a ++ [c] ++ joinL [c] (b :: r)) = _
    rw [splitL_cat c _ a (h a List.mem_cons_self), splitL_join c (b :: r) (List.cons_ne_nil _ _) fun q hq => h q (List.mem_cons_of_mem _ hq)]
theorem split_ne (x y : Str) : Txt.split x y ≠ [] := by
  unfold Txt.split
  split
  · exact List.cons_ne_nil _ _
  · split
    · exact List.cons_ne_nil _ _
    · rw [StrLaws.partsBetween_eq]; exact partsFrom_ne' _ _ _ _
theorem split_list (x : Str) (c : Nat) : (Txt.split x (ofL [c])).map (fun s => s.cps.toList) = splitL c x.cps.toList := by
  have h1 := StrLaws.join_split x (ofL [c])
  have h2 : joinL [c] ((Txt.split x (ofL [c])).map fun s => s.cps.toList) = x.cps.toList := by
    rw [← congrArg (fun s : Str => s.cps.toList) h1, join_list]; rfl
  rw [← h2]
  refine (splitL_join c _ (by simpa using split_ne x (ofL [c])) fun a ha => ?_).symm
  obtain ⟨s, hs, rfl⟩ := List.mem_map.mp ha
  exact StrLaws.split_free x c s hs
theorem split_ofL (l : List Nat) (c : Nat) : Txt.split (ofL l) (ofL [c]) = (splitL c l).map ofL := by
  have h := split_list (ofL l) c
  rw [ofL_list] at h
  rw [← h, List.map_map]
  refine (List.map_id _).symm.trans (List.map_congr_left fun s _ => (ofL_toList s).symm)
end
end Mine
end
section
open PySem PySem.W PyProof.Rows
set_option Elab.async false
set_option maxRecDepth 100000
namespace Mine
/-! sending: rows end in return and feed; a row's first dot is doubled -/
def sendG : Bool → List Nat → List Nat
  | _, [] => []
  | b, c :: r =>
    if c = 13 then 13 :: 10 :: (match r with
      | [] => []
      | d :: r' => if d = 10 then sendG true r' else sendG true (d :: r'))
    else if c = 10 then 13 :: 10 :: sendG true r
    else if b = true ∧ c = 46 then 46 :: 46 :: sendG false r
    else c :: sendG false r
theorem sendG_nil (b : Bool) : sendG b [] = [] := by unfold sendG; rfl
theorem sendG_rf (b : Bool) (r : List Nat) : sendG b (13 :: 10 :: r) = 13 :: 10 :: sendG true r := by rw [sendG.eq_def]; simp
theorem sendG_r (b : Bool) {d : Nat} (r : List Nat) (h : d ≠ 10) : sendG b (13 :: d :: r) = 13 :: 10 :: sendG true (d :: r) := by rw [sendG.eq_def]; simp [h]
theorem sendG_r1 (b : Bool) : sendG b [13] = [13, 10] := by rw [sendG.eq_def]; simp
theorem sendG_f (b : Bool) (r : List Nat) : sendG b (10 :: r) = 13 :: 10 :: sendG true r := by rw [sendG.eq_def]; simp
theorem sendG_dot (r : List Nat) : sendG true (46 :: r) = 46 :: 46 :: sendG false r := by rw [sendG.eq_def]; simp
theorem sendG_c (b : Bool) {c : Nat} (r : List Nat) (h1 : c ≠ 13) (h2 : c ≠ 10) (h3 : ¬ (b = true ∧ c = 46)) : sendG b (c :: r) = c :: sendG false r := by
  rw [sendG.eq_def]; simp only [h1, h2, h3, if_false]
theorem sendG_false {c : Nat} (r : List Nat) (h1 : c ≠ 13) (h2 : c ≠ 10) : sendG false (c :: r) = c :: sendG false r := sendG_c false r h1 h2 (by simp)

/-- cases on a text's head, as sending looks at it -/
theorem send_cases {P : List Nat → Prop} (h0 : P []) (h1 : ∀ r, P r → P (13 :: 10 :: r)) (h2 : P [13]) (h3 : ∀ d r, d ≠ 10 → P (d :: r) → P (13 :: d :: r)) (h4 : ∀ r, P r → P (10 :: r)) (h5 : ∀ c r, c ≠ 13 → c ≠ 10 → P r → P (c :: r)) : ∀ l, P l := by
  have key : ∀ n (l : List Nat), l.length ≤ n → P l := by
    intro n
    induction n with
    | zero => intro l hl; rw [List.length_eq_zero_iff.mp (Nat.le_zero.mp hl)]; exact h0
    | succ n ih =>
      intro l hl
      match l, hl with
      | [], _ => exact h0
      | [c], _ =>
        by_cases hc : c = 13
        · subst hc; exact h2
        · by_cases hd : c = 10
          · subst hd; exact h4 [] h0
          · exact h5 c [] hc hd h0
      | c :: d :: r, hl =>
        simp only [List.length_cons] at hl
        by_cases hc : c = 13
        · subst hc
          by_cases hd : d = 10
          · subst hd; exact h1 r (ih r (by omega))
          · exact h3 d r hd (ih (d :: r) (by simp only [List.length_cons]; omega))
        · by_cases hd : c = 10
          · subst hd; exact h4 _ (ih _ (by simp only [List.length_cons]; omega))
          · exact h5 c _ hc hd (ih _ (by simp only [List.length_cons]; omega))
  exact fun l => key l.length l (Nat.le_refl _)

theorem sendG_len (l : List Nat) : ∀ b, (sendG b l).length ≤ 2 * l.length := by
  refine send_cases (P := fun l => ∀ b, (sendG b l).length ≤ 2 * l.length) ?_ ?_ ?_ ?_ ?_ ?_ l
  · intro b; rw [sendG_nil]; exact Nat.zero_le _
  · intro r ih b; rw [sendG_rf]; have := ih true; simp only [List.length_cons]; omega
  · intro b; rw [sendG_r1]; simp
  · intro d r hd ih b; rw [sendG_r b r hd]; have := ih true; simp only [List.length_cons] at this ⊢; omega
  · intro r ih b; rw [sendG_f]; have := ih true; simp only [List.length_cons]; omega
  · intro c r h1 h2 ih b
    have := ih false
    by_cases h3 : b = true ∧ c = 46
    · obtain ⟨rfl, rfl⟩ := h3; rw [sendG_dot]; simp only [List.length_cons]; omega
    · rw [sendG_c b r h1 h2 h3]; simp only [List.length_cons]; omega

/-! by rows -/
def n1 (l : List Nat) : List Nat := rep1 13 [10] (repL [13, 10] [10] 0 l)
theorem rep1_cons (a : Nat) (z : List Nat) (c : Nat) (r : List Nat) : rep1 a z (c :: r) = (if c = a then z else [c]) ++ rep1 a z r := rfl
theorem n1_rf (r : List Nat) : n1 (13 :: 10 :: r) = 10 :: n1 r := by unfold n1; rw [repL_two_hit, List.singleton_append, rep1_cons]; rfl
theorem n1_r {d : Nat} (r : List Nat) (h : d ≠ 10) : n1 (13 :: d :: r) = 10 :: n1 (d :: r) := by unfold n1; rw [repL_two_miss2 _ _ h, rep1_cons]; rfl
theorem n1_r1 : n1 [13] = [10] := by unfold n1; rw [repL_two_one]; rfl
theorem n1_c {c : Nat} (r : List Nat) (h : c ≠ 13) : n1 (c :: r) = c :: n1 r := by unfold n1; rw [repL_two_miss _ _ h, rep1_cons, if_neg h]; rfl
def dotIf (b : Bool) (p : List Nat) : List Nat := if b = true ∧ p.head? = some 46 then 46 :: p else p
theorem splitL_hit (c : Nat) (r : List Nat) : splitL c (c :: r) = [] :: splitL c r := by show (if c = c then [] :: splitL c r else _) = _; rw [if_pos rfl]
theorem splitL_miss {c d : Nat} {r p : List Nat} {t : List (List Nat)} (h : d ≠ c) (e : splitL c r = p :: t) : splitL c (d :: r) = (d :: p) :: t := by
  show (if d = c then _ else match splitL c r with | [] => [[d]] | h :: t => (d :: h) :: t) = _
  rw [if_neg h, e]
theorem splitL_some (c : Nat) (l : List Nat) : ∃ p t, splitL c l = p :: t := by
  cases h : splitL c l with
  | nil => exact absurd h (splitL_ne c l)
  | cons p t => exact ⟨p, t, rfl⟩
theorem joinL_cons (z a : List Nat) {P : List (List Nat)} (h : P ≠ []) : joinL z (a :: P) = a ++ z ++ joinL z P := by
  cases P with
  | nil => exact absurd rfl h
  | cons b r => rfl
theorem joinL_push (z a : List Nat) (c : Nat) (P : List (List Nat)) : joinL z ((c :: a) :: P) = c :: joinL z (a :: P) := by
  cases P with
  | nil => rfl
  | cons b r => rfl
theorem rows_send (l : List Nat) : ∀ b p t, splitL 10 (n1 l) = p :: t → joinL [13, 10] (dotIf b p :: t.map (dotIf true)) = sendG b l := by
  refine send_cases (P := fun l => ∀ b p t, splitL 10 (n1 l) = p :: t → joinL [13, 10] (dotIf b p :: t.map (dotIf true)) = sendG b l) ?_ ?_ ?_ ?_ ?_ ?_ l
  · intro b p t h
    have h' : [[]] = p :: t := h
    obtain ⟨rfl, rfl⟩ := List.cons.inj h'
    rw [sendG_nil]; cases b <;> rfl
  · intro r ih b p t h
    rw [n1_rf, splitL_hit] at h
    obtain ⟨rfl, rfl⟩ := List.cons.inj h
    obtain ⟨p', t', e⟩ := splitL_some 10 (n1 r)
    rw [e, sendG_rf, List.map_cons, joinL_cons _ _ (List.cons_ne_nil _ _), ih true p' t' e]
    cases b <;> rfl
  · intro b p t h
    rw [n1_r1, splitL_hit] at h
    obtain ⟨rfl, rfl⟩ := List.cons.inj h
    rw [sendG_r1]; cases b <;> rfl
  · intro d r hd ih b p t h
    rw [n1_r r hd, splitL_hit] at h
    obtain ⟨rfl, rfl⟩ := List.cons.inj h
    obtain ⟨p', t', e⟩ := splitL_some 10 (n1 (d :: r))
    rw [e, sendG_r b r hd, List.map_cons, joinL_cons _ _ (List.cons_ne_nil _ _), ih true p' t' e]
    cases b <;> rfl
  · intro r ih b p t h
    rw [n1_c r (by decide), splitL_hit] at h
    obtain ⟨rfl, rfl⟩ := List.cons.inj h
    obtain ⟨p', t', e⟩ := splitL_some 10 (n1 r)
    rw [e, sendG_f, List.map_cons, joinL_cons _ _ (List.cons_ne_nil _ _), ih true p' t' e]
    cases b <;> rfl
  · intro c r h1 h2 ih b p t h
    obtain ⟨p', t', e⟩ := splitL_some 10 (n1 r)
    rw [n1_c r h1, splitL_miss h2 e] at h
    obtain ⟨rfl, rfl⟩ := List.cons.inj h
    have hi := ih false p' t' e
    have e0 : dotIf false p' = p' := by unfold dotIf; rw [if_neg (by simp)]
    rw [e0] at hi
    by_cases h3 : b = true ∧ c = 46
    · obtain ⟨rfl, rfl⟩ := h3
      rw [sendG_dot, show dotIf true (46 :: p') = 46 :: 46 :: p' by unfold dotIf; rw [if_pos ⟨rfl, rfl⟩], joinL_push, joinL_push, hi]
    · rw [sendG_c b r h1 h2 h3, show dotIf b (c :: p') = c :: p' by unfold dotIf; rw [if_neg (by simpa using h3)], joinL_push, hi]
def sendL (l : List Nat) : List Nat := sendG true l
end Mine
end
section
open PySem PySem.W PyProof.Rows
set_option Elab.async false
set_option maxRecDepth 100000
namespace Mine
theorem join_fit {x : Str} {texts : List Str} (h : (texts.map fun y => y.length).sum + texts.length * x.length ≤ 1000000) : JoinOk x texts = true := by
  unfold JoinOk Builtin.Str.tooLong
  rw [StrLaws.joinTotal, sizeLine_eq, Bool.not_eq_true']
  exact decide_eq_false (by omega)
section
variable {prog : Program} {w : World} {A : Around} {E : Value → Shared → Prop} {s : Shared} {x : Str} {t : Tok} {Q : Value → Shared → Prop}
theorem joinP {D : Addr} {l : List (Str × Tok)} (hl : s.heap.IsList D (strValues l).toArray) (hok : ((l.map fun x => x.1).map fun y => y.length).sum + (l.map fun x => x.1).length * x.length ≤ 1000000)
    (hq : ∀ t' k, Q (.str (Str.join x (l.map fun x => x.1)) t') { s with toks := k }) : wpAny (model prog w) A (call (.builtin "str.join") [.str x t, .ref D]) Q E s :=
  SC.join hl rfl (join_fit hok) fun t' k => by
    have h := hq t' k
    rw [← StrLaws.glued_eq_join] at h
    exact h
end

end Mine
end
section
open PySem PySem.W PyProof.Rows
set_option Elab.async false
set_option maxRecDepth 100000
namespace Mine

def Hold (P : Prop) : Prop := P
theorem hold_intro {P : Prop} (h : Hold P) : P := h
theorem hold_out {P : Prop} (h : P) : Hold P := h

def WTurn (h₀ : Heap) (L : Addr) (news : List (Addr × Obj)) (J : Nat → (Str → Option Value) → Prop) (n : Nat) (s : Shared) (Q : Flow → Shared → Prop) (f : Flow) (s' : Shared) : Prop :=
  match f with
  | .ret v => Q (.ret v) s'
  | .brk => Q .next s'
  | _ => ∃ h tk m k, s' = { s with heap := h, toks := tk } ∧ Fr h₀ L h m ∧ News h₀ L h news ∧ k < n ∧ J k m

section
variable {h₀ : Heap} {L : Addr} {news : List (Addr × Obj)} {J : Nat → (Str → Option Value) → Prop} {n : Nat} {s s' : Shared} {Q : Flow → Shared → Prop}
theorem wturn_brk (h : Q .next s') : WTurn h₀ L news J n s Q .brk s' := h
theorem wturn_ret {v : Value} (h : Q (.ret v) s') : WTurn h₀ L news J n s Q (.ret v) s' := h
theorem wturn_next {h : Heap} {tk k : Nat} {m : Str → Option Value} (F : Fr h₀ L h m) (N : News h₀ L h news) (hk : k < n) (hJ : J k m) : WTurn h₀ L news J n s Q .next ⟨h, s.gens, s.drawn, tk, s.os⟩ := ⟨h, tk, m, k, rfl, F, N, hk, hJ⟩
end

theorem Fr_congr {h₀ : Heap} {L : Addr} {h : Heap} {m m' : Str → Option Value} (F : Fr h₀ L h m) (e : ∀ y, m' y = m y) : Fr h₀ L h m' := by
  have : m' = m := funext e
  subst this; exact F

def putAll : List (Str × Value) → (Str → Option Value) → (Str → Option Value)
  | [], m => m
  | p :: r, m => fun y => if y = p.1 then some p.2 else putAll r m y
def AllAt (m : Str → Option Value) : List (Str × Value) → Prop
  | [] => True
  | p :: r => m p.1 = some p.2 ∧ AllAt m r
theorem putAll_eq {m : Str → Option Value} : ∀ (l : List (Str × Value)), AllAt m l → ∀ y, putAll l m y = m y
  | [], _, _ => rfl
  | p :: r, e, y => by
    show (if y = p.1 then some p.2 else putAll r m y) = m y
    by_cases q : y = p.1
    · subst q; rw [if_pos rfl, e.1]
    · rw [if_neg q]; exact putAll_eq r e.2 y
theorem Fr_puts {h₀ : Heap} {L : Addr} {h : Heap} {m : Str → Option Value} {l : List (Str × Value)} (F : Fr h₀ L h m) (e : AllAt m l) : Fr h₀ L h (putAll l m) := Fr_congr F (putAll_eq l e)

theorem gen_toks {α : Type} {M : Model} {A : Around} {t : Sem α} {Q : α → Shared → Prop} {E : Value → Shared → Prop} {h : Heap} {g : Array GenState} {d : Drawn} {X : Nat} {o : OsState}
    (hpos : 0 < X) (k : ∀ tk, 0 < tk → wpAny M A t Q E ⟨h, g, d, tk, o⟩) : wpAny M A t Q E ⟨h, g, d, X, o⟩ := k X hpos

section
variable {prog : Program} {w : World} {A : Around} {E : Value → Shared → Prop} {s : Shared} {env : Env} {h₀ : Heap} {news : List (Addr × Obj)} {m₀ : Str → Option Value} {test : Expr} {body : List Stmt} {pos : Pos} {Q : Flow → Shared → Prop}

/-- a while loop whose turns change the frame alone and never raise -/
theorem while_inv (J : Nat → (Str → Option Value) → Prop) (n₀ : Nat) (F : Fr h₀ env.locals s.heap m₀) (N : News h₀ env.locals s.heap news) (hs : 0 < s.toks) (hj : J n₀ m₀)
    (turn : ∀ n m₁ h tk, 0 < tk → J n m₁ → Fr h₀ env.locals h m₁ → News h₀ env.locals h news →
      wpAny (model prog w) A (isTrue test env (eval test env)) (fun b s₂ => if b then wpAny (model prog w) A (execs body env) (WTurn h₀ env.locals news J n s Q) (fun _ _ => False) s₂ else Q .next s₂) (fun _ _ => False) ⟨h, s.gens, s.drawn, tk, s.os⟩) :
    wpAny (model prog w) A (exec (.While test body [] pos) env) Q E s := by
  refine wpAny_While ?_
  let I : Nat → Shared → Prop := fun n s' => ∃ h tk m, s' = ⟨h, s.gens, s.drawn, tk, s.os⟩ ∧ 0 < tk ∧ Fr h₀ env.locals h m ∧ News h₀ env.locals h news ∧ J n m
  refine codeAny_whileLoop I (fun n s₁ hI => ?_) n₀ ⟨s.heap, s.toks, m₀, rfl, hs, F, N, hj⟩
  obtain ⟨h, tk, m, rfl, htk, F₁, N₁, hJ⟩ := hI
  refine wpAny_with_toks (n := 1) htk ?_
  refine wpAny_mono (turn n m h tk htk hJ F₁ N₁) (fun b s₂ h₂ htk₂ => ?_) (fun _ _ h' _ => h'.elim)
  cases b with
  | false => exact wpAny_pure h₂
  | true =>
    simp only [if_true] at h₂ ⊢
    refine wpAny_with_toks (n := 1) htk₂ ?_
    refine wpAny_mono h₂ (fun f s₃ h₃ htk₃ => ?_) (fun _ _ h' _ => h'.elim)
    cases f with
    | next => obtain ⟨h', tk', m', k, e, F', N', hk, hJ'⟩ := h₃; subst e; exact ⟨k, hk, h', tk', m', rfl, htk₃, F', N', hJ'⟩
    | cont => obtain ⟨h', tk', m', k, e, F', N', hk, hJ'⟩ := h₃; subst e; exact ⟨k, hk, h', tk', m', rfl, htk₃, F', N', hJ'⟩
    | brk => exact h₃
    | ret v => exact h₃
end

/-- what a call of a def of the text's gives: a value of which R is so, the ledger as it was -/
def FnOk (prog : Program) (w : World) (K : Frag) (p : Program) (loose : List Str) (mean : ExcName → Option Value) (mg mb : Str → Option Value) (f : Addr) (d : Nat) (news : List (Addr × Obj)) (vs : List Value) (R : Value → Prop) : Prop :=
  ∀ (dp un : Nat) (gd : Option (List Code)) (cn : Str) (cs : Scope) (a : Addr) (ccd : Value) (cl : List (Str × Addr)) (outer : List Env) (A₀ : Around) (base h₀ : Heap) (L : Addr) (m : Str → Option Value) (s : Shared) (Q E : Value → Shared → Prop),
    Below A₀ base outer h₀ → Fr h₀ L s.heap m → K.In h₀ → News h₀ L s.heap news → Top p loose mean mg mb h₀ → cs.kind = .function → dp + d < recursionLimit → un + 8 * d < cLine →
    (∀ v h' tk', R v → Fr h₀ L h' m → News h₀ L h' news → Q v ⟨h', s.gens, s.drawn, tk', s.os⟩) →
      wpAny (model prog w) (ktrTop dp un gd cn cs L a ccd cl outer) (call (.ref f) vs) Q E s

section
variable {prog : Program} {w : World} {K : Frag} {p : Program} {loose : List Str} {mean : ExcName → Option Value} {mg mb : Str → Option Value} {f : Addr} {d : Nat} {news : List (Addr × Obj)} {vs : List Value} {R : Value → Prop}
  {dp un : Nat} {gd : Option (List Code)} {cn : Str} {cs : Scope} {a : Addr} {ccd : Value} {cl : List (Str × Addr)} {outer : List Env} {A₀ : Around} {base h₀ : Heap} {L : Addr} {m : Str → Option Value} {s : Shared} {Q E : Value → Shared → Prop}
theorem fn_use (H : FnOk prog w K p loose mean mg mb f d news vs R) (B : Below A₀ base outer h₀) (F : Fr h₀ L s.heap m) (X : K.In h₀) (N : News h₀ L s.heap news) (T : Top p loose mean mg mb h₀) (hk : cs.kind = .function) (hd : dp + d < recursionLimit) (hu : un + 8 * d < cLine)
    (ret : ∀ v h' tk', R v → Fr h₀ L h' m → News h₀ L h' news → Q v ⟨h', s.gens, s.drawn, tk', s.os⟩) :
    wpAny (model prog w) (ktrTop dp un gd cn cs L a ccd cl outer) (call (.ref f) vs) Q E s := H dp un gd cn cs a ccd cl outer A₀ base h₀ L m s Q E B F X N T hk hd hu ret
end

section
variable {prog : Program} {w : World} {A : Around} {E : Value → Shared → Prop} {s : Shared} {x y z : Str} {t u v : Tok} {Q : Value → Shared → Prop}
theorem replace_le (x y z : Str) (hz : z.length ≤ 2) (hy : 1 ≤ y.length) : (Txt.replace x y z).length ≤ 3 * x.length := by
  rw [← len_eq, ← len_eq, replace_list x y z hy]
  exact repL_len2 (by rw [len_eq]; exact hz) _ _ (Nat.le_refl _)
theorem replace_less (x y z : Str) (hy : 1 ≤ y.length) (hz : z.length ≤ y.length) : (Txt.replace x y z).length ≤ x.length := by
  rw [← len_eq, ← len_eq, replace_list x y z hy]
  exact repL_len (by rw [len_eq, len_eq]; exact hz) _ _ (Nat.le_refl _)
theorem replace_bound (x y z : Str) (hy : 1 ≤ y.length) (hz : z.length ≤ 2) : (Txt.replace x y z).length ≤ if z.length ≤ y.length then x.length else 3 * x.length := by
  split
  · rename_i h; exact replace_less x y z hy h
  · exact replace_le x y z hz hy
theorem of_if_t {a b c d : Nat} (h : a ≤ if b ≤ c then d else 3 * d) (q : b ≤ c) : a ≤ d := by rw [if_pos q] at h; exact h
theorem of_if_f {a b c d : Nat} (h : a ≤ if b ≤ c then d else 3 * d) (q : ¬ b ≤ c) : a ≤ 3 * d := by rw [if_neg q] at h; exact h
theorem replaceP (hs : 0 < s.toks) (hu : u ≠ 0) (hv : v ≠ 0) (huv : u ≠ v) (hyz : (y == z) = false) (hx : x.length ≤ 1048576) (hz : z.length ≤ 2) (hy : 1 ≤ y.length)
    (hq : ∀ t' k, 0 < k → ((Txt.replace x y z).length ≤ if z.length ≤ y.length then x.length else 3 * x.length) → Q (.str (Txt.replace x y z) t') { s with toks := k }) : wpAny (model prog w) A (call (.builtin "str.replace") [.str x t, .str y u, .str z v]) Q E s :=
  wpAny_with_toks (n := 1) hs (SC.replaceW hu hv huv hyz hx (by omega) fun t' k hk => hq t' k hk (replace_bound x y z hy hz))
end

theorem news_drop {h₀ h : Heap} {L : Addr} {q : Addr × Obj} {news : List (Addr × Obj)} (N : News h₀ L h (q :: news)) : News h₀ L h news := fun p hp => N p (.tail _ hp)

theorem strs_item {prog : Program} {w : World} {A : Around} {E : Value → Shared → Prop} {s : Shared} {value slice : PySem.Expr} {a : Addr} {l : List (Str × Tok)} {i : Int} {u : Tok} {Q : Value → Shared → Prop}
    (hl : s.heap.IsList a (strValues l).toArray) (h0 : 0 ≤ i) (h1 : i < l.length) (hf : l.length < 2 ^ 62) {n : Nat} (hb : ∀ z, z ∈ (l.map fun x => x.1) → z.length ≤ n) (h : ∀ z t, (l.map fun x => x.1)[i.toNat]? = some z → z.length ≤ n → Q (.str z t) s)
    (hs : subscripted slice false (.ref a) (.int i u) = operate [.ref a, .int i u] (getItem (.ref a) (.int i u)) := by with_unfolding_all rfl) :
    wpAny (model prog w) A (subscriptTail value slice (.ref a) (.int i u)) Q E s := by
  have hk : i.toNat < l.length := by omega
  refine tail_any hl.typeIs slot_list_getitem.lookup (wpAny_getItem_list (x := .str (l[i.toNat]).1 (l[i.toNat]).2) hl h0 (by omega) ?_ (h _ _ ?_ (hb _ (List.mem_map_of_mem (List.getElem_mem hk))))) hs
  · simp [strValues, hk]
  · simp [hk]

/-! a comprehension from texts to texts; join -/
def TxEl (news : List (Addr × Obj)) (r : Str) (y : Value) (news' : List (Addr × Obj)) : Prop := news' = news ∧ ∃ t : Tok, y = .str r t
theorem txEl {news : List (Addr × Obj)} {r r' : Str} {t : Tok} (e : r' = r) : TxEl news r (.str r' t) news := by subst e; exact ⟨rfl, t, rfl⟩
theorem txEnd {h₀ : Heap} {L I C D : Addr} {m : Str → Option Value} {s₁ : Shared} {oI oC oD : Obj} {S : List (Addr × Obj) → Prop} {h' : Heap} {tk : Nat} {all news : List (Addr × Obj)} {r r' : Str} {t : Tok}
    (F : Fr h₀ L h' m) (N : News h₀ L h' all) (sub : ∀ p ∈ (I, oI) :: (C, oC) :: (D, oD) :: news, p ∈ all) (off : LCg.Off3 I C D news) (hS : S news) (e : r' = r) :
    LCg.CompEnd h₀ L m s₁ I oI C oC D oD S (TxEl news r) (.str r' t) { s₁ with heap := h', toks := tk } := LCg.CompEnd.intro F N news sub off hS (txEl e)
section
variable {prog : Program} {w : World} {A : Around} {h₀ : Heap} {L : Addr} {m : Str → Option Value} {env : Env} {elt : Expr} {x : Str} {scope : Scope} {cl : List (Str × Addr)} {s : Shared} {S : List (Addr × Obj) → Prop} {Fin : List Value → List (Addr × Obj) → Prop} {news : List (Addr × Obj)}
theorem strValues_snoc (l : List (Str × Tok)) (y : Str) (t : Tok) : strValues l ++ [.str y t] = strValues (l ++ [(y, t)]) := by simp [strValues]
/-- by the turn's number: item i of the source is P i; the element is the text g i -/
theorem comp_texts {n : Nat} {P : Nat → Value → Prop} (g : Nat → Str) (hS : S news)
    (turn : ∀ i v I oI C oC D m₂ ys h tk (E' : Value → Shared → Prop), i < n → P i v → LCg.NsObj oC m₂ → m₂ x = some v → Fr h₀ L h m → News h₀ L h ((I, oI) :: (C, oC) :: (D, LCg.lst ys) :: news) → LCg.Off3 I C D news → ((@Ne Nat I C) ∧ (@Ne Nat I D) ∧ (@Ne Nat C D)) →
      wpAny (model prog w) A (eval elt (compEnvC scope cl C env)) (LCg.CompEnd h₀ L m { s with heap := h, toks := tk } I oI C oC D (LCg.lst ys) S (TxEl news (g i))) E' { s with heap := h, toks := tk })
    (fin : ∀ l' : List (Str × Tok), l'.map (fun x => x.1) = (List.range n).map g → Fin (strValues l') news) : LCg.CompRest prog w A h₀ L m env elt x scope cl s S P Fin n 0 [] news := by
  have key : ∀ (j i : Nat) (l' : List (Str × Tok)), i + j = n → l'.map (fun x => x.1) = (List.range i).map g → LCg.CompRest prog w A h₀ L m env elt x scope cl s S P Fin j i (strValues l') news := by
    intro j
    induction j with
    | zero =>
      intro i l' hi hy
      have e : i = n := by omega
      subst e
      exact LCg.CompRest.zero (fin l' hy)
    | succ j ih =>
      intro i l' hi hy
      refine LCg.CompRest.succ ?_
      intro v I oI C oC D m₂ h tk E' hv hC hx F N off ne
      refine wpAny_mono (turn i v I oI C oC D m₂ _ h tk E' (by omega) hv hC hx F N off ne) (fun y s₂ hq => ?_) fun _ _ e => e
      obtain ⟨h', tk', nw, e, F', N', off', hS', hn, t', hy'⟩ := hq
      subst hn
      subst hy'
      refine ⟨h', tk', nw, e, F', N', off', hS', ?_⟩
      show LCg.CompRest prog w A h₀ L m env elt x scope cl s S P Fin j (i + 1) (strValues l' ++ [.str (g i) t']) _
      rw [strValues_snoc]
      refine ih (i + 1) _ (by omega) ?_
      rw [List.map_append, hy, List.range_succ, List.map_append]
      rfl
  exact key n 0 [] (by omega) rfl
theorem comp_strs {l : List (Str × Tok)} (g : Str → Str) (hS : S news)
    (turn : ∀ z t I oI C oC D m₂ ys h tk (E' : Value → Shared → Prop), z ∈ l.map (fun x => x.1) → LCg.NsObj oC m₂ → m₂ x = some (.str z t) → Fr h₀ L h m → News h₀ L h ((I, oI) :: (C, oC) :: (D, LCg.lst ys) :: news) → LCg.Off3 I C D news → ((@Ne Nat I C) ∧ (@Ne Nat I D) ∧ (@Ne Nat C D)) →
      wpAny (model prog w) A (eval elt (compEnvC scope cl C env)) (LCg.CompEnd h₀ L m { s with heap := h, toks := tk } I oI C oC D (LCg.lst ys) S (TxEl news (g z))) E' { s with heap := h, toks := tk })
    (fin : ∀ l' : List (Str × Tok), l'.map (fun x => x.1) = (l.map fun x => x.1).map g → Fin (strValues l') news) : LCg.CompRest prog w A h₀ L m env elt x scope cl s S (fun i v => (strValues l).toArray[i]? = some v) Fin (strValues l).toArray.size 0 [] news := by
  have hsz : (strValues l).toArray.size = l.length := by simp [strValues]
  have hG : (List.range l.length).map (fun i => g ((l.getD i (Str.empty, 0)).1)) = (l.map fun x => x.1).map g := by
    refine List.ext_getElem (by simp) fun i h1 h2 => ?_
    simp only [List.length_map, List.length_range] at h1 h2
    simp [List.getD, h1]
  refine comp_texts (fun i => g ((l.getD i (Str.empty, 0)).1)) hS ?_ (fun l' e => fin l' (by rw [e, hsz, hG]))
  intro i v I oI C oC D m₂ ys h tk E' hi hP hC hx F N off ne
  rw [hsz] at hi
  have hv : v = .str (l[i]).1 (l[i]).2 := by
    have hP' : (strValues l)[i]? = some v := by simpa using hP
    simp only [strValues, List.getElem?_map, List.getElem?_eq_getElem hi, Option.map_some] at hP'
    exact (Option.some.inj hP').symm
  subst hv
  have e : (l.getD i (Str.empty, 0)).1 = (l[i]).1 := by simp [List.getD, hi]
  rw [e]
  exact turn _ _ I oI C oC D m₂ ys h tk E' (List.mem_map_of_mem (List.getElem_mem hi)) hC hx F N off ne
end
section
variable {prog : Program} {w : World} {A : Around} {h₀ : Heap} {L : Addr} {m : Str → Option Value} {env : Env} {elt : Expr} {x : Str} {scope : Scope} {cl : List (Str × Addr)} {s : Shared} {S : List (Addr × Obj) → Prop} {Fin : List Value → List (Addr × Obj) → Prop} {news : List (Addr × Obj)}
end
def StrIs (X : Str) (b : Nat) (v : Value) : Prop := ∃ t, v = .str X t ∧ X.length ≤ b

theorem fn_mono {prog : Program} {w : World} {K : Frag} {p : Program} {loose : List Str} {mean : ExcName → Option Value} {mg mb : Str → Option Value} {f : Addr} {d : Nat} {news : List (Addr × Obj)} {vs : List Value} {R R' : Value → Prop}
    (H : FnOk prog w K p loose mean mg mb f d news vs R) (h : ∀ v, R v → R' v) : FnOk prog w K p loose mean mg mb f d news vs R' :=
  fun dp un gd cn cs a ccd cl outer A₀ base h₀ L m s Q E B F X N T hk hd hu ret => H dp un gd cn cs a ccd cl outer A₀ base h₀ L m s Q E B F X N T hk hd hu fun v h' tk' r => ret v h' tk' (h v r)

/-! the texts as lists -/
def tellL : List Nat → List Nat
  | [] => []
  | c :: r => if c = 34 then (match r with | [] => [] | d :: r' => if d = 34 then 34 :: tellL r' else []) else c :: tellL r

theorem drop_getD (l : List Nat) (k : Nat) (h : k < l.length) : l.drop k = l.getD k 0 :: l.drop (k + 1) := by
  rw [List.drop_eq_getElem_cons h]; simp [List.getD, h]
theorem item_is (x : Str) (k : Nat) (h : k < x.length) : Txt.item x (k : Int) = ofL [x.cps.toList.getD k 0] := by
  rw [item_meets ⟨by omega, by omega⟩]
  refine PySem.Str.ext' ?_
  simp [ofL, Array.getD_eq_getD_getElem?, List.getD]
theorem lit_mark : Str.ofString "\"" = ofL [34] := by decide +kernel

theorem tell_nil : tellL [] = [] := by unfold tellL; rfl
theorem tell_other {c : Nat} {r : List Nat} (h : c ≠ 34) : tellL (c :: r) = c :: tellL r := by rw [tellL.eq_def]; exact if_neg h
theorem tell_end : tellL [34] = [] := by rw [tellL.eq_def]; simp
theorem tell_stop {d : Nat} {r : List Nat} (h : d ≠ 34) : tellL (34 :: d :: r) = [] := by rw [tellL.eq_def]; simp [h]
theorem tell_two (r : List Nat) : tellL (34 :: 34 :: r) = 34 :: tellL r := by rw [tellL.eq_def]; simp
theorem int_eq {a b : Int} {t : Tok} (h : a = b) : some (Value.int a t) = some (Value.int b t) := by rw [h]
theorem str_eq {a b : Str} {t : Tok} (h : a = b) : some (Value.str a t) = some (Value.str b t) := by rw [h]

section
variable {x : Str} {k : Nat}
theorem mark_at (h : (k : Int) < x.length) (b : Bool) (hm : (Txt.item x k == Str.ofString "\"") = b) : (x.cps.toList.getD k 0 == 34) = b := by
  rw [item_is x k (by omega), lit_mark, ofL_beq] at hm
  rw [← hm]; simp
theorem tell_at1 (h : (k : Int) < x.length) (hm : (Txt.item x k == Str.ofString "\"") = true) (he : (x.length : Int) ≤ k + 1) : tellL (x.cps.toList.drop k) = [] := by
  have h1 := mark_at h true hm
  have hl := len_eq x
  rw [drop_getD _ _ (by omega), beq_iff_eq.mp h1, List.drop_eq_nil_of_le (by omega)]
  exact tell_end
theorem tell_at2 (h : (k : Int) < x.length) (hm : (Txt.item x k == Str.ofString "\"") = true) (he : ¬ (x.length : Int) ≤ k + 1) (h2 : (Txt.item x ((k : Int) + 1) != Str.ofString "\"") = true) : tellL (x.cps.toList.drop k) = [] := by
  have h1 := mark_at h true hm
  have hl := len_eq x
  have e : (k : Int) + 1 = ((k + 1 : Nat) : Int) := by omega
  rw [e] at h2
  have h3 := mark_at (x := x) (k := k + 1) (by omega) false (by simpa [bne] using h2)
  rw [drop_getD _ _ (by omega), drop_getD _ (k + 1) (by omega), beq_iff_eq.mp h1]
  exact tell_stop (by simpa using h3)
theorem tell_at3 (h : (k : Int) < x.length) (hm : (Txt.item x k == Str.ofString "\"") = true) (he : ¬ (x.length : Int) ≤ k + 1) (h2 : (Txt.item x ((k : Int) + 1) != Str.ofString "\"") = false) :
    tellL (x.cps.toList.drop k) = 34 :: tellL (x.cps.toList.drop (k + 2)) ∧ Txt.item x k = ofL [34] := by
  have h1 := mark_at h true hm
  have hl := len_eq x
  have e : (k : Int) + 1 = ((k + 1 : Nat) : Int) := by omega
  rw [e] at h2
  have h3 := mark_at (x := x) (k := k + 1) (by omega) true (by simpa [bne] using h2)
  refine ⟨?_, by rw [item_is x k (by omega), beq_iff_eq.mp h1]⟩
  rw [drop_getD _ _ (by omega), drop_getD _ (k + 1) (by omega), beq_iff_eq.mp h1, beq_iff_eq.mp h3]
  exact tell_two _
theorem tell_at4 (h : (k : Int) < x.length) (hm : (Txt.item x k == Str.ofString "\"") = false) :
    tellL (x.cps.toList.drop k) = x.cps.toList.getD k 0 :: tellL (x.cps.toList.drop (k + 1)) ∧ Txt.item x k = ofL [x.cps.toList.getD k 0] := by
  have h1 := mark_at h false hm
  have hl := len_eq x
  refine ⟨?_, item_is x k (by omega)⟩
  rw [drop_getD _ _ (by omega)]
  exact tell_other (by simpa using h1)
end

/-! slices -/
theorem slice_sliceText (x : Str) (l u : Option Int) : Txt.slice x l u = StrLaws.sliceText x l u := rfl
theorem slice_to (l : List Nat) (j : Nat) (h : j ≤ l.length) : Txt.slice (ofL l) none (some (j : Int)) = ofL (l.take j) := by
  rw [slice_sliceText, StrLaws.sliceText_to ⟨by omega, by rw [ofL_list]; omega⟩, ofL_list]
  simp [ofL]
theorem slice_mid (l : List Nat) (i j : Nat) (hij : i ≤ j) (h : j ≤ l.length) : Txt.slice (ofL l) (some (i : Int)) (some (j : Int)) = ofL ((l.drop i).take (j - i)) := by
  rw [slice_sliceText, StrLaws.sliceText_nat _ hij (by rw [ofL_length]; omega), ofL_list]; rfl
theorem slice_from (l : List Nat) (i : Nat) (h : i ≤ l.length) : Txt.slice (ofL l) (some (i : Int)) none = ofL (l.drop i) := by
  rw [slice_sliceText, StrLaws.sliceText_from ⟨by omega, by rw [ofL_list]; omega⟩, ofL_list]
  simp only [ofL, Int.toNat_natCast]
  rw [List.take_of_length_le (by rw [List.length_drop]; omega)]

/-! a text that opens a quotation of a reply 257 -/
def tellS (y : Str) : Str := ofL (tellL y.cps.toList)
theorem lit_257q : Str.ofString "257 \"" = ofL [50, 53, 55, 32, 34] := by decide +kernel
theorem pre257 (y : Str) : Str.ofString "257 \"" ++ y = ofL (50 :: 53 :: 55 :: 32 :: 34 :: y.cps.toList) := by
  rw [lit_257q, ← ofL_toList y, ofL_append]; rfl
theorem pre257_3 (y : Str) : Txt.slice (Str.ofString "257 \"" ++ y) none (some 3) = Str.ofString "257" := by
  rw [pre257]
  exact (slice_to _ 3 (by simp)).trans (show ofL [50, 53, 55] = Str.ofString "257" by decide +kernel)
theorem pre257_5 (y : Str) : Txt.slice (Str.ofString "257 \"" ++ y) (some 3) (some 5) = Str.ofString " \"" := by
  rw [pre257]
  exact (slice_mid _ 3 5 (by decide) (by simp)).trans (show ofL [32, 34] = Str.ofString " \"" by decide +kernel)
theorem pre257_len (y : Str) : (Str.ofString "257 \"" ++ y).length = y.length + 5 := by
  rw [pre257, ofL_length]; simp [PySem.Str.length]
theorem pre257_drop (y : Str) : (Str.ofString "257 \"" ++ y).cps.toList.drop 5 = y.cps.toList := by rw [pre257]; rfl

/-! the law's own readings -/
def pairedS (y : Str) : Str := Txt.replace (Txt.replace y (Str.ofString "\\\\") (Str.ofString "e")) (Str.ofString "\\\"") (Str.ofString "q")
def wordS (y : Str) : Str := (Txt.split (pairedS y) (Str.ofString "\"")).headD Str.empty
def heardS (y : Str) : Str := Txt.replace (Txt.replace (Txt.replace (wordS y) (Str.ofString "\\") (Str.ofString "")) (Str.ofString "q") (Str.ofString "\"")) (Str.ofString "e") (Str.ofString "\\")
theorem tell_len : ∀ (n : Nat) (l : List Nat), l.length ≤ n → (tellL l).length ≤ l.length
  | _, [], _ => by rw [tell_nil]; exact Nat.le_refl _
  | 0, c :: r, h => absurd h (Nat.not_succ_le_zero _)
  | n + 1, [c], _ => by
    by_cases hc : c = 34
    · subst hc; rw [tell_end]; exact Nat.zero_le _
    · rw [tell_other hc, tell_nil]; exact Nat.le_refl _
  | n + 1, c :: d :: r, h => by
    by_cases hc : c = 34
    · subst hc
      by_cases hd : d = 34
      · subst hd
        rw [tell_two]
        have := tell_len n r (by simp only [List.length_cons] at h; omega)
        simp only [List.length_cons]; omega
      · rw [tell_stop hd]; exact Nat.zero_le _
    · rw [tell_other hc]
      have := tell_len n (d :: r) (by simp only [List.length_cons] at h ⊢; omega)
      simp only [List.length_cons] at this ⊢; omega
theorem tellS_len (y : Str) : (tellS y).length ≤ y.length := by
  unfold tellS
  rw [ofL_length, ← len_eq y]
  exact tell_len _ _ (Nat.le_refl _)
/-! told: pieces between marks -/
def toldT : List (List Nat) → List Nat
  | [] => []
  | [_] => []
  | a :: q :: r => if a = [] then 34 :: (q ++ toldT r) else []
theorem splitL_len (c : Nat) : ∀ l : List Nat, (splitL c l).length ≤ l.length + 1
  | [] => Nat.le_refl _
  | d :: r => by
    have h := splitL_len c r
    unfold splitL
    split
    · simp only [List.length_cons]; omega
    · split
      · simp
      · rename_i e; rw [e] at h; simp only [List.length_cons] at h ⊢; omega
theorem split_len (x : Str) (c : Nat) : (Txt.split x (ofL [c])).length ≤ x.length + 1 := by
  have h := splitL_len c x.cps.toList
  rw [← split_list, List.length_map, len_eq] at h
  exact h
section
variable {l : List (Str × Tok)} {y z z2 : Str} {k : Nat}
theorem lit_nil : Str.ofString "" = ofL [] := by decide +kernel
end
/-! sent: rows -/
def normS (y : Str) : Str := Txt.replace (Txt.replace y (Str.ofString "\r\n") (Str.ofString "\n")) (Str.ofString "\r") (Str.ofString "\n")
def dotS (z : Str) : Str := if (Txt.slice z none (some 1) == Str.ofString ".") = true then Str.ofString "." ++ z else z
def lawSentS (y : Str) : Str := Str.join (Str.ofString "\r\n") ((Txt.split (normS y) (Str.ofString "\n")).map dotS)
theorem lit_rf : Str.ofString "\r\n" = ofL [13, 10] := by decide +kernel
theorem lit_r : Str.ofString "\r" = ofL [13] := by decide +kernel
theorem lit_f : Str.ofString "\n" = ofL [10] := by decide +kernel
theorem lit_dot : Str.ofString "." = ofL [46] := by decide +kernel
def sendS (y : Str) : Str := ofL (sendL y.cps.toList)
theorem sendS_len (y : Str) : (sendS y).length ≤ 2 * y.length := by
  unfold sendS sendL
  rw [ofL_length, ← len_eq y]
  exact sendG_len _ true
theorem normS_list (y : Str) : (normS y).cps.toList = n1 y.cps.toList := by
  unfold normS
  rw [replace_list _ _ _ (by decide +kernel), replace_list _ _ _ (by decide +kernel), lit_rf, lit_r, lit_f]
  exact repL_one 13 [10] _
theorem strs_len' {l : List (Str × Tok)} {y : Str} {c : Nat} (q : l.map (fun x => x.1) = Txt.split y (ofL [c])) : l.length ≤ y.length + 1 := by
  have h := split_len y c
  have e := congrArg List.length q
  rw [List.length_map] at e
  omega
theorem join_ok {texts : List Str} {x : Str} (hn : texts.length ≤ 901) (hB : ∀ a ∈ texts, a.length ≤ 901) (hx : x.length ≤ 2) : (texts.map fun y => y.length).sum + texts.length * x.length ≤ 1000000 := by
  have h1 := StrLaws.sumLen_le texts hB
  have h2 : texts.length * 901 ≤ 901 * 901 := Nat.mul_le_mul_right _ hn
  have h3 : texts.length * x.length ≤ 901 * 2 := Nat.mul_le_mul hn hx
  omega
theorem strs_lenF {l : List (Str × Tok)} {y : Str} (q : l.map (fun x => x.1) = Txt.split y (Str.ofString "\n")) : l.length ≤ y.length + 1 := by
  rw [lit_f] at q; exact strs_len' q
end Mine
end
section
open PySem PySem.W PyProof.Rows
set_option Elab.async false
set_option maxRecDepth 100000
namespace Mine
/-- the items of a list of one-sign texts -/
def SgOf (l : List Nat) (u : List (Str × Tok)) : Prop := u.map (fun x => x.1) = l.map fun c => ofL [c]
theorem sgOf_carried : ∀ {l : List Nat} {ys : List Value}, CarriedAll ys (l.map fun c => PyData.str (ofL [c])) → ∃ u, ys = strValues u ∧ SgOf l u
  | [], _, .nil => ⟨[], rfl, rfl⟩
  | c :: l, _, .cons (.str _ t) r => by
    obtain ⟨u, e1, e2⟩ := sgOf_carried r
    exact ⟨(ofL [c], t) :: u, by rw [e1]; rfl, congrArg (List.cons _) e2⟩
theorem SgOf.nil_inv {u : List (Str × Tok)} (h : SgOf [] u) : u = [] := List.map_eq_nil_iff.mp h
theorem SgOf.cons_inv {c : Nat} {l : List Nat} {u : List (Str × Tok)} (h : SgOf (c :: l) u) : ∃ t r, u = (ofL [c], t) :: r ∧ SgOf l r := by
  cases u with
  | nil => cases h
  | cons p r =>
    obtain ⟨x, t⟩ := p
    have h1 := List.cons.inj h
    exact ⟨t, r, by rw [show x = ofL [c] from h1.1], h1.2⟩
theorem SgOf.length {l : List Nat} {u : List (Str × Tok)} (h : SgOf l u) : u.length = l.length := by
  have := congrArg List.length h
  simpa using this
/-- the list from which the stream pops -/
abbrev sgObj (u : List (Str × Tok)) (n : Nat) : Obj := listOf (strValues u).reverse.toArray n
section
variable {prog : Program} {w : World} {A : Around} {E : Value → Shared → Prop} {s : Shared} {h₀ : Heap} {L D : Addr} {m : Str → Option Value} {news news' : List (Addr × Obj)} {n : Nat} {Q : Value → Shared → Prop}
theorem listStr {x : Str} {t : Tok} (hh : A.handled = none) (F : Fr h₀ L s.heap m) (N : News h₀ L s.heap news) (hsz : x.length ≤ 1000000)
    (h : ∀ D u c h' tk', Fr h₀ L h' m → News h₀ L h' ((D, listOf (strValues u).toArray c) :: news) → (∀ p ∈ news, p.1 < D) → SgOf x.cps.toList u → Q (.ref D) ⟨h', s.gens, s.drawn, tk', s.os⟩) :
    wpAny (model prog w) A (call (.type "list") [.str x t]) Q E s := by
  refine list_strD hh F N (fun h' tk ys F' N' _ hn _ hp hc => ?_) (by rw [PySem.sizeLine_eq]; omega)
  have hc' : CarriedAll ys (x.cps.toList.map fun c => PyData.str (ofL [c])) := by
    have e : (signs x).map PyData.str = x.cps.toList.map fun c => PyData.str (ofL [c]) := by
      unfold signs; rw [List.map_map]; rfl
    rw [← e]; exact hc
  obtain ⟨u, e1, e2⟩ := sgOf_carried hc'
  subst e1
  obtain ⟨⟨c, hc2⟩, hne⟩ := hp
  have lt : ∀ p ∈ news, p.1 < s.heap.objs.size := fun p hp => Heap.lt_size (N p hp).1
  exact h _ u c h' tk F' (fun q hq => by
    rcases List.mem_cons.mp hq with rfl | hq
    · exact ⟨hc2, NewPlain.ne_locals ⟨⟨c, hc2⟩, hne⟩ F', hn⟩
    · exact N' q hq) lt e2
theorem popStr {x : Str} {t : Tok} {u : List (Str × Tok)} (F : Fr h₀ L s.heap m) (N : News h₀ L s.heap news) (U : Upd D (sgObj ((x, t) :: u) n) (sgObj u (n + 1)) news news') (hz : u.length ≤ 1000000)
    (h : ∀ h', Fr h₀ L h' m → News h₀ L h' news' → Q (.str x t) { s with heap := h' }) : wpAny (model prog w) A (call (.builtin "list.pop") [.ref D]) Q E s := by
  refine kl_pop F N (p := (strValues u).reverse) (y := .str x t) ?_ U ?_ h
  · have e := kpa_last (.str x t) (strValues u).reverse
    rw [← e]
    simp [strValues]
  · have e : ((strValues ((x, t) :: u)).reverse.toArray.toList).length = u.length + 1 := by simp [strValues]
    rw [e, PySem.sizeLine_eq]
    omega
end
theorem rev_room {l : List Nat} {u : List (Str × Tok)} (h : SgOf l u) (hl : l.length ≤ 1000000) : (strValues u).toArray.size ≤ sizeLine := by
  have e := h.length
  rw [PySem.sizeLine_eq]
  simp only [strValues, List.size_toArray, List.length_map]
  omega
theorem leN {a b : Nat} (h : a ≤ b) : a ≤ b := h
theorem tail_ne {news : List (Addr × Obj)} {d c : Addr} (h : ∀ p ∈ news, p.1 < d) (hd : d ≤ c) : ∀ p ∈ news, p.1 ≠ c := fun p hp => Nat.ne_of_lt (Nat.lt_of_lt_of_le (h p hp) hd)
theorem drop_lt {news : List (Addr × Obj)} {d : Addr} {q : Addr × Obj} (h : ∀ p ∈ q :: news, p.1 < d) : ∀ p ∈ news, p.1 < d := fun p hp => h p (List.mem_cons_of_mem _ hp)
/-! the word behind a mark -/
def hearL : List Nat → List Nat
  | [] => []
  | [c] => if c = 34 then [] else if c = 92 then [] else [c]
  | c :: d :: r => if c = 34 then [] else if c = 92 then d :: hearL r else c :: hearL (d :: r)
theorem hear_nil : hearL [] = [] := rfl
theorem hear_mark (r : List Nat) : hearL (34 :: r) = [] := by cases r <;> rfl
theorem hear_back (d : Nat) (r : List Nat) : hearL (92 :: d :: r) = d :: hearL r := rfl
theorem hear_last : hearL [92] = [] := rfl
theorem hear_other {c : Nat} (h1 : c ≠ 34) (h2 : c ≠ 92) (r : List Nat) : hearL (c :: r) = c :: hearL r := by
  cases r with
  | nil => show (if c = 34 then _ else _) = _; rw [if_neg h1, if_neg h2]; rfl
  | cons d r => show (if c = 34 then _ else _) = _; rw [if_neg h1, if_neg h2]
def hearS (y : Str) : Str := ofL (hearL y.cps.toList)
/-! the ledger of a reader over a list of signs -/
structure Rd where
  C : Addr
  l2 : Addr
  x2 : Addr
  d2 : Addr
  f' : Addr
  l1 : Addr
  x1 : Addr
  d1 : Addr
  D : Addr
  fd : FuncData
  P : Params
  k : Nat → Tok
  news : List (Addr × Obj)
abbrev wsT : Str := Str.ofString "\n\t\x0d "
abbrev Rd.led (r : Rd) (u : List (Str × Tok)) (n : Nat) (ln : Int) (tl : Tok) : List (Addr × Obj) :=
  (r.x2, instObj r.C r.d2) :: (r.d2, dictOf [⟨PyData.keyHash r.P (Str.ofString "lineno"), .str (Str.ofString "lineno") (r.k 0), .int ln tl⟩, ⟨PyData.keyHash r.P (Str.ofString "instream"), .str (Str.ofString "instream") (r.k 1), .ref r.x1⟩,
    ⟨PyData.keyHash r.P (Str.ofString "whitespace"), .str (Str.ofString "whitespace") (r.k 2), .str wsT (r.k 3)⟩, ⟨PyData.keyHash r.P (Str.ofString "pushback"), .str (Str.ofString "pushback") (r.k 4), .ref r.l2⟩] 4) ::
  (r.l2, listOf #[] 0) :: (r.x1, instObj r.C r.d1) ::
  (r.d1, dictOf [⟨PyData.keyHash r.P (Str.ofString "lineno"), .str (Str.ofString "lineno") (r.k 5), .int 1 (r.k 6)⟩, ⟨PyData.keyHash r.P (Str.ofString "instream"), .str (Str.ofString "instream") (r.k 7), .none⟩,
    ⟨PyData.keyHash r.P (Str.ofString "whitespace"), .str (Str.ofString "whitespace") (r.k 8), .str wsT (r.k 9)⟩, ⟨PyData.keyHash r.P (Str.ofString "pushback"), .str (Str.ofString "pushback") (r.k 10), .ref r.l1⟩, ⟨PyData.keyHash r.P (Str.ofString "read"), .str (Str.ofString "read") (r.k 11), .ref r.f'⟩] 5) ::
  (r.f', (⟨.type "function", none, .func r.fd, #[]⟩ : Obj)) :: (r.D, sgObj u n) :: r.news
structure Rd.Ok (r : Rd) : Prop where
  a1 : @LT.lt Nat _ r.D r.d1
  a2 : @LT.lt Nat _ r.d1 r.x1
  a3 : @LT.lt Nat _ r.x1 r.f'
  a4 : @LT.lt Nat _ r.f' r.d2
  a5 : @LT.lt Nat _ r.d2 r.x2
  a6 : @LT.lt Nat _ r.x2 r.l2
  t : ∀ p ∈ r.news, p.1 ≠ r.D
  t2 : ∀ p ∈ r.news, p.1 ≠ r.d2
/-- what a pop leaves of the signs, and what it gives -/
def popU : List (Str × Tok) → List (Str × Tok)
  | [] => []
  | _ :: r => r
def popN (u : List (Str × Tok)) (n : Nat) : Nat := match u with | [] => n | _ :: _ => n + 1
def popIs (u : List (Str × Tok)) (x : Str) : Prop := match u with | [] => x = Str.ofString "" | q :: _ => x = q.1
abbrev Rd.with (r : Rd) (news : List (Addr × Obj)) : Rd := { r with news := news }
def LamOk (prog : Program) (w : World) (K : Frag) (p : Program) (loose : List Str) (mean : ExcName → Option Value) (mg mb : Str → Option Value) (r : Rd) : Prop :=
  ∀ (news : List (Addr × Obj)) (u : List (Str × Tok)) (n : Nat) (ln : Int) (tl : Tok) (A A₀ : Around) (env : Env) (outer : List Env) (base h₀ : Heap) (L : Addr) (m : Str → Option Value) (s : Shared) (t : Tok) (R : Result → Shared → Prop),
    (∀ q ∈ r.news, q ∈ news) → (∀ p ∈ news, p.1 ≠ r.D) → (∀ p ∈ news, p.1 ≠ r.d2) →
    Below A₀ base outer h₀ → Fr h₀ L s.heap m → K.In h₀ → News h₀ L s.heap ((r.with news).led u n ln tl) → Top p loose mean mg mb h₀ → A.frames = some (env :: outer) → env.frame = some L → env.scope.kind = .function → A.depth + 1 < recursionLimit → u.length ≤ 400000 →
    (∀ x tx h' tk', popIs u x → Fr h₀ L h' m → News h₀ L h' ((r.with news).led (popU u) (popN u n) ln tl) → R (.ok (.ret (.str x tx))) ⟨h', s.gens, s.drawn, tk', s.os⟩) →
    codeAny (model prog w) A (.call (.ref r.f') ⟨[.int 1 t], []⟩) R s
theorem led_pos {r : Rd} {h₀ h : Heap} {L : Addr} {u : List (Str × Tok)} {n : Nat} {ln : Int} {tl : Tok} {b : Bool} (hb : b = true) (N : News h₀ L h (r.led u n (ln + 1) tl)) : News h₀ L h (r.led u n (if b = true then ln + 1 else ln) tl) := by
  rw [if_pos hb]; exact N
theorem led_neg {r : Rd} {h₀ h : Heap} {L : Addr} {u : List (Str × Tok)} {n : Nat} {ln : Int} {tl : Tok} {b : Bool} (hb : b = false) (N : News h₀ L h (r.led u n ln tl)) : News h₀ L h (r.led u n (if b = true then ln + 1 else ln) tl) := by
  rw [if_neg (by rw [hb]; decide)]; exact N
def restL : List Nat → List Nat
  | [] => []
  | [_] => []
  | c :: d :: r => if c = 34 then d :: r else if c = 92 then restL r else restL (d :: r)
theorem rest_mark (r : List Nat) : restL (34 :: r) = r := by cases r <;> rfl
theorem rest_back (d : Nat) (r : List Nat) : restL (92 :: d :: r) = restL r := rfl
theorem rest_other {c : Nat} (h1 : c ≠ 34) (h2 : c ≠ 92) (r : List Nat) : restL (c :: r) = restL r := by
  cases r with
  | nil => rfl
  | cons d r => show (if c = 34 then _ else _) = _; rw [if_neg h1, if_neg h2]
theorem extBut_fr {h₀ h h' : Heap} {L it : Addr} {m : Str → Option Value} {o o' : Obj} {news : List (Addr × Obj)} (F : Fr h₀ L h m) (N : News h₀ L h ((it, o) :: news)) (hx : Heap.ExtBut it h h') (hit : h'.get? it = some o') (hne : ∀ p ∈ news, p.1 ≠ it) :
    Fr h₀ L h' m ∧ News h₀ L h' ((it, o') :: news) := by
  have n0 := N (it, o) (.head _)
  refine ⟨⟨F.ns.extBut hx n0.2.1.symm, fun b ob e => hx b ob (fun q => by rw [q, n0.2.2] at e; cases e) (F.keep b ob e), F.above⟩, fun p hp => ?_⟩
  rcases List.mem_cons.mp hp with rfl | hp
  · exact ⟨hit, n0.2⟩
  · have n1 := N p (.tail _ hp)
    exact ⟨hx _ _ (hne p hp) n1.1, n1.2⟩
theorem led_app (r : Rd) (u : List (Str × Tok)) (n : Nat) (ln : Int) (tl : Tok) : ∃ pre, ∀ news, (r.with news).led u n ln tl = pre ++ news := ⟨(r.with []).led u n ln tl, fun _ => rfl⟩
theorem led_in {r : Rd} {h₀ h : Heap} {L : Addr} {u : List (Str × Tok)} {n : Nat} {ln : Int} {tl : Tok} {a b : Addr × Obj} (N : News h₀ L h (a :: b :: r.led u n ln tl)) : News h₀ L h ((r.with (a :: b :: r.news)).led u n ln tl) := fun p hp => by
  obtain ⟨pre, e⟩ := led_app r u n ln tl
  rw [e] at hp
  have e2 : r.led u n ln tl = pre ++ r.news := e r.news
  refine N p ?_
  rw [e2]
  simp only [List.mem_append, List.mem_cons] at hp ⊢
  rcases hp with hp | hp | hp | hp
  · exact .inr (.inr (.inl hp))
  · exact .inl hp
  · exact .inr (.inl hp)
  · exact .inr (.inr (.inr hp))
theorem led_out {r : Rd} {h₀ h : Heap} {L : Addr} {u : List (Str × Tok)} {n : Nat} {ln : Int} {tl : Tok} {a b : Addr × Obj} (N : News h₀ L h ((r.with (a :: b :: r.news)).led u n ln tl)) : News h₀ L h (a :: b :: r.led u n ln tl) := fun p hp => by
  obtain ⟨pre, e⟩ := led_app r u n ln tl
  have e2 : r.led u n ln tl = pre ++ r.news := e r.news
  refine N p ?_
  rw [e]
  rw [e2] at hp
  simp only [List.mem_append, List.mem_cons] at hp ⊢
  rcases hp with hp | hp | hp | hp
  · exact .inr (.inl hp)
  · exact .inr (.inr (.inl hp))
  · exact .inl hp
  · exact .inr (.inr (.inr hp))
theorem is_feed (c : Nat) : (ofL [c] == Str.ofString "\n") = (c == 10) := by
  rw [show Str.ofString "\n" = ofL [10] by decide +kernel, ofL_beq]
  by_cases h : c = 10
  · subst h; rfl
  · have h1 : (c == 10) = false := by simpa using h
    rw [h1]; simp [h]
theorem is_empty (c : Nat) : (ofL [c] == Str.ofString "") = false := by
  rw [show Str.ofString "" = ofL [] by decide +kernel, ofL_beq]; rfl
theorem led_lt {r : Rd} {it : Addr} {x : Addr × Obj} {u u2 : List (Str × Tok)} {n n2 : Nat} {ln ln2 : Int} {tl tl2 : Tok} (h : ∀ p ∈ x :: r.led u n ln tl, p.1 < it) : ∀ p ∈ r.led u2 n2 ln2 tl2, p.1 < it := by
  intro p hp
  have e : (r.led u n ln tl).map (·.1) = (r.led u2 n2 ln2 tl2).map (·.1) := rfl
  have : p.1 ∈ ((r.led u n ln tl).map (·.1)) := by rw [e]; exact List.mem_map_of_mem hp
  obtain ⟨p2, hp2, e2⟩ := List.mem_map.mp this
  rw [← e2]; exact h p2 (.tail _ hp2)
theorem is_mark (c : Nat) : (ofL [c] == Str.ofString "\"") = (c == 34) := by
  rw [show Str.ofString "\"" = ofL [34] by decide +kernel, ofL_beq]
  by_cases h : c = 34
  · subst h; rfl
  · have h1 : (c == 34) = false := by simpa using h
    rw [h1]; simp [h]
theorem is_back (c : Nat) : (ofL [c] == Str.ofString "\\") = (c == 92) := by
  rw [show Str.ofString "\\" = ofL [92] by decide +kernel, ofL_beq]
  by_cases h : c = 92
  · subst h; rfl
  · have h1 : (c == 92) = false := by simpa using h
    rw [h1]; simp [h]
theorem one_len (c : Nat) : (ofL [c]).length = 1 := by rw [ofL_length]; rfl
theorem count_cons (c : Nat) (l : List Nat) : ((List.count 10 (c :: l) : Nat) : Int) = (List.count 10 l : Nat) + if c = 10 then 1 else 0 := by
  rw [List.count_cons]
  by_cases h : c = 10
  · subst h; simp
  · have : (c == 10) = false := by simpa using h
    rw [this]; simp [h]
theorem led_ne {r : Rd} {it q : Addr} {ob : Obj} {u : List (Str × Tok)} {n : Nat} {ln : Int} {tl : Tok} (hit : ∀ p ∈ r.led [] 0 0 0, p.1 < it) (hqi : q < it) : ∀ p ∈ (q, ob) :: r.led u n ln tl, p.1 ≠ it := by
  intro p hp
  rcases List.mem_cons.mp hp with rfl | hp
  · exact Nat.ne_of_lt hqi
  · exact Nat.ne_of_lt (led_lt (r := r) (x := (it, ob)) (it := it + 1) (u := []) (n := 0) (ln := 0) (tl := 0) (fun p hp => by
      rcases List.mem_cons.mp hp with rfl | hp
      · exact Nat.lt_succ_self _
      · exact Nat.lt_succ_of_lt (hit p hp)) p hp |> fun h => by
        have e : (r.led u n ln tl).map (·.1) = (r.led [] 0 0 0).map (·.1) := rfl
        have h1 : p.1 ∈ ((r.led [] 0 0 0).map (·.1)) := by rw [← e]; exact List.mem_map_of_mem hp
        obtain ⟨p2, hp2, e2⟩ := List.mem_map.mp h1
        rw [← e2]; exact hit p2 hp2)
theorem Rd.Ok.ext {r : Rd} (hr : Rd.Ok r) {it q : Addr} {o1 o2 : Obj} (iD : @LT.lt Nat _ r.D it) (id2 : @LT.lt Nat _ r.d2 it) (qD : @LT.lt Nat _ r.D q) (qd2 : @LT.lt Nat _ r.d2 q) : Rd.Ok (r.with ((it, o1) :: (q, o2) :: r.news)) := by
  obtain ⟨a1, a2, a3, a4, a5, a6, t, t2⟩ := hr
  refine ⟨a1, a2, a3, a4, a5, a6, ?_, ?_⟩
  · intro p hp
    rcases List.mem_cons.mp hp with rfl | hp
    · exact Nat.ne_of_gt iD
    · rcases List.mem_cons.mp hp with rfl | hp
      · exact Nat.ne_of_gt qD
      · exact t p hp
  · intro p hp
    rcases List.mem_cons.mp hp with rfl | hp
    · exact Nat.ne_of_gt id2
    · rcases List.mem_cons.mp hp with rfl | hp
      · exact Nat.ne_of_gt qd2
      · exact t2 p hp
theorem empty_feed : (Str.ofString "" == Str.ofString "\n") = false := by decide +kernel
theorem cat_empty (d : List Nat) : ofL d ++ Str.ofString "" = ofL d := by rw [lit_nil, ofL_append, List.append_nil]
theorem news_cons {h₀ h : Heap} {L : Addr} {news : List (Addr × Obj)} {q : Addr × Obj} (N : News h₀ L h news) (hq : q ∈ news) : News h₀ L h (q :: news) := fun p hp => by
  rcases List.mem_cons.mp hp with rfl | hp
  · exact N _ hq
  · exact N p hp
def toks12 (t0 t1 t2 t3 t4 t5 t6 t7 t8 t9 t10 t11 : Tok) : Nat → Tok
  | 0 => t0 | 1 => t1 | 2 => t2 | 3 => t3 | 4 => t4 | 5 => t5 | 6 => t6 | 7 => t7 | 8 => t8 | 9 => t9 | 10 => t10 | _ => t11
theorem sg_fit {q : Str × Tok} {r : List (Str × Tok)} (h : (q :: r).length ≤ 400000) : (((strValues (q :: r)).reverse.toArray.size : Nat) : Int) < 2 ^ 63 := by
  have e : (strValues (q :: r)).reverse.toArray.size = r.length + 1 := by simp [strValues]
  simp only [List.length_cons] at h
  rw [e]; omega
theorem sg_true {q : Str × Tok} {r : List (Str × Tok)} : (!(strValues (q :: r)).reverse.toArray.isEmpty) = true := by simp [strValues]
end Mine
end
section
open PySem PySem.W PyProof.Rows
set_option Elab.async false
set_option maxRecDepth 100000
namespace Mine
def pairL : List Nat → List Nat
  | [] => []
  | [c] => [c]
  | c :: d :: r => if c = 92 then (if d = 92 then 101 :: pairL r else if d = 34 then 113 :: pairL r else 92 :: d :: pairL r) else c :: pairL (d :: r)
def tw : List Nat → List Nat
  | [] => []
  | c :: r => if c = 34 then [] else c :: tw r
def decL (l : List Nat) : List Nat := rep1 101 [92] (rep1 113 [34] (rep1 92 [] l))
/-! telling and sending change places -/
theorem sendG_r' (b : Bool) {x : List Nat} (h : x.head? ≠ some 10) : sendG b (13 :: x) = 13 :: 10 :: sendG true x := by
  cases x with
  | nil => rw [sendG_r1, sendG_nil]
  | cons d r => exact sendG_r b r fun e => h (by rw [e]; rfl)
theorem send_mark (b : Bool) (r : List Nat) : sendG b (34 :: r) = 34 :: sendG false r := sendG_c b r (by decide) (by decide) (by rintro ⟨_, h⟩; cases h)
theorem tell_stop' {x : List Nat} (h : x.head? ≠ some 34) : tellL (34 :: x) = [] := by
  cases x with
  | nil => exact tell_end
  | cons d r => exact tell_stop (by simpa using h)
end Mine
end
section
open PySem PySem.W PyProof.Rows
set_option Elab.async false
set_option maxRecDepth 100000
namespace Mine
/-! sending what is heard, hearing what is sent: what each of the two ways makes of a text's head -/
def shS (b : Bool) (l : List Nat) : List Nat := sendG b (hearL l)
def shY (b : Bool) (l : List Nat) : List Nat := hearL (sendG b l)
def wdL (l : List Nat) : List Nat := tw (pairL l)
theorem send_back (b : Bool) (r : List Nat) : sendG b (92 :: r) = 92 :: sendG false r := sendG_c b r (by decide) (by decide) (by rintro ⟨_, h⟩; cases h)
section
variable (b : Bool) (r : List Nat)
end
end Mine
end
section
open PySem PySem.W PyProof.Rows
set_option Elab.async false
set_option maxRecDepth 100000
namespace Mine
def crs : Nat → List Nat → List Nat
  | 0, x => x
  | k + 1, x => 13 :: 10 :: crs k x
/-! what the law asks of the word -/
def inf3 : List Nat → Prop
  | [] => False
  | c :: r => (c = 13 ∧ r.take 2 = [92, 10]) ∨ inf3 r
def hb : Bool → List Nat → Prop
  | _, [] => False
  | b, c :: r => (b = true ∧ c = 92 ∧ r.head? = some 46) ∨ hb (decide (c = 13 ∨ c = 10)) r
end Mine
end
section
open PySem PySem.W PyProof.Rows
set_option Elab.async false
set_option maxRecDepth 100000
namespace Mine
end Mine
end
section
open PySem PySem.W PyProof.Rows
set_option Elab.async false
set_option maxRecDepth 100000
namespace Mine
def badP : List Nat → Prop
  | [] => False
  | c :: p => if c = 34 then False else if c = 113 then p.head? = some 34 ∨ p.head? = some 113 else badP p
end Mine
end
section
open PySem PySem.W PyProof.Rows
set_option Elab.async false
set_option maxRecDepth 100000
namespace Mine
def signT (k : Int) : Str := if k.fmod 6 = 5 then (⟨#[(256 + k.fdiv 6).toNat]⟩ : Str) else Txt.item (Str.ofString "\\.\"\r\n") (k.fmod 6)
abbrev Okc (c : Nat) : Prop := (c ≠ 101 ∧ c ≠ 113) ∧ c < 1114112
def GoodText (T : Str) : Prop := T.length ≤ 24 ∧ ∀ c ∈ T.cps.toList, Okc c
end Mine
end
section
open PySem PySem.W PyProof.Rows
open PySem.Builtin PySem.Builtin.Str
set_option Elab.async false
set_option maxRecDepth 100000
namespace Mine
/-! neither e nor q -/
def NoEq (l : List Nat) : Prop := ∀ c ∈ l, Okc c
def GoodS (y : Str) : Prop := NoEq y.cps.toList
theorem NoEq.tail {c : Nat} {l : List Nat} (h : NoEq (c :: l)) : NoEq l := fun d hd => h d (.tail _ hd)
theorem NoEq.cons {c : Nat} {l : List Nat} (h1 : Okc c) (h : NoEq l) : NoEq (c :: l) := fun d hd => by
  rcases List.mem_cons.mp hd with rfl | hd
  · exact h1
  · exact h d hd
/-! sending and reading -/
/-! reading and telling -/
def isQ (c : Nat) : Bool := c == 113 || c == 34
def okP (P : Str) (i : Nat) : Bool := isQ (P.cps.toList.getD i 0)
section
variable {T P : Str}
end
theorem gen_toks0 {α : Type} {M : Model} {A : Around} {t : Sem α} {Q : α → Shared → Prop} {E : Value → Shared → Prop} {h : Heap} {g : Array GenState} {d : Drawn} {X : Nat} {o : OsState}
    (k : ∀ tk, wpAny M A t Q E ⟨h, g, d, tk, o⟩) : wpAny M A t Q E ⟨h, g, d, X, o⟩ := k X
end Mine
end
section
open PySem PySem.W PyProof.Rows
set_option Elab.async false
set_option maxRecDepth 100000
namespace Mine
/-! the tree of texts, and what is written of it -/
inductive Tr where
  | leaf (q : Nat) (t : List Nat)
  | node (k q : Nat) (ps : List Tr)
def sendN (b : Bool) : Nat → List Nat → List Nat
  | 0, l => l
  | n + 1, l => sendN b n (sendG b l)
theorem sendN_add (b : Bool) : ∀ (m n : Nat) (l : List Nat), sendN b (m + n) l = sendN b n (sendN b m l)
  | 0, n, l => by rw [Nat.zero_add]; rfl
  | m + 1, n, l => by rw [Nat.succ_add]; exact sendN_add b m n (sendG b l)
def escL : List Nat → List Nat
  | [] => []
  | c :: r => if c = 92 then 92 :: 92 :: escL r else if c = 34 then 92 :: 34 :: escL r else c :: escL r
def dblL : List Nat → List Nat
  | [] => []
  | c :: r => if c = 34 then 34 :: 34 :: dblL r else c :: dblL r
theorem esc_b (r : List Nat) : escL (92 :: r) = 92 :: 92 :: escL r := rfl
theorem esc_m (r : List Nat) : escL (34 :: r) = 92 :: 34 :: escL r := rfl
theorem esc_o {c : Nat} (h1 : c ≠ 92) (h2 : c ≠ 34) (r : List Nat) : escL (c :: r) = c :: escL r := by
  show (if c = 92 then _ else if c = 34 then _ else _) = _
  rw [if_neg h1, if_neg h2]
theorem dbl_m (r : List Nat) : dblL (34 :: r) = 34 :: 34 :: dblL r := rfl
theorem dbl_o {c : Nat} (h2 : c ≠ 34) (r : List Nat) : dblL (c :: r) = c :: dblL r := by
  show (if c = 34 then _ else _) = _
  rw [if_neg h2]
def quoteL (k : Nat) (w : List Nat) : List Nat := if k = 1 then 34 :: (escL w ++ [34]) else 50 :: 53 :: 55 :: 32 :: 34 :: (dblL w ++ [34])
def qL (k : Nat) (ws : List (List Nat)) : List Nat := ws.flatMap (quoteL k)
theorem qL_nil (k : Nat) : qL k [] = [] := rfl
theorem qL_cons (k : Nat) (w : List Nat) (ws : List (List Nat)) : qL k (w :: ws) = quoteL k w ++ qL k ws := rfl
mutual
def wrT : Tr → List Nat
  | .leaf q t => 61 :: sendN true q t
  | .node k q ps => sendN true q (qL k (wrTs ps))
def wrTs : List Tr → List (List Nat)
  | [] => []
  | p :: r => wrT p :: wrTs r
end
theorem wrTs_map : ∀ ps : List Tr, wrTs ps = ps.map wrT
  | [] => rfl
  | p :: r => by rw [wrTs, wrTs_map r]; rfl
theorem wrT_leaf (q : Nat) (t : List Nat) : wrT (.leaf q t) = 61 :: sendN true q t := by rw [wrT]
theorem wrT_node (k q : Nat) (ps : List Tr) : wrT (.node k q ps) = sendN true q (qL k (ps.map wrT)) := by rw [wrT, wrTs_map]
/-! sending a row of quotations -/
theorem head_app {x r : List Nat} {d : Nat} (hx : x ≠ [] → x.head? ≠ some d) (hr : r.head? ≠ some d) : (x ++ r).head? ≠ some d := by
  cases x with
  | nil => exact hr
  | cons c t => simpa using hx (by simp)
theorem send_esc (w : List Nat) : ∀ (b : Bool) (r : List Nat), sendG b (escL w ++ 34 :: r) = escL (sendG b w) ++ 34 :: sendG false r := by
  refine send_cases (P := fun w => ∀ (b : Bool) (r : List Nat), sendG b (escL w ++ 34 :: r) = escL (sendG b w) ++ 34 :: sendG false r) ?_ ?_ ?_ ?_ ?_ ?_ w
  · intro b r; rw [sendG_nil]; exact send_mark b r
  · intro w ih b r
    rw [esc_o (c := 13) (by decide) (by decide), esc_o (c := 10) (by decide) (by decide), sendG_rf, esc_o (c := 13) (by decide) (by decide), esc_o (c := 10) (by decide) (by decide)]
    show sendG b (13 :: 10 :: (escL w ++ 34 :: r)) = _
    rw [sendG_rf, ih]; rfl
  · intro b r
    rw [sendG_r1]
    show sendG b (13 :: 34 :: r) = 13 :: 10 :: 34 :: sendG false r
    rw [sendG_r b r (by decide), send_mark]
  · intro d w hd ih b r
    rw [esc_o (c := 13) (by decide) (by decide), sendG_r b w hd, esc_o (c := 13) (by decide) (by decide), esc_o (c := 10) (by decide) (by decide)]
    show sendG b (13 :: (escL (d :: w) ++ 34 :: r)) = _
    rw [sendG_r', ih]; · rfl
    refine head_app (fun _ => ?_) (by simp)
    by_cases h1 : d = 92
    · subst h1; rw [esc_b]; simp
    · by_cases h2 : d = 34
      · subst h2; rw [esc_m]; simp
      · rw [esc_o h1 h2]; simpa using hd
  · intro w ih b r
    rw [esc_o (c := 10) (by decide) (by decide), sendG_f, esc_o (c := 13) (by decide) (by decide), esc_o (c := 10) (by decide) (by decide)]
    show sendG b (10 :: (escL w ++ 34 :: r)) = _
    rw [sendG_f, ih]; rfl
  · intro c w h1 h2 ih b r
    by_cases h92 : c = 92
    · subst h92
      rw [esc_b, send_back, esc_b]
      show sendG b (92 :: 92 :: (escL w ++ 34 :: r)) = _
      rw [send_back, send_back, ih]; rfl
    · by_cases h34 : c = 34
      · subst h34
        rw [esc_m, send_mark, esc_m]
        show sendG b (92 :: 34 :: (escL w ++ 34 :: r)) = _
        rw [send_back, send_mark, ih]; rfl
      · rw [esc_o h92 h34]
        show sendG b (c :: (escL w ++ 34 :: r)) = _
        by_cases h46 : b = true ∧ c = 46
        · obtain ⟨rfl, rfl⟩ := h46
          rw [sendG_dot, sendG_dot, esc_o (by decide) (by decide), esc_o (by decide) (by decide), ih]; rfl
        · rw [sendG_c b _ h1 h2 h46, sendG_c b _ h1 h2 h46, esc_o h92 h34, ih]; rfl
theorem send_dbl (w : List Nat) : ∀ (b : Bool) (r : List Nat), sendG b (dblL w ++ 34 :: r) = dblL (sendG b w) ++ 34 :: sendG false r := by
  refine send_cases (P := fun w => ∀ (b : Bool) (r : List Nat), sendG b (dblL w ++ 34 :: r) = dblL (sendG b w) ++ 34 :: sendG false r) ?_ ?_ ?_ ?_ ?_ ?_ w
  · intro b r; rw [sendG_nil]; exact send_mark b r
  · intro w ih b r
    rw [dbl_o (c := 13) (by decide), dbl_o (c := 10) (by decide), sendG_rf, dbl_o (c := 13) (by decide), dbl_o (c := 10) (by decide)]
    show sendG b (13 :: 10 :: (dblL w ++ 34 :: r)) = _
    rw [sendG_rf, ih]; rfl
  · intro b r
    rw [sendG_r1]
    show sendG b (13 :: 34 :: r) = 13 :: 10 :: 34 :: sendG false r
    rw [sendG_r b r (by decide), send_mark]
  · intro d w hd ih b r
    rw [dbl_o (c := 13) (by decide), sendG_r b w hd, dbl_o (c := 13) (by decide), dbl_o (c := 10) (by decide)]
    show sendG b (13 :: (dblL (d :: w) ++ 34 :: r)) = _
    rw [sendG_r', ih]; · rfl
    refine head_app (fun _ => ?_) (by simp)
    by_cases h2 : d = 34
    · subst h2; rw [dbl_m]; simp
    · rw [dbl_o h2]; simpa using hd
  · intro w ih b r
    rw [dbl_o (c := 10) (by decide), sendG_f, dbl_o (c := 13) (by decide), dbl_o (c := 10) (by decide)]
    show sendG b (10 :: (dblL w ++ 34 :: r)) = _
    rw [sendG_f, ih]; rfl
  · intro c w h1 h2 ih b r
    by_cases h34 : c = 34
    · subst h34
      rw [dbl_m, send_mark, dbl_m]
      show sendG b (34 :: 34 :: (dblL w ++ 34 :: r)) = _
      rw [send_mark, send_mark, ih]; rfl
    · rw [dbl_o h34]
      show sendG b (c :: (dblL w ++ 34 :: r)) = _
      by_cases h46 : b = true ∧ c = 46
      · obtain ⟨rfl, rfl⟩ := h46
        rw [sendG_dot, sendG_dot, dbl_o (by decide), dbl_o (by decide), ih]; rfl
      · rw [sendG_c b _ h1 h2 h46, sendG_c b _ h1 h2 h46, dbl_o h34, ih]; rfl
theorem send_quote (k : Nat) (w r : List Nat) (b : Bool) : sendG b (quoteL k w ++ r) = quoteL k (sendG false w) ++ sendG false r := by
  unfold quoteL
  by_cases h : k = 1
  · rw [if_pos h, if_pos h]
    have e : 34 :: (escL w ++ [34]) ++ r = 34 :: (escL w ++ 34 :: r) := by simp
    rw [e, send_mark, send_esc]; simp
  · rw [if_neg h, if_neg h]
    have e : 50 :: 53 :: 55 :: 32 :: 34 :: (dblL w ++ [34]) ++ r = 50 :: 53 :: 55 :: 32 :: 34 :: (dblL w ++ 34 :: r) := by simp
    have hc : ∀ (b : Bool) {c : Nat} (x : List Nat), c ≠ 13 → c ≠ 10 → c ≠ 46 → sendG b (c :: x) = c :: sendG false x := fun b c x h1 h2 h3 => sendG_c b x h1 h2 fun q => h3 q.2
    rw [e, hc b _ (by decide) (by decide) (by decide), hc _ _ (by decide) (by decide) (by decide), hc _ _ (by decide) (by decide) (by decide), hc _ _ (by decide) (by decide) (by decide), send_mark, send_dbl]; simp
theorem send_qL (k : Nat) : ∀ (ws : List (List Nat)) (b : Bool), sendG b (qL k ws) = qL k (ws.map (sendG false))
  | [], b => by rw [qL_nil, sendG_nil]; rfl
  | w :: ws, b => by rw [qL_cons, send_quote, send_qL k ws false]; rfl
theorem sendN_qL (k : Nat) : ∀ (n : Nat) (ws : List (List Nat)) (b : Bool), sendN b n (qL k ws) = qL k (ws.map (sendN false n))
  | 0, ws, b => by
    show qL k ws = _
    rw [show (ws.map (sendN false 0)) = ws from by rw [show sendN false 0 = id from rfl, List.map_id]]
  | n + 1, ws, b => by
    show sendN b n (sendG b (qL k ws)) = _
    rw [send_qL, sendN_qL k n, List.map_map]; rfl
/-- what is written of a tree, sent `a` times more within a quotation -/
def wrA (t : Tr) (a : Nat) : List Nat := sendN false a (wrT t)
theorem wrA_node (k q : Nat) (ps : List Tr) (a : Nat) : wrA (.node k q ps) a = qL k (ps.map fun p => wrA p (q + a)) := by
  unfold wrA
  rw [wrT_node, sendN_qL, sendN_qL, List.map_map, List.map_map]
  congr 1
  refine List.map_congr_left fun p _ => ?_
  show sendN false a (sendN false q (wrT p)) = _
  rw [sendN_add]
theorem sendN_eq (n : Nat) : ∀ (l : List Nat) , sendN false n (61 :: l) = 61 :: sendN false n l := by
  induction n with
  | zero => intro l; rfl
  | succ n ih =>
    intro l
    show sendN false n (sendG false (61 :: l)) = _
    rw [sendG_false _ (by decide) (by decide), ih]; rfl
def leafL (q a : Nat) (t : List Nat) : List Nat := sendN false a (sendN true q t)
theorem wrA_leaf (q : Nat) (t : List Nat) (a : Nat) : wrA (.leaf q t) a = 61 :: leafL q a t := by
  unfold wrA leafL
  rw [wrT_leaf, sendN_eq]
/-! the readers -/
theorem hear_esc : ∀ (w r : List Nat), hearL (escL w ++ 34 :: r) = w
  | [], r => hear_mark r
  | c :: w, r => by
    by_cases h1 : c = 92
    · subst h1; rw [esc_b]
      show hearL (92 :: 92 :: (escL w ++ 34 :: r)) = _
      rw [hear_back, hear_esc w r]
    · by_cases h2 : c = 34
      · subst h2; rw [esc_m]
        show hearL (92 :: 34 :: (escL w ++ 34 :: r)) = _
        rw [hear_back, hear_esc w r]
      · rw [esc_o h1 h2]
        show hearL (c :: (escL w ++ 34 :: r)) = _
        rw [hear_other h2 h1, hear_esc w r]
theorem rest_esc : ∀ (w r : List Nat), restL (escL w ++ 34 :: r) = r
  | [], r => rest_mark r
  | c :: w, r => by
    by_cases h1 : c = 92
    · subst h1; rw [esc_b]
      show restL (92 :: 92 :: (escL w ++ 34 :: r)) = _
      rw [rest_back, rest_esc w r]
    · by_cases h2 : c = 34
      · subst h2; rw [esc_m]
        show restL (92 :: 34 :: (escL w ++ 34 :: r)) = _
        rw [rest_back, rest_esc w r]
      · rw [esc_o h1 h2]
        show restL (c :: (escL w ++ 34 :: r)) = _
        rw [rest_other h2 h1, rest_esc w r]
theorem tell_dbl : ∀ (w r : List Nat), r.head? ≠ some 34 → tellL (dblL w ++ 34 :: r) = w
  | [], r, h => tell_stop' h
  | c :: w, r, h => by
    by_cases h2 : c = 34
    · subst h2; rw [dbl_m]
      show tellL (34 :: 34 :: (dblL w ++ 34 :: r)) = _
      rw [tell_two, tell_dbl w r h]
    · rw [dbl_o h2]
      show tellL (c :: (dblL w ++ 34 :: r)) = _
      rw [tell_other h2, tell_dbl w r h]
theorem dbl_len : ∀ w : List Nat, (dblL w).length = w.length + w.count 34
  | [] => rfl
  | c :: w => by
    have ih := dbl_len w
    by_cases h2 : c = 34
    · subst h2; rw [dbl_m]; simp only [List.length_cons, List.count_cons_self]; omega
    · rw [dbl_o h2]; simp only [List.length_cons, List.count_cons_of_ne h2]; omega
theorem esc_count : ∀ w : List Nat, (escL w).count 10 = w.count 10
  | [] => rfl
  | c :: w => by
    have ih := esc_count w
    by_cases h1 : c = 92
    · subst h1; rw [esc_b]; simpa using ih
    · by_cases h2 : c = 34
      · subst h2; rw [esc_m]; simpa using ih
      · rw [esc_o h1 h2, List.count_cons, List.count_cons, ih]
theorem dbl_count : ∀ w : List Nat, (dblL w).count 10 = w.count 10
  | [] => rfl
  | c :: w => by
    have ih := dbl_count w
    by_cases h2 : c = 34
    · subst h2; rw [dbl_m]; simpa using ih
    · rw [dbl_o h2, List.count_cons, List.count_cons, ih]
theorem quote_count (k : Nat) (w : List Nat) : (quoteL k w).count 10 = w.count 10 := by
  unfold quoteL
  split
  · rw [List.count_cons, List.count_append, esc_count]; simp
  · simp only [List.count_cons, List.count_append, dbl_count]; simp
theorem qL_count (k : Nat) : ∀ ws : List (List Nat), (qL k ws).count 10 = (ws.map fun w => w.count 10).sum
  | [] => rfl
  | w :: ws => by rw [qL_cons, List.count_append, quote_count, qL_count k ws]; rfl
end Mine
end
section
open PySem PySem.W PyProof.Rows
set_option Elab.async false
set_option maxRecDepth 100000
namespace Mine
/-! lengths -/
theorem send_ge (l : List Nat) : ∀ b, l.length ≤ (sendG b l).length := by
  refine send_cases (P := fun l => ∀ b, l.length ≤ (sendG b l).length) ?_ ?_ ?_ ?_ ?_ ?_ l
  · intro b; simp
  · intro r ih b; rw [sendG_rf]; have := ih true; simp only [List.length_cons]; omega
  · intro b; rw [sendG_r1]; simp
  · intro d r hd ih b; rw [sendG_r b r hd]; have := ih true; simp only [List.length_cons] at this ⊢; omega
  · intro r ih b; rw [sendG_f]; have := ih true; simp only [List.length_cons]; omega
  · intro c r h1 h2 ih b
    by_cases h3 : b = true ∧ c = 46
    · obtain ⟨rfl, rfl⟩ := h3; rw [sendG_dot]; have := ih false; simp only [List.length_cons]; omega
    · rw [sendG_c b r h1 h2 h3]; have := ih false; simp only [List.length_cons]; omega
theorem sendN_ge (b : Bool) : ∀ (n : Nat) (l : List Nat), l.length ≤ (sendN b n l).length
  | 0, _ => Nat.le_refl _
  | n + 1, l => Nat.le_trans (send_ge l b) (sendN_ge b n (sendG b l))
theorem sendN_le (b : Bool) : ∀ (n : Nat) (l : List Nat), (sendN b n l).length ≤ 2 ^ n * l.length
  | 0, l => by rw [show (2 : Nat) ^ 0 = 1 from rfl, Nat.one_mul]; exact Nat.le_refl _
  | n + 1, l => by
    have h1 := sendN_le b n (sendG b l)
    have h2 := sendG_len l b
    have h3 : 2 ^ n * (sendG b l).length ≤ 2 ^ n * (2 * l.length) := Nat.mul_le_mul_left _ h2
    have e : 2 ^ n * (2 * l.length) = 2 ^ (n + 1) * l.length := by rw [Nat.pow_succ, Nat.mul_assoc]
    exact Nat.le_trans h1 (e ▸ h3)
theorem esc_len_ge : ∀ w : List Nat, w.length ≤ (escL w).length
  | [] => Nat.le_refl _
  | c :: w => by
    have ih := esc_len_ge w
    by_cases h1 : c = 92
    · subst h1; rw [esc_b]; simp only [List.length_cons]; omega
    · by_cases h2 : c = 34
      · subst h2; rw [esc_m]; simp only [List.length_cons]; omega
      · rw [esc_o h1 h2]; simp only [List.length_cons]; omega
theorem esc_len_le : ∀ w : List Nat, (escL w).length ≤ 2 * w.length
  | [] => Nat.le_refl _
  | c :: w => by
    have ih := esc_len_le w
    by_cases h1 : c = 92
    · subst h1; rw [esc_b]; simp only [List.length_cons]; omega
    · by_cases h2 : c = 34
      · subst h2; rw [esc_m]; simp only [List.length_cons]; omega
      · rw [esc_o h1 h2]; simp only [List.length_cons]; omega
theorem dbl_len_le (w : List Nat) : (dblL w).length ≤ 2 * w.length := by
  rw [dbl_len]; have := List.count_le_length (a := 34) (l := w); omega
theorem quote_ge (k : Nat) (w : List Nat) : w.length + 2 ≤ (quoteL k w).length := by
  unfold quoteL
  have h1 := esc_len_ge w
  have h2 := dbl_len w
  split <;> simp only [List.length_cons, List.length_append, List.length_nil] <;> omega
theorem quote_le (k : Nat) (w : List Nat) : (quoteL k w).length ≤ 2 * w.length + 6 := by
  unfold quoteL
  have h1 := esc_len_le w
  have h2 := dbl_len_le w
  split <;> simp only [List.length_cons, List.length_append, List.length_nil] <;> omega
theorem qL_ge (k : Nat) : ∀ {ws : List (List Nat)} {w : List Nat}, w ∈ ws → w.length + 2 ≤ (qL k ws).length
  | v :: ws, w, h => by
    rw [qL_cons, List.length_append]
    rcases List.mem_cons.mp h with rfl | h
    · have := quote_ge k w; omega
    · have := qL_ge k h; omega
theorem qL_count_le (k : Nat) : ∀ (ws : List (List Nat)), 2 * ws.length ≤ (qL k ws).length
  | [] => Nat.le_refl _
  | w :: ws => by
    have h1 := qL_count_le k ws
    have h2 := quote_ge k w
    rw [qL_cons, List.length_append]; simp only [List.length_cons]; omega
theorem part_le {k q : Nat} {ps : List Tr} {p : Tr} {a : Nat} (h : p ∈ ps) : (wrA p (q + a)).length + 2 ≤ (wrA (.node k q ps) a).length := by
  rw [wrA_node]
  exact qL_ge k (List.mem_map_of_mem (f := fun p => wrA p (q + a)) h)
/-! trees as the law builds them -/
abbrev SgnOk (c : Nat) : Prop := c < 1114112
def TOk : Nat → Tr → Prop
  | _, .leaf q t => q ≤ 2 ∧ t.length ≤ 5 ∧ ∀ c ∈ t, SgnOk c
  | 0, .node _ _ _ => False
  | n + 1, .node k q ps => (k = 1 ∨ k = 2) ∧ q ≤ 2 ∧ ∀ p ∈ ps, TOk n p
mutual
def szT : Tr → Nat
  | .leaf _ _ => 1
  | .node _ _ ps => szTs ps + 1
def szTs : List Tr → Nat
  | [] => 0
  | p :: r => szT p + szTs r
end
theorem szT_pos (t : Tr) : 1 ≤ szT t := by
  cases t with
  | leaf q t => rw [szT]; exact Nat.le_refl _
  | node k q ps => rw [szT]; omega
theorem szT_node (k q : Nat) (ps : List Tr) : szT (.node k q ps) = szTs ps + 1 := by rw [szT]
theorem szTs_cons (p : Tr) (r : List Tr) : szTs (p :: r) = szT p + szTs r := by rw [szTs]
theorem szTs_append : ∀ (l r : List Tr), szTs (l ++ r) = szTs l + szTs r
  | [], r => by rw [List.nil_append, szTs, Nat.zero_add]
  | p :: l, r => by rw [List.cons_append, szTs_cons, szTs_cons, szTs_append l r]; omega
theorem wr_len : ∀ (n : Nat) (t : Tr), TOk n t → (wrT t).length ≤ 24 * 9 ^ n * szT t := by
  intro n
  have hleaf : ∀ (n q : Nat) (t : List Nat), q ≤ 2 → t.length ≤ 5 → (wrT (.leaf q t)).length ≤ 24 * 9 ^ n * szT (.leaf q t) := by
    intro n q t hq ht
    rw [wrT_leaf, List.length_cons, szT, Nat.mul_one]
    have h1 := sendN_le true q t
    have h2 : 2 ^ q ≤ 4 := by
      have : q = 0 ∨ q = 1 ∨ q = 2 := by omega
      rcases this with rfl | rfl | rfl <;> decide
    have h3 : 2 ^ q * t.length ≤ 4 * 5 := Nat.mul_le_mul h2 ht
    have h4 : 1 ≤ 9 ^ n := Nat.one_le_pow _ _ (by decide)
    omega
  induction n with
  | zero =>
    intro t h
    cases t with
    | leaf q t => exact hleaf 0 q t h.1 h.2.1
    | node k q ps => exact h.elim
  | succ n ih =>
    intro t h
    cases t with
    | leaf q t => exact hleaf _ q t h.1 h.2.1
    | node k q ps =>
      obtain ⟨_, hq, hp⟩ := h
      rw [wrT_node, szT_node]
      have h1 := sendN_le true q (qL k (ps.map wrT))
      have h2 : 2 ^ q ≤ 4 := by
        have : q = 0 ∨ q = 1 ∨ q = 2 := by omega
        rcases this with rfl | rfl | rfl <;> decide
      have key : ∀ l : List Tr, (∀ p ∈ l, TOk n p) → 4 * (qL k (l.map wrT)).length ≤ 24 * 9 ^ (n + 1) * szTs l := by
        intro l
        induction l with
        | nil => intro _; simp [qL]
        | cons p r ihr =>
          intro hl
          have e1 := ih p (hl p (.head _))
          have e2 := ihr fun x hx => hl x (.tail _ hx)
          have e3 := quote_le k (wrT p)
          have e4 := szT_pos p
          rw [List.map_cons, qL_cons, List.length_append, szTs_cons, Nat.mul_add, Nat.mul_add]
          have e5 : 4 * (quoteL k (wrT p)).length ≤ 8 * (24 * 9 ^ n * szT p) + 24 := by omega
          have e6 : 24 * 9 ^ (n + 1) * szT p = 9 * (24 * 9 ^ n * szT p) := by
            rw [Nat.pow_succ]
            generalize 9 ^ n = x
            generalize szT p = y
            rw [show 24 * (x * 9) * y = 9 * (24 * x * y) by
              rw [Nat.mul_comm x 9, ← Nat.mul_assoc 24 9 x, show 24 * 9 = 9 * 24 from rfl, Nat.mul_assoc 9 24 x, Nat.mul_assoc 9 (24 * x) y]]
          have e7 : 24 ≤ 24 * 9 ^ n * szT p := by
            have a1 : 1 ≤ 9 ^ n := Nat.one_le_pow _ _ (by decide)
            have a2 : 24 * 1 ≤ 24 * 9 ^ n := Nat.mul_le_mul_left _ a1
            exact Nat.le_trans a2 (Nat.le_mul_of_pos_right _ e4)
          omega
      have h3 : 2 ^ q * (qL k (ps.map wrT)).length ≤ 4 * (qL k (ps.map wrT)).length := Nat.mul_le_mul_right _ h2
      have h4 := key ps hp
      have h5 : 24 * 9 ^ (n + 1) * szTs ps ≤ 24 * 9 ^ (n + 1) * (szTs ps + 1) := Nat.mul_le_mul_left _ (Nat.le_succ _)
      omega
theorem wr_room {t : Tr} (h : TOk 3 t) (hs : szT t ≤ 9) : (wrT t).length ≤ 200000 := by
  have h1 := wr_len 3 t h
  have h2 : 24 * 9 ^ 3 * szT t ≤ 24 * 9 ^ 3 * 9 := Nat.mul_le_mul_left _ hs
  have h3 : 24 * 9 ^ 3 * 9 ≤ 200000 := by decide
  omega
/-! what is due of a leaf: its rows -/
def dotsL (n : Nat) (p : List Nat) : List Nat := if p.head? = some 46 then List.replicate n 46 ++ p else p
theorem dots_zero (p : List Nat) : dotsL 0 p = p := by unfold dotsL; split <;> rfl
theorem dotIf_false (p : List Nat) : dotIf false p = p := by unfold dotIf; rw [if_neg (by simp)]
theorem dotIf_dots (n : Nat) (p : List Nat) : dotIf true (dotsL n p) = dotsL (n + 1) p := by
  unfold dotsL
  by_cases h : p.head? = some 46
  · rw [if_pos h, if_pos h]
    unfold dotIf
    have : (List.replicate n 46 ++ p).head? = some 46 := by
      cases n with
      | zero => exact h
      | succ n => rfl
    rw [if_pos ⟨rfl, this⟩]; rfl
  · rw [if_neg h, if_neg h]
    unfold dotIf
    rw [if_neg fun q => h q.2]
abbrev FreeR (p : List Nat) : Prop := ∀ c ∈ p, c ≠ 13 ∧ c ≠ 10
theorem free_dots {n : Nat} {p : List Nat} (h : FreeR p) : FreeR (dotsL n p) := by
  unfold dotsL
  split
  · intro c hc
    rcases List.mem_append.mp hc with hc | hc
    · rw [(List.mem_replicate.mp hc).2]; decide
    · exact h c hc
  · exact h
theorem n1_free : ∀ {p : List Nat} (r : List Nat), FreeR p → n1 (p ++ r) = p ++ n1 r
  | [], _, _ => rfl
  | c :: p, r, h => by
    show n1 (c :: (p ++ r)) = _
    rw [n1_c _ (h c (.head _)).1, n1_free r fun d hd => h d (.tail _ hd)]; rfl
theorem n1_nil : n1 [] = [] := rfl
theorem n1_join : ∀ P : List (List Nat), (∀ p ∈ P, FreeR p) → n1 (joinL [13, 10] P) = joinL [10] P
  | [], _ => rfl
  | [p], h => by
    show n1 p = p
    have := n1_free (p := p) [] (h p (.head _))
    rwa [List.append_nil, n1_nil, List.append_nil] at this
  | p :: p2 :: P, h => by
    show n1 (p ++ [13, 10] ++ joinL [13, 10] (p2 :: P)) = p ++ [10] ++ joinL [10] (p2 :: P)
    rw [List.append_assoc, n1_free _ (h p (.head _))]
    show p ++ n1 (13 :: 10 :: joinL [13, 10] (p2 :: P)) = _
    rw [n1_rf, n1_join (p2 :: P) fun x hx => h x (.tail _ hx), List.append_assoc]; rfl
theorem send_rows (b : Bool) {p : List Nat} {r : List (List Nat)} (h : ∀ x ∈ p :: r, FreeR x) : sendG b (joinL [13, 10] (p :: r)) = joinL [13, 10] (dotIf b p :: r.map (dotIf true)) := by
  refine (rows_send (joinL [13, 10] (p :: r)) b p r ?_).symm
  rw [n1_join _ h]
  exact splitL_join 10 (p :: r) (List.cons_ne_nil _ _) fun a ha hc => (h a ha 10 hc).2 rfl
theorem sendN_rows_f {p : List Nat} {r : List (List Nat)} (h : ∀ x ∈ p :: r, FreeR x) : ∀ (a n m : Nat), sendN false a (joinL [13, 10] (dotsL n p :: r.map (dotsL m))) = joinL [13, 10] (dotsL n p :: r.map (dotsL (m + a)))
  | 0, n, m => rfl
  | a + 1, n, m => by
    show sendN false a (sendG false _) = _
    rw [send_rows false, dotIf_false, List.map_map, show (dotIf true ∘ dotsL m) = dotsL (m + 1) from funext fun x => dotIf_dots m x, sendN_rows_f h a n (m + 1), show m + 1 + a = m + (a + 1) by omega]
    intro x hx
    rcases List.mem_cons.mp hx with rfl | hx
    · exact free_dots (h p (.head _))
    · obtain ⟨y, hy, rfl⟩ := List.mem_map.mp hx
      exact free_dots (h y (.tail _ hy))
theorem sendN_rows_t {p : List Nat} {r : List (List Nat)} (h : ∀ x ∈ p :: r, FreeR x) : ∀ (a n : Nat), sendN true a (joinL [13, 10] (dotsL n p :: r.map (dotsL n))) = joinL [13, 10] (dotsL (n + a) p :: r.map (dotsL (n + a)))
  | 0, n => rfl
  | a + 1, n => by
    show sendN true a (sendG true _) = _
    rw [send_rows true, dotIf_dots, List.map_map, show (dotIf true ∘ dotsL n) = dotsL (n + 1) from funext fun x => dotIf_dots n x, sendN_rows_t h a (n + 1), show n + 1 + a = n + (a + 1) by omega]
    intro x hx
    rcases List.mem_cons.mp hx with rfl | hx
    · exact free_dots (h p (.head _))
    · obtain ⟨y, hy, rfl⟩ := List.mem_map.mp hx
      exact free_dots (h y (.tail _ hy))
theorem n1_no13 : ∀ l : List Nat, 13 ∉ n1 l := by
  have key : ∀ m (l : List Nat), l.length ≤ m → 13 ∉ n1 l := by
    intro m
    induction m with
    | zero => intro l hl; rw [List.length_eq_zero_iff.mp (Nat.le_zero.mp hl)]; simp [n1_nil]
    | succ m ih =>
      intro l hl
      match l, hl with
      | [], _ => simp [n1_nil]
      | [c], _ =>
        by_cases h : c = 13
        · subst h; rw [n1_r1]; decide
        · rw [n1_c _ h, n1_nil]; simpa using fun e : 13 = c => h e.symm
      | c :: d :: r, hl =>
        simp only [List.length_cons] at hl
        by_cases h : c = 13
        · subst h
          by_cases hd : d = 10
          · subst hd; rw [n1_rf]
            have := ih r (by omega)
            simpa using this
          · rw [n1_r r hd]
            have := ih (d :: r) (by simp only [List.length_cons]; omega)
            simpa using this
        · rw [n1_c _ h]
          have := ih (d :: r) (by simp only [List.length_cons]; omega)
          intro q
          rcases List.mem_cons.mp q with e | q
          · exact h e.symm
          · exact this q
  exact fun l => key l.length l (Nat.le_refl _)
theorem split_sub (c : Nat) : ∀ (l : List Nat), ∀ p ∈ splitL c l, ∀ d ∈ p, d ∈ l ∧ d ≠ c
  | [], p, hp, d, hd => by
    rw [show splitL c [] = [[]] from rfl, List.mem_singleton] at hp
    subst hp; cases hd
  | e :: r, p, hp, d, hd => by
    by_cases h : e = c
    · subst h
      rw [splitL_hit] at hp
      rcases List.mem_cons.mp hp with rfl | hp
      · cases hd
      · have := split_sub e r p hp d hd; exact ⟨.tail _ this.1, this.2⟩
    · obtain ⟨q, t, e1⟩ := splitL_some c r
      rw [splitL_miss h e1] at hp
      rcases List.mem_cons.mp hp with rfl | hp
      · rcases List.mem_cons.mp hd with rfl | hd
        · exact ⟨.head _, h⟩
        · have := split_sub c r q (by rw [e1]; exact .head _) d hd; exact ⟨.tail _ this.1, this.2⟩
      · have := split_sub c r p (by rw [e1]; exact .tail _ hp) d hd; exact ⟨.tail _ this.1, this.2⟩
theorem rows_free (t : List Nat) : ∀ p ∈ splitL 10 (n1 t), FreeR p := fun p hp c hc => by
  have := split_sub 10 (n1 t) p hp c hc
  exact ⟨fun e => n1_no13 t (e ▸ this.1), this.2⟩
theorem leaf_rows {q a : Nat} {t p : List Nat} {r : List (List Nat)} (e : splitL 10 (n1 t) = p :: r) (h : 0 < q + a) : leafL q a t = joinL [13, 10] (dotsL q p :: r.map (dotsL (q + a))) := by
  have hf : ∀ x ∈ p :: r, FreeR x := fun x hx => rows_free t x (by rw [e]; exact hx)
  unfold leafL
  have first : ∀ b, sendG b t = joinL [13, 10] (dotIf b p :: r.map (dotIf true)) := fun b => (rows_send t b p r e).symm
  have e1 : ∀ x : List Nat, dotIf true x = dotsL 1 x := fun x => by rw [← dotIf_dots 0 x, dots_zero]
  cases q with
  | zero =>
    cases a with
    | zero => omega
    | succ a =>
      show sendN false a (sendG false t) = _
      rw [first, dotIf_false, show dotIf true = dotsL 1 from funext e1]
      have := sendN_rows_f hf a 0 1
      rw [dots_zero] at this
      rw [this, dots_zero, show 1 + a = 0 + (a + 1) by omega]
  | succ q =>
    show sendN false a (sendN true q (sendG true t)) = _
    rw [first, e1, show dotIf true = dotsL 1 from funext e1, sendN_rows_t hf q 1, sendN_rows_f hf a (1 + q) (1 + q), show 1 + q = q + 1 by omega]
end Mine
end
section
open PySem PySem.W PyProof.Rows
set_option Elab.async false
set_option maxRecDepth 100000
namespace Mine
def QOpen : Prop := True
inductive Fa2 {α β : Type} (R : α → β → Prop) : List α → List β → Prop
  | nil : Fa2 R [] []
  | cons {a : α} {b : β} {l : List α} {r : List β} : R a b → Fa2 R l r → Fa2 R (a :: l) (b :: r)
theorem Fa2.mono {α β : Type} {R R' : α → β → Prop} (h : ∀ a b, R a b → R' a b) : ∀ {l : List α} {r : List β}, Fa2 R l r → Fa2 R' l r
  | _, _, .nil => .nil
  | _, _, .cons x t => .cons (h _ _ x) (t.mono h)
theorem Fa2.length {α β : Type} {R : α → β → Prop} : ∀ {l : List α} {r : List β}, Fa2 R l r → r.length = l.length
  | _, _, .nil => rfl
  | _, _, .cons _ t => congrArg (· + 1) t.length
theorem Fa2.get {α β : Type} {R : α → β → Prop} : ∀ {l : List α} {r : List β}, Fa2 R l r → ∀ {i : Nat} {b : β}, r[i]? = some b → ∃ a, l[i]? = some a ∧ a ∈ l ∧ R a b
  | _, _, .nil, _, _, h => by simp at h
  | _, _, .cons (a := a) x _, 0, b, h => ⟨a, rfl, .head _, (Option.some.inj h) ▸ x⟩
  | _, _, .cons _ t, i + 1, b, h => by
    obtain ⟨a, e, m, q⟩ := t.get (i := i) h
    exact ⟨a, e, .tail _ m, q⟩
theorem Fa2.append {α β : Type} {R : α → β → Prop} : ∀ {l : List α} {r : List β} {l' : List α} {r' : List β}, Fa2 R l r → Fa2 R l' r' → Fa2 R (l ++ l') (r ++ r')
  | _, _, _, _, .nil, h => h
  | _, _, _, _, .cons x t, h => .cons x (t.append h)
theorem off_of_lt {I : Addr} : ∀ {l : List (Addr × Obj)}, AllLt I l → ∀ p ∈ l, p.1 ≠ I
  | [], _, _, h => by cases h
  | _ :: _, h, p, hp => by
    rcases List.mem_cons.mp hp with rfl | hp
    · exact Nat.ne_of_lt h.1
    · exact off_of_lt h.2 p hp
/-- where the ledger bears a tree -/
def TAt (S : List (Addr × Obj)) : Nat → Tr → Value → Prop
  | _, .leaf q t, v => ∃ a c t0 t1 t2, v = .ref a ∧ (a, listOf #[.int 0 t0, .int (q : Int) t1, .str (ofL t) t2] c) ∈ S
  | 0, .node _ _ _, _ => False
  | n + 1, .node k q ps, v => ∃ a c l vs c' t0 t1, v = .ref a ∧ (a, listOf #[.int (k : Int) t0, .int (q : Int) t1, .ref l] c) ∈ S ∧ (l, listOf (List.toArray vs) c') ∈ S ∧ Fa2 (TAt S n) ps vs
theorem TAt.mono {S S' : List (Addr × Obj)} (hs : ∀ p ∈ S, p ∈ S') : ∀ {n : Nat} {t : Tr} {v : Value}, TAt S n t v → TAt S' n t v := by
  intro n
  induction n with
  | zero =>
    intro t v h
    cases t with
    | leaf q t => obtain ⟨a, c, t0, t1, t2, e, m⟩ := h; exact ⟨a, c, t0, t1, t2, e, hs _ m⟩
    | node k q ps => exact h.elim
  | succ n ih =>
    intro t v h
    cases t with
    | leaf q t => obtain ⟨a, c, t0, t1, t2, e, m⟩ := h; exact ⟨a, c, t0, t1, t2, e, hs _ m⟩
    | node k q ps =>
      obtain ⟨a, c, l, vs, c', t0, t1, e, m1, m2, f⟩ := h
      exact ⟨a, c, l, vs, c', t0, t1, e, hs _ m1, hs _ m2, f.mono fun a b => ih⟩
theorem news_add {h₀ h : Heap} {L : Addr} {p : Addr × Obj} {news : List (Addr × Obj)} (N : News h₀ L h news) (hp : p ∈ news) : News h₀ L h (p :: news) := fun q hq => by
  rcases List.mem_cons.mp hq with rfl | hq
  · exact N _ hp
  · exact N _ hq
section
variable {prog : Program} {w : World} {A : Around} {h₀ : Heap} {L : Addr} {m : Str → Option Value} {env : Env} {elt : Expr} {x : Str} {scope : Scope} {cl : List (Str × Addr)} {s : Shared} {S : List (Addr × Obj) → Prop} {Fin : List Value → List (Addr × Obj) → Prop} {news : List (Addr × Obj)}
/-- texts out of the parts of a tree -/
theorem comp_parts {ps : List Tr} {vs : List Value} {R : Tr → Value → Prop} (hf : Fa2 R ps vs) (g : Tr → Str) (hS : S news)
    (turn : ∀ p v I oI C oC D m₂ ys h tk (E' : Value → Shared → Prop), p ∈ ps → R p v → LCg.NsObj oC m₂ → m₂ x = some v → Fr h₀ L h m → News h₀ L h ((I, oI) :: (C, oC) :: (D, LCg.lst ys) :: news) → LCg.Off3 I C D news → ((@Ne Nat I C) ∧ (@Ne Nat I D) ∧ (@Ne Nat C D)) →
      wpAny (model prog w) A (eval elt (compEnvC scope cl C env)) (LCg.CompEnd h₀ L m { s with heap := h, toks := tk } I oI C oC D (LCg.lst ys) S (TxEl news (g p))) E' { s with heap := h, toks := tk })
    (fin : ∀ l' : List (Str × Tok), l'.map (fun x => x.1) = ps.map g → Fin (strValues l') news) : LCg.CompRest prog w A h₀ L m env elt x scope cl s S (fun i v => vs.toArray[i]? = some v) Fin vs.toArray.size 0 [] news := by
  have hsz : vs.toArray.size = ps.length := by rw [List.size_toArray, hf.length]
  have hG : (List.range ps.length).map (fun i => ((ps[i]?).map g).getD Str.empty) = ps.map g := by
    refine List.ext_getElem (by simp) fun i h1 h2 => ?_
    simp only [List.length_map, List.length_range] at h1 h2
    simp [h1]
  refine comp_texts (fun i => ((ps[i]?).map g).getD Str.empty) hS ?_ (fun l' e => fin l' (by rw [e, hsz, hG]))
  intro i v I oI C oC D m₂ ys h tk E' hi hP hC hx F N off ne
  obtain ⟨p, e, hm, hR⟩ := hf.get (i := i) (by simpa using hP)
  have e2 : ((ps[i]?).map g).getD Str.empty = g p := by rw [e]; rfl
  rw [e2]
  exact turn p v I oI C oC D m₂ ys h tk E' hm hR hC hx F N off ne
end
/-! the texts of the walk, as lists -/
def escS (x : Str) : Str := Txt.replace (Txt.replace x (Str.ofString "\\") (Str.ofString "\\\\")) (Str.ofString "\"") (Str.ofString "\\\"")
def dblS (x : Str) : Str := Txt.replace x (Str.ofString "\"") (Str.ofString "\"\"")
theorem esc_rep : ∀ l : List Nat, rep1 34 [92, 34] (rep1 92 [92, 92] l) = escL l
  | [] => rfl
  | c :: l => by
    have ih := esc_rep l
    by_cases h1 : c = 92
    · subst h1
      rw [esc_b, rep1_cons, if_pos rfl]
      show rep1 34 [92, 34] (92 :: 92 :: rep1 92 [92, 92] l) = _
      rw [rep1_cons, if_neg (by decide), rep1_cons, if_neg (by decide), ih]; rfl
    · rw [rep1_cons, if_neg h1]
      show rep1 34 [92, 34] (c :: rep1 92 [92, 92] l) = _
      by_cases h2 : c = 34
      · subst h2; rw [esc_m, rep1_cons, if_pos rfl, ih]; rfl
      · rw [esc_o h1 h2, rep1_cons, if_neg h2, ih]; rfl
theorem dbl_rep : ∀ l : List Nat, rep1 34 [34, 34] l = dblL l
  | [] => rfl
  | c :: l => by
    have ih := dbl_rep l
    by_cases h2 : c = 34
    · subst h2; rw [dbl_m, rep1_cons, if_pos rfl, ih]; rfl
    · rw [dbl_o h2, rep1_cons, if_neg h2, ih]; rfl
theorem escS_eq (l : List Nat) : escS (ofL l) = ofL (escL l) := by
  refine eq_ofL ?_
  unfold escS
  rw [replace_list _ _ _ (by decide +kernel), replace_list _ _ _ (by decide +kernel), ofL_list, show (Str.ofString "\"").cps.toList = [34] by decide +kernel, show (Str.ofString "\\").cps.toList = [92] by decide +kernel,
    show (Str.ofString "\\\"").cps.toList = [92, 34] by decide +kernel, show (Str.ofString "\\\\").cps.toList = [92, 92] by decide +kernel, repL_one, repL_one]
  exact esc_rep l
theorem dblS_eq (l : List Nat) : dblS (ofL l) = ofL (dblL l) := by
  refine eq_ofL ?_
  unfold dblS
  rw [replace_list _ _ _ (by decide +kernel), ofL_list, show (Str.ofString "\"").cps.toList = [34] by decide +kernel, show (Str.ofString "\"\"").cps.toList = [34, 34] by decide +kernel, repL_one]
  exact dbl_rep l
def qfS (x : Str) : Str := Str.ofString "\"" ++ escS x ++ Str.ofString "\""
def qtS (x : Str) : Str := Str.ofString "257 \"" ++ dblS x ++ Str.ofString "\""
theorem qfS_eq (l : List Nat) : qfS (ofL l) = ofL (quoteL 1 l) := by
  unfold qfS quoteL
  rw [escS_eq, lit_mark, ofL_append, ofL_append]; rfl
theorem qtS_eq (l : List Nat) : qtS (ofL l) = ofL (quoteL 2 l) := by
  unfold qtS quoteL
  rw [dblS_eq, lit_mark, lit_257q, ofL_append, ofL_append]; rfl
theorem join_ofL : ∀ L : List (List Nat), Str.join (Str.ofString "") (L.map ofL) = ofL L.flatten
  | [] => by
    refine eq_ofL ?_
    rw [join_list]; rfl
  | [a] => by
    refine eq_ofL ?_
    rw [join_list]
    show (ofL a).cps.toList = _
    simp [ofL]
  | a :: b :: r => by
    have ih := join_ofL (b :: r)
    refine eq_ofL ?_
    rw [join_list]
    have h2 : (Str.join (Str.ofString "") ((b :: r).map ofL)).cps.toList = (ofL (b :: r).flatten).cps.toList := by rw [ih]
    rw [join_list, ofL_list] at h2
    rw [show (Str.ofString "").cps.toList = [] by decide +kernel] at h2 ⊢
    show (ofL a).cps.toList ++ [] ++ joinL [] (((b :: r).map ofL).map fun s => s.cps.toList) = a ++ (b :: r).flatten
    rw [h2, List.append_nil, ofL_list]
theorem qL_flatten (k : Nat) (ws : List (List Nat)) : qL k ws = (ws.map (quoteL k)).flatten := by
  unfold qL; rw [List.flatMap_def]
theorem join_q {k : Nat} {f : Str → Str} (hf : ∀ l, f (ofL l) = ofL (quoteL k l)) (ws : List (List Nat)) : Str.join (Str.ofString "") ((ws.map ofL).map f) = ofL (qL k ws) := by
  rw [qL_flatten, ← join_ofL, List.map_map, List.map_map]
  congr 1
  exact List.map_congr_left fun l _ => hf l
theorem sendS_ofL (l : List Nat) : sendS (ofL l) = ofL (sendG true l) := by unfold sendS sendL; rw [ofL_list]
theorem strIs_of {A X : Str} {b : Nat} {t : Tok} (e : A = X) (h : X.length ≤ b) : StrIs X b (.str A t) := by subst e; exact ⟨t, rfl, h⟩
theorem wr_leaf_s (q : Nat) (l : List Nat) : Str.ofString "=" ++ ofL (sendN true q l) = ofL (wrT (.leaf q l)) := by
  rw [wrT_leaf, show Str.ofString "=" = ofL [61] by decide +kernel, ofL_append]; rfl
theorem wr_leaf_len {q : Nat} {l : List Nat} (hq : q ≤ 2) (hl : (ofL l).length ≤ 5) : (ofL (wrT (.leaf q l))).length ≤ 200000 := by
  rw [wrT_leaf, ofL_length, List.length_cons]
  rw [ofL_length] at hl
  have h1 := sendN_le true q l
  have h2 : 2 ^ q ≤ 4 := by
    have : q = 0 ∨ q = 1 ∨ q = 2 := by omega
    rcases this with rfl | rfl | rfl <;> decide
  have h3 : 2 ^ q * l.length ≤ 4 * 5 := Nat.mul_le_mul h2 hl
  omega
def wrS (p : Tr) : Str := ofL (wrT p)
theorem sum_lens : ∀ L : List (List Nat), (((L.map ofL).map fun y => y.length).sum) = L.flatten.length
  | [] => rfl
  | a :: r => by
    rw [List.map_cons, List.map_cons, List.sum_cons, sum_lens r, ofL_length, List.flatten_cons, List.length_append]
section
variable {k q : Nat} {ps : List Tr} {f : Str → Str} {l1 l2 : List (Str × Tok)}
theorem node_join (hf : ∀ l, f (ofL l) = ofL (quoteL k l)) (e1 : l1.map (fun x => x.1) = ps.map wrS) (e2 : l2.map (fun x => x.1) = (l1.map fun x => x.1).map f) : Str.join (Str.ofString "") (l2.map fun x => x.1) = ofL (qL k (ps.map wrT)) := by
  have e3 : ps.map wrS = (ps.map wrT).map ofL := by rw [List.map_map]; rfl
  rw [e2, e1, e3, join_q hf]
theorem node_fit (hf : ∀ l, f (ofL l) = ofL (quoteL k l)) (e1 : l1.map (fun x => x.1) = ps.map wrS) (e2 : l2.map (fun x => x.1) = (l1.map fun x => x.1).map f) (ht : (wrT (.node k q ps)).length ≤ 200000) :
    ((l2.map fun x => x.1).map fun y => y.length).sum + (l2.map fun x => x.1).length * (Str.ofString "").length ≤ 1000000 := by
  have e3 : l2.map (fun x => x.1) = ((ps.map wrT).map (quoteL k)).map ofL := by
    rw [e2, e1, List.map_map, List.map_map, List.map_map]
    exact List.map_congr_left fun p _ => hf (wrT p)
  rw [e3, sum_lens, ← qL_flatten, show (Str.ofString "").length = 0 by decide +kernel]
  rw [wrT_node] at ht
  have := sendN_ge true q (qL k (ps.map wrT))
  omega
theorem node_len (ht : (wrT (.node k q ps)).length ≤ 200000) : (ofL (qL k (ps.map wrT))).length ≤ 200000 := by
  rw [ofL_length]
  rw [wrT_node] at ht
  have := sendN_ge true q (qL k (ps.map wrT))
  omega
theorem node_count (ht : (wrT (.node k q ps)).length ≤ 200000) : ps.length ≤ 200000 := by
  rw [wrT_node] at ht
  have h1 := sendN_ge true q (qL k (ps.map wrT))
  have h2 := qL_count_le k (ps.map wrT)
  rw [List.length_map] at h2
  omega
theorem parts_mem (e1 : l1.map (fun x => x.1) = ps.map wrS) (hp : ∀ p ∈ ps, (wrT p).length ≤ 20000) {z : Str} (hz : z ∈ l1.map fun x => x.1) : z.length ≤ 20000 := by
  rw [e1] at hz
  obtain ⟨p, hp1, rfl⟩ := List.mem_map.mp hz
  unfold wrS
  rw [ofL_length]
  exact hp p hp1
end
theorem wr_node_s (k q : Nat) (ps : List Tr) : ofL (sendN true q (qL k (ps.map wrT))) = ofL (wrT (.node k q ps)) := by rw [wrT_node]
end Mine
end
section
open PySem PySem.W PyProof.Rows
set_option Elab.async false
set_option maxRecDepth 100000
namespace Mine
/-- the values of a list, each in a relation to its number -/
inductive Rel2 (R : Nat → Value → Prop) : List Nat → List Value → Prop
  | nil : Rel2 R [] []
  | cons {i : Nat} {v : Value} {l : List Nat} {r : List Value} : R i v → Rel2 R l r → Rel2 R (i :: l) (v :: r)
theorem Rel2.snoc {R : Nat → Value → Prop} : ∀ {l : List Nat} {r : List Value} {i : Nat} {v : Value}, Rel2 R l r → R i v → Rel2 R (l ++ [i]) (r ++ [v])
  | _, _, _, _, .nil, h => .cons h .nil
  | _, _, _, _, .cons h1 t, h => .cons h1 (t.snoc h)
theorem Rel2.length {R : Nat → Value → Prop} : ∀ {l : List Nat} {r : List Value}, Rel2 R l r → r.length = l.length
  | _, _, .nil => rfl
  | _, _, .cons _ t => congrArg (· + 1) t.length
section
variable {prog : Program} {w : World} {A : Around} {h₀ : Heap} {L : Addr} {m : Str → Option Value} {env : Env} {ct elt : Expr} {x : Str} {scope : Scope} {cl : List (Str × Addr)} {s : Shared} {S : List (Addr × Obj) → Prop} {Fin : List Value → List (Addr × Obj) → Prop} {news : List (Addr × Obj)}
def TElt (R : Nat → Value → Prop) (news : List (Addr × Obj)) (i : Nat) (y : Value) (news' : List (Addr × Obj)) : Prop := news' = news ∧ R i y
def TTest (ok : Bool) (A B : Shared → Prop) (o : Bool) (s' : Shared) : Prop := o = ok ∧ if o = true then A s' else B s'
def TSkip (news : List (Addr × Obj)) (_y : Value) (news' : List (Addr × Obj)) : Prop := news' = news
end
end Mine
end
section
open PySem PySem.W PyProof.Rows
set_option Elab.async false
set_option maxRecDepth 100000
namespace Mine
/-- what a call of a def of the text's gives that makes objects: the value, and the new objects ahead of the ledger -/
def FnMk (prog : Program) (w : World) (K : Frag) (p : Program) (loose : List Str) (mean : ExcName → Option Value) (mg mb : Str → Option Value) (f : Addr) (d : Nat) (news : List (Addr × Obj)) (vs : List Value) (R : List (Addr × Obj) → Value → Prop) : Prop :=
  ∀ (dp un : Nat) (gd : Option (List Code)) (cn : Str) (cs : Scope) (a : Addr) (ccd : Value) (cl : List (Str × Addr)) (outer : List Env) (A₀ : Around) (base h₀ : Heap) (L : Addr) (m : Str → Option Value) (s : Shared) (Q E : Value → Shared → Prop),
    Below A₀ base outer h₀ → Fr h₀ L s.heap m → K.In h₀ → News h₀ L s.heap news → Top p loose mean mg mb h₀ → cs.kind = .function → dp + d < recursionLimit → un + 8 * d < cLine →
    (∀ v h' tk' ext, R ext v → (∀ x ∈ ext, ∀ y ∈ news, @LT.lt Nat _ y.1 x.1) → Fr h₀ L h' m → News h₀ L h' (ext ++ news) → Q v ⟨h', s.gens, s.drawn, tk', s.os⟩) →
      wpAny (model prog w) (ktrTop dp un gd cn cs L a ccd cl outer) (call (.ref f) vs) Q E s
section
variable {prog : Program} {w : World} {K : Frag} {p : Program} {loose : List Str} {mean : ExcName → Option Value} {mg mb : Str → Option Value} {f : Addr} {d : Nat} {news : List (Addr × Obj)} {vs : List Value} {R : List (Addr × Obj) → Value → Prop}
  {dp un : Nat} {gd : Option (List Code)} {cn : Str} {cs : Scope} {a : Addr} {ccd : Value} {cl : List (Str × Addr)} {outer : List Env} {A₀ : Around} {base h₀ : Heap} {L : Addr} {m : Str → Option Value} {s : Shared} {Q E : Value → Shared → Prop}
theorem mk_use (H : FnMk prog w K p loose mean mg mb f d news vs R) (B : Below A₀ base outer h₀) (F : Fr h₀ L s.heap m) (X : K.In h₀) (N : News h₀ L s.heap news) (T : Top p loose mean mg mb h₀) (hk : cs.kind = .function) (hd : dp + d < recursionLimit) (hu : un + 8 * d < cLine)
    (ret : ∀ v h' tk' ext, R ext v → (∀ x ∈ ext, ∀ y ∈ news, @LT.lt Nat _ y.1 x.1) → Fr h₀ L h' m → News h₀ L h' (ext ++ news) → Q v ⟨h', s.gens, s.drawn, tk', s.os⟩) :
    wpAny (model prog w) (ktrTop dp un gd cn cs L a ccd cl outer) (call (.ref f) vs) Q E s := H dp un gd cn cs a ccd cl outer A₀ base h₀ L m s Q E B F X N T hk hd hu ret
theorem mk_deep {d' : Nat} (H : FnMk prog w K p loose mean mg mb f d news vs R) (h : d ≤ d') : FnMk prog w K p loose mean mg mb f d' news vs R :=
  fun dp un gd cn cs a ccd cl outer A₀ base h₀ L m s Q E B F X N T hk hd hu ret => H dp un gd cn cs a ccd cl outer A₀ base h₀ L m s Q E B F X N T hk (by omega) (by omega) ret
theorem mk_mono {R' : List (Addr × Obj) → Value → Prop} (H : FnMk prog w K p loose mean mg mb f d news vs R) (h : ∀ e v, R e v → R' e v) : FnMk prog w K p loose mean mg mb f d news vs R' :=
  fun dp un gd cn cs a ccd cl outer A₀ base h₀ L m s Q E B F X N T hk hd hu ret => H dp un gd cn cs a ccd cl outer A₀ base h₀ L m s Q E B F X N T hk hd hu fun v h' tk' e r => ret v h' tk' e (h e v r)
end
/-- the ledger bears the data at the value -/
def RdAt (S : List (Addr × Obj)) (v : Value) (d : PyData) : Prop := ∀ (h₀ : Heap) (L : Addr) (h : Heap), News h₀ L h S → ∃ as, Reads h v d as
theorem RdAt.mono {S S' : List (Addr × Obj)} {v : Value} {d : PyData} (H : RdAt S v d) (hs : ∀ x ∈ S, x ∈ S') : RdAt S' v d := fun h₀ L h N => H h₀ L h fun x hx => N x (hs x hx)
theorem rdAt_str {S : List (Addr × Obj)} (x : Str) (t : Tok) : RdAt S (.str x t) (.str x) := fun _ _ _ _ => ⟨[], .str x t⟩
theorem rdAt_int {S : List (Addr × Obj)} (x : Int) (t : Tok) : RdAt S (.int x t) (.int x) := fun _ _ _ _ => ⟨[], .int x t⟩
theorem readsAll_of {S : List (Addr × Obj)} {h₀ : Heap} {L : Addr} {h : Heap} (N : News h₀ L h S) : ∀ {vs : List Value} {ds : List PyData}, Fa2 (RdAt S) vs ds → ∃ as, ReadsAll h vs ds as
  | _, _, .nil => ⟨[], .nil⟩
  | _, _, .cons x t => by
    obtain ⟨as, h1⟩ := x _ _ _ N
    obtain ⟨bs, h2⟩ := readsAll_of N t
    exact ⟨as ++ bs, .cons h1 h2⟩
theorem rdAt_list {S : List (Addr × Obj)} {a : Addr} {vs : List Value} {c : Nat} {ds : List PyData} (hm : (a, listOf (List.toArray vs) c) ∈ S) (hf : Fa2 (RdAt S) vs ds) : RdAt S (.ref a) (.list ds) := fun h₀ L h N => by
  obtain ⟨as, h1⟩ := readsAll_of N hf
  exact ⟨_, .list (N _ hm).1 rfl rfl h1⟩
theorem Fa2.snoc {α β : Type} {R : α → β → Prop} {l : List α} {r : List β} {a : α} {b : β} (h : Fa2 R l r) (x : R a b) : Fa2 R (l ++ [a]) (r ++ [b]) := h.append (.cons x .nil)
section
variable {prog : Program} {w : World} {A : Around} {h₀ : Heap} {L : Addr} {m : Str → Option Value} {env : Env} {elt : Expr} {x : Str} {scope : Scope} {cl : List (Str × Addr)} {s : Shared} {S : List (Addr × Obj) → Prop} {Fin : List Value → List (Addr × Obj) → Prop} {news : List (Addr × Obj)}
/-- a comprehension whose elements make no object that is kept -/
theorem comp_fa {α : Type} {xs : List α} {vs : List Value} {R : α → Value → Prop} (hf : Fa2 R xs vs) (El : α → Value → Prop)
    (turn : ∀ x' v I oI C oC D m₂ ys h tk (E' : Value → Shared → Prop), x' ∈ xs → R x' v → LCg.NsObj oC m₂ → m₂ x = some v → Fr h₀ L h m → News h₀ L h ((I, oI) :: (C, oC) :: (D, LCg.lst ys) :: news) → LCg.Off3 I C D news → ((@Ne Nat I C) ∧ (@Ne Nat I D) ∧ (@Ne Nat C D)) →
      wpAny (model prog w) A (eval elt (compEnvC scope cl C env)) (LCg.CompEnd h₀ L m { s with heap := h, toks := tk } I oI C oC D (LCg.lst ys) S (fun y news' => news' = news ∧ El x' y)) E' { s with heap := h, toks := tk })
    (fin : ∀ ys, Fa2 El xs ys → Fin ys news) : LCg.CompRest prog w A h₀ L m env elt x scope cl s S (fun i v => vs.toArray[i]? = some v) Fin vs.toArray.size 0 [] news := by
  have hsz : vs.toArray.size = xs.length := by rw [List.size_toArray, hf.length]
  rw [hsz]
  have key : ∀ (j i : Nat) (ys : List Value), i + j = xs.length → Fa2 El (xs.take i) ys →
      LCg.CompRest prog w A h₀ L m env elt x scope cl s S (fun i v => vs.toArray[i]? = some v) Fin j i ys news := by
    intro j
    induction j with
    | zero =>
      intro i ys hi hy
      refine LCg.CompRest.zero (fin ys ?_)
      rwa [List.take_of_length_le (by omega)] at hy
    | succ j ih =>
      intro i ys hi hy
      refine LCg.CompRest.succ ?_
      intro v I oI C oC D m₂ h tk E' hv hC hx F N off ne
      obtain ⟨a, ea, ma, hR⟩ := hf.get (i := i) (by simpa using hv)
      refine wpAny_mono (turn a v I oI C oC D m₂ ys h tk E' ma hR hC hx F N off ne) (fun y s₂ hq => ?_) fun _ _ e => e
      obtain ⟨h', tk', nw, e, F', N', off', hS', hn, hE⟩ := hq
      subst hn
      refine ⟨h', tk', nw, e, F', N', off', hS', ih (i + 1) _ (by omega) ?_⟩
      have et : xs.take (i + 1) = xs.take i ++ [a] := by
        rw [List.take_add_one, ea]; rfl
      rw [et]
      exact hy.snoc hE
  exact key xs.length 0 [] (by omega) .nil
end
/-! what is due -/
def feT (t : Tr) (a : Nat) : Nat := (wrA t a).count 10
mutual
def dueD : Tr → Nat → PyData
  | .leaf q t, a => .str (ofL (leafL q a t))
  | .node k q ps, a => .list (.int (if k = 1 ∧ ps ≠ [] then 1 + ((dueF ps (q + a) : Nat) : Int) else 0) :: dueDs ps (q + a))
def dueDs : List Tr → Nat → List PyData
  | [], _ => []
  | p :: r, a => dueD p a :: dueDs r a
def dueF : List Tr → Nat → Nat
  | [], _ => 0
  | p :: r, a => feT p a + dueF r a
end
theorem dueDs_map (a : Nat) : ∀ ps : List Tr, dueDs ps a = ps.map fun p => dueD p a
  | [] => by rw [dueDs]; rfl
  | p :: r => by rw [dueDs, dueDs_map a r]; rfl
theorem dueF_sum (a : Nat) : ∀ ps : List Tr, dueF ps a = (ps.map fun p => feT p a).sum
  | [] => by rw [dueF]; rfl
  | p :: r => by rw [dueF, dueF_sum a r]; rfl
theorem feT_leaf (q a : Nat) (t : List Nat) : feT (.leaf q t) a = (leafL q a t).count 10 := by
  unfold feT; rw [wrA_leaf, List.count_cons_of_ne (by decide)]
theorem feT_node (k q a : Nat) (ps : List Tr) : feT (.node k q ps) a = dueF ps (q + a) := by
  unfold feT; rw [wrA_node, qL_count, dueF_sum, List.map_map]; rfl
theorem ne_cell {h₀ h : Heap} {L x y : Addr} {o1 o2 : Obj} {S : List (Addr × Obj)} (N : News h₀ L h S) (h1 : (x, o1) ∈ S) (h2 : (y, o2) ∈ S) {its : Array Value} {n : Nat} (e1 : o1.data = .seq its n) {c : Option Value} (e2 : o2.data = .cell c) : @Ne Nat x y := fun e => by
  have a1 := (N _ h1).1
  have a2 := (N _ h2).1
  have e' : x = y := e
  subst e'
  have e3 : o1 = o2 := Option.some.inj (a1.symm.trans a2)
  rw [e3, e2] at e1
  cases e1
theorem add_lst {prog : Program} {w : World} {A : Around} {E : Value → Shared → Prop} {s : Shared} {h₀ : Heap} {L : Addr} {m : Str → Option Value} {news : List (Addr × Obj)} {l b : Addr} {vs ws : List Value} {Q : Value → Shared → Prop} (F : Fr h₀ L s.heap m) (N : News h₀ L s.heap news) (hl : s.heap.IsList l vs.toArray) (hb : s.heap.IsList b ws.toArray) (hz : vs.length + ws.length ≤ 1000000)
    (h : ∀ D h', Fr h₀ L h' m → News h₀ L h' ((D, listOf (List.toArray (vs ++ ws)) 0) :: news) → (∀ p ∈ news, p.1 < D) → Q (.ref D) { s with heap := h' }) :
    wpAny (model prog w) A (binaryOp .Add (.ref l) (.ref b)) Q E s :=
  add_lists F N hl hb (fun h' F' N' => h _ h' F' N' fun p hp => Heap.lt_size (N p hp).1) (by rw [PySem.sizeLine_eq]; omega)
theorem slice_one_on (vs : List Value) : (slicePick vs.toArray (some 1) none none).toList = vs.drop 1 := by
  have e : sliceBounds (some 1) none none vs.toArray.size = (((min 1 vs.toArray.size : Nat) : Int), ((vs.toArray.size : Nat) : Int), 1) := by
    simp only [sliceBounds, Option.getD_none, show (1 : Int) > 0 by decide, if_true, if_neg (show ¬ ((1 : Int) < 0) by decide)]
    congr 1
    omega
  rw [kmk_pick_nat _ e]
  show (vs.drop (min 1 vs.toArray.size)).take (vs.toArray.size - min 1 vs.toArray.size) = _
  rw [List.size_toArray]
  cases vs with
  | nil => rfl
  | cons v r =>
    simp only [List.length_cons]
    rw [show min 1 (r.length + 1) = 1 by omega, List.drop_succ_cons, List.drop_zero, List.take_of_length_le (by omega)]
theorem strs_drop (xs : List (Str × Tok)) : (slicePick (strValues xs).toArray (some 1) none none).toList = strValues (xs.drop 1) := by
  rw [slice_one_on]; unfold strValues; rw [List.map_drop]
end Mine
end
section
open PySem PySem.W PyProof.Rows
set_option Elab.async false
set_option maxRecDepth 100000
namespace Mine
/-! the rows of a leaf, as the law lays them -/
theorem mul_dot (n : Int) : Txt.mul (Str.ofString ".") n = ofL (List.replicate n.toNat 46) := by
  refine eq_ofL ?_
  rw [lit_dot]
  exact mul_one_list 46 n
theorem mul_dot_len {n : Int} {k : Nat} (h : n ≤ k) : (Txt.mul (Str.ofString ".") n).length ≤ k := by
  rw [mul_dot, ofL_length, List.length_replicate]; omega
def dotRow (n : Int) (z : Str) : Str := if (Txt.slice z none (some 1) == Str.ofString ".") = true then Txt.mul (Str.ofString ".") n ++ z else z
theorem slice_head (l : List Nat) : (Txt.slice (ofL l) none (some 1) == Str.ofString ".") = true ↔ l.head? = some 46 := by
  cases l with
  | nil => rw [show (ofL ([] : List Nat)) = Str.ofString "" by decide +kernel]; simp; decide +kernel
  | cons c r =>
    have e1 : Txt.slice (ofL (c :: r)) none (some 1) = ofL ((c :: r).take 1) := slice_to (c :: r) 1 (by simp)
    rw [e1, lit_dot, ofL_beq, beq_iff_eq]
    simp
theorem dotRow_eq (n : Nat) (l : List Nat) : dotRow (n : Int) (ofL l) = ofL (dotsL n l) := by
  unfold dotRow dotsL
  by_cases h : l.head? = some 46
  · rw [if_pos ((slice_head l).mpr h), if_pos h, mul_dot, ofL_append]; rfl
  · rw [if_neg (fun q => h ((slice_head l).mp q)), if_neg h]
def rowAt (q s : Int) (rows : List Str) (i : Nat) : Str := dotRow (if i = 0 then q else s) (rows.getD i Str.empty)
theorem rowAt_map (q s : Nat) (p : List Nat) (r : List (List Nat)) : (List.range (r.length + 1)).map (rowAt (q : Int) (s : Int) ((p :: r).map ofL)) = (dotsL q p :: r.map (dotsL s)).map ofL := by
  rw [List.range_succ_eq_map, List.map_cons, List.map_cons, List.map_map]
  congr 1
  · show dotRow (if 0 = 0 then (q : Int) else s) (ofL p) = _
    rw [if_pos rfl, dotRow_eq]
  · refine List.ext_getElem (by simp) fun i h1 h2 => ?_
    simp only [List.length_map, List.length_range] at h1
    have e : (ofL p :: List.map ofL r).getD i.succ Str.empty = ofL r[i] := by simp [List.getD, h1]
    simp only [List.getElem_map, List.getElem_range, Function.comp]
    show dotRow (if i + 1 = 0 then (q : Int) else s) _ = _
    rw [if_neg (Nat.succ_ne_zero i), e, dotRow_eq]
theorem join_crlf : ∀ L : List (List Nat), Str.join (Str.ofString "\r\n") (L.map ofL) = ofL (joinL [13, 10] L) := fun L => by
  refine eq_ofL ?_
  rw [join_list, List.map_map, lit_rf]
  congr 1
  exact (List.map_congr_left (fun l _ => rfl)).trans (List.map_id L)
section
variable {q ar : Nat} {t : List Nat} {l l5 l7 : List (Str × Tok)} {X0 X1 : Str} {t9 : Tok}
theorem rows_of (q1 : l.map (fun x => x.1) = Txt.split (Txt.replace (Txt.replace (ofL t) (Str.ofString "\r\n") (Str.ofString "\n")) (Str.ofString "\r") (Str.ofString "\n")) (Str.ofString "\n")) : l.map (fun x => x.1) = (splitL 10 (n1 t)).map ofL := by
  rw [q1, lit_f]
  have e := normS_list (ofL t)
  have e2 : Txt.replace (Txt.replace (ofL t) (Str.ofString "\r\n") (ofL [10])) (Str.ofString "\r") (ofL [10]) = ofL (n1 t) := by
    rw [← lit_f]; exact eq_ofL e
  rw [e2, split_ofL]
theorem leaf_join (q1 : l.map (fun x => x.1) = Txt.split (Txt.replace (Txt.replace (ofL t) (Str.ofString "\r\n") (Str.ofString "\n")) (Str.ofString "\r") (Str.ofString "\n")) (Str.ofString "\n")) (h : 0 < q + ar)
    (e7 : l7.map (fun x => x.1) = (List.range l.length).map (rowAt (q : Int) ((q + ar : Nat) : Int) (l.map fun x => x.1))) : Str.join (Str.ofString "\r\n") (l7.map fun x => x.1) = ofL (leafL q ar t) := by
  have h1 := rows_of q1
  obtain ⟨p, r, e⟩ := splitL_some 10 (n1 t)
  rw [e] at h1
  have hn : l.length = r.length + 1 := by
    have := congrArg List.length h1
    simpa using this
  rw [e7, h1, hn, rowAt_map, join_crlf, leaf_rows e h]
theorem dots_get (e5 : l5.map (fun x => x.1) = ((l.drop 1).map fun x => x.1).map fun _ => X1) {i : Nat} {z : Str} (h : (((X0, t9) :: l5).map fun x => x.1)[i]? = some z) : z = if i = 0 then X0 else X1 := by
  cases i with
  | zero => rw [if_pos rfl]; exact (Option.some.inj h).symm
  | succ i =>
    rw [if_neg (Nat.succ_ne_zero i)]
    have h' : (l5.map fun x => x.1)[i]? = some z := h
    rw [e5, List.map_map, List.getElem?_map] at h'
    cases hx : (l.drop 1)[i]? with
    | none => rw [hx] at h'; cases h'
    | some y => rw [hx] at h'; exact (Option.some.inj h').symm
theorem dots_bound (e5 : l5.map (fun x => x.1) = ((l.drop 1).map fun x => x.1).map fun _ => X1) {k : Nat} (h0 : X0.length ≤ k) (h1 : X1.length ≤ k) : ∀ z, z ∈ (X0 :: l5.map fun x => x.1) → z.length ≤ k := by
  intro z hz
  obtain ⟨i, hi⟩ := List.getElem?_of_mem hz
  rw [dots_get (t9 := 0) e5 hi]
  split <;> assumption
theorem row_dot (e5 : l5.map (fun x => x.1) = ((l.drop 1).map fun x => x.1).map fun _ => Txt.mul (Str.ofString ".") ((q : Int) + ar)) {i : Nat} {z1 z2 zd : Str}
    (h1 : (l.map fun x => x.1)[((0 : Int) + (i : Int)).toNat]? = some z1) (h2 : (l.map fun x => x.1)[((0 : Int) + (i : Int)).toNat]? = some z2) (hd : (((Txt.mul (Str.ofString ".") (q : Int), t9) :: l5).map fun x => x.1)[((0 : Int) + (i : Int)).toNat]? = some zd)
    (hp : (Txt.slice z1 none (some 1) == Str.ofString ".") = true) : zd ++ z2 = rowAt (q : Int) ((q + ar : Nat) : Int) (l.map fun x => x.1) i := by
  have e : ((0 : Int) + (i : Int)).toNat = i := by omega
  rw [e] at h1 h2 hd
  have hz : z1 = z2 := Option.some.inj (h1.symm.trans h2)
  subst hz
  rw [dots_get e5 hd]
  unfold rowAt dotRow
  rw [show (l.map fun x => x.1).getD i Str.empty = z1 by rw [List.getD_eq_getElem?_getD, h1]; rfl, if_pos hp]
  by_cases h0 : i = 0
  · rw [if_pos h0, if_pos h0]
  · rw [if_neg h0, if_neg h0]; rfl
theorem row_plain {i : Nat} {z1 z2 : Str} {q s : Int}
    (h1 : (l.map fun x => x.1)[((0 : Int) + (i : Int)).toNat]? = some z1) (h2 : (l.map fun x => x.1)[((0 : Int) + (i : Int)).toNat]? = some z2)
    (hp : (Txt.slice z1 none (some 1) == Str.ofString ".") = false) : z2 = rowAt q s (l.map fun x => x.1) i := by
  have e : ((0 : Int) + (i : Int)).toNat = i := by omega
  rw [e] at h1 h2
  have hz : z1 = z2 := Option.some.inj (h1.symm.trans h2)
  subst hz
  unfold rowAt dotRow
  rw [show (l.map fun x => x.1).getD i Str.empty = z1 by rw [List.getD_eq_getElem?_getD, h1]; rfl, if_neg (by rw [hp]; decide)]
end
theorem row_len {q s : Int} {rows : List Str} (hq : q ≤ 10) (hs : s ≤ 10) (hr : ∀ z ∈ rows, z.length ≤ 20) (i : Nat) : (rowAt q s rows i).length ≤ 30 := by
  unfold rowAt dotRow
  have hz : (rows.getD i Str.empty).length ≤ 20 := by
    rw [List.getD_eq_getElem?_getD]
    cases h : rows[i]? with
    | none => exact Nat.zero_le _
    | some z => exact hr z (List.mem_of_getElem? h)
  split
  · rw [mul_dot]
    have e : (ofL (List.replicate (if i = 0 then q else s).toNat 46) ++ rows.getD i Str.empty).length = (if i = 0 then q else s).toNat + (rows.getD i Str.empty).length := by
      rw [← ofL_toList (rows.getD i Str.empty), ofL_append, ofL_length, List.length_append, List.length_replicate, ofL_length]
    rw [e]
    split <;> omega
  · omega
theorem add_strs {prog : Program} {w : World} {A : Around} {E : Value → Shared → Prop} {s : Shared} {h₀ : Heap} {L : Addr} {m : Str → Option Value} {news : List (Addr × Obj)} {l b : Addr} {x : Str} {t : Tok} {l5 : List (Str × Tok)} {Q : Value → Shared → Prop} (F : Fr h₀ L s.heap m) (N : News h₀ L s.heap news) (hl : s.heap.IsList l (List.toArray [.str x t])) (hb : s.heap.IsList b (strValues l5).toArray) (hz : l5.length ≤ 1000)
    (h : ∀ D h', Fr h₀ L h' m → News h₀ L h' ((D, listOf (strValues ((x, t) :: l5)).toArray 0) :: news) → (∀ p ∈ news, p.1 < D) → Q (.ref D) { s with heap := h' }) :
    wpAny (model prog w) A (binaryOp .Add (.ref l) (.ref b)) Q E s :=
  add_lst F N hl hb (by simp only [strValues, List.length_map, List.length_cons, List.length_nil]; omega) h
theorem strs_lenC {prog : Program} {w : World} {A : Around} {E : Value → Shared → Prop} {s : Shared} {a : Addr} {l : List (Str × Tok)} {Q : Value → Shared → Prop} (hl : s.heap.IsList a (strValues l).toArray) (hz : l.length ≤ 1000000)
    (h : Q (.int ((l.length : Nat) : Int) (s.toks + 1)) { s with toks := s.toks + 1 + 1 }) : wpAny (model prog w) A (call (.builtin "len") [.ref a]) Q E s := by
  have e : (strValues l).toArray.size = l.length := by simp [strValues]
  exact len_list hl (by rw [e]; omega) (by rw [e]; exact h)
theorem fresh_of {L' D : Addr} {o : Obj} {news : List (Addr × Obj)} (hNL : ∀ p ∈ news, p.1 < L') (h : @LT.lt Nat _ L' D) : ∀ x ∈ [(D, o)], ∀ y ∈ news, @LT.lt Nat _ y.1 x.1 := fun x hx y hy => by
  rw [List.mem_singleton.mp hx]
  exact Nat.lt_trans (hNL y hy) h
theorem count_feed (l : List Nat) : Txt.count (ofL l) (Str.ofString "\n") = ((l.count 10 : Nat) : Int) := by
  rw [lit_f]
  show Txt.count (ofL l) ⟨#[10]⟩ = _
  rw [count_is, ofL_list]
  induction l with
  | nil => rfl
  | cons c r ih =>
    have e1 : Spec.countIn (.str (⟨#[10]⟩ : Str)) ((c :: r).map fun n => PyData.str ⟨#[n]⟩) = Spec.countIn (.str (⟨#[10]⟩ : Str)) (r.map fun n => PyData.str ⟨#[n]⟩) + (if c = 10 then 1 else 0) := by
      show (if Spec.same (.str (⟨#[c]⟩ : Str)) (.str (⟨#[10]⟩ : Str)) = true then (1 : Int) else 0) + _ = _
      by_cases h : c = 10
      · subst h
        rw [if_pos (by simp [Spec.same]), if_pos rfl, Int.add_comm]
      · rw [if_neg (by simp [Spec.same, h]), if_neg h, Int.add_comm]
    rw [e1, ih, count_cons]
theorem leaf_zero {q ar : Nat} {t : List Nat} (h : q + ar = 0) : leafL q ar t = t := by
  have h1 : q = 0 := by omega
  have h2 : ar = 0 := by omega
  subst h1; subst h2; rfl
theorem due_count {q ar : Nat} {t y : List Nat} (h : leafL q ar t = y) : Txt.count (ofL y) (Str.ofString "\n") = ((feT (.leaf q t) ar : Nat) : Int) := by rw [count_feed, feT_leaf, h]
end Mine
end
section
open PySem PySem.W PyProof.Rows
set_option Elab.async false
set_option maxRecDepth 100000
namespace Mine
section
variable {h₀ : Heap} {L I C D : Addr} {m : Str → Option Value} {s₁ : Shared} {oI oC oD : Obj} {S : List (Addr × Obj) → Prop} {h' : Heap} {tk : Nat} {ext cur all : List (Addr × Obj)}
theorem faEnd {α : Type} {El : α → Value → Prop} {x : α} {y : Value} {news : List (Addr × Obj)} (F : Fr h₀ L h' m) (N : News h₀ L h' all) (sub : ∀ p ∈ (I, oI) :: (C, oC) :: (D, oD) :: news, p ∈ all) (off : LCg.Off3 I C D news) (hS : S news) (e : El x y) :
    LCg.CompEnd h₀ L m s₁ I oI C oC D oD S (fun y news' => news' = news ∧ El x y) y { s₁ with heap := h', toks := tk } := LCg.CompEnd.intro F N news sub off hS ⟨rfl, e⟩
end
def Fresh (ext base : List (Addr × Obj)) : Prop := ∀ x ∈ ext, ∀ y ∈ base, @LT.lt Nat _ y.1 x.1
section
variable {prog : Program} {w : World} {A : Around} {h₀ : Heap} {L : Addr} {m : Str → Option Value} {env : Env} {elt : Expr} {x : Str} {scope : Scope} {cl : List (Str × Addr)} {s : Shared} {S : List (Addr × Obj) → Prop} {Fin : List Value → List (Addr × Obj) → Prop} {base : List (Addr × Obj)}
def MkPost {α : Type} (El : List (Addr × Obj) → α → Value → Prop) (made base : List (Addr × Obj)) (x : α) (y : Value) (news' : List (Addr × Obj)) : Prop := ∃ ext, news' = ext ++ (made ++ base) ∧ Fresh ext base ∧ El ext x y
/-- a comprehension whose elements make objects: what is made stands ahead of the ledger -/
theorem comp_mk2 {α : Type} {xs : List α} {vs : List Value} {R : α → Value → Prop} (hf : Fa2 R xs vs) (El : List (Addr × Obj) → α → Value → Prop) (mono : ∀ (l l' : List (Addr × Obj)) (x : α) (y : Value), (∀ q ∈ l, q ∈ l') → El l x y → El l' x y)
    (turn : ∀ x' v made I oI C oC D m₂ ys h tk (E' : Value → Shared → Prop), x' ∈ xs → R x' v → LCg.NsObj oC m₂ → m₂ x = some v → Fr h₀ L h m → News h₀ L h ((I, oI) :: (C, oC) :: (D, LCg.lst ys) :: (made ++ base)) → LCg.Off3 I C D (made ++ base) → ((@Ne Nat I C) ∧ (@Ne Nat I D) ∧ (@Ne Nat C D)) →
      wpAny (model prog w) A (eval elt (compEnvC scope cl C env)) (LCg.CompEnd h₀ L m { s with heap := h, toks := tk } I oI C oC D (LCg.lst ys) S (MkPost El made base x')) E' { s with heap := h, toks := tk })
    (fin : ∀ ys made, Fresh made base → Fa2 (El made) xs ys → Fin ys (made ++ base)) : LCg.CompRest prog w A h₀ L m env elt x scope cl s S (fun i v => vs.toArray[i]? = some v) Fin vs.toArray.size 0 [] base := by
  have hsz : vs.toArray.size = xs.length := by rw [List.size_toArray, hf.length]
  rw [hsz]
  have key : ∀ (j i : Nat) (ys : List Value) (made : List (Addr × Obj)), i + j = xs.length → Fresh made base → Fa2 (El made) (xs.take i) ys →
      LCg.CompRest prog w A h₀ L m env elt x scope cl s S (fun i v => vs.toArray[i]? = some v) Fin j i ys (made ++ base) := by
    intro j
    induction j with
    | zero =>
      intro i ys made hi hs hy
      refine LCg.CompRest.zero (fin ys made hs ?_)
      rwa [List.take_of_length_le (by omega)] at hy
    | succ j ih =>
      intro i ys made hi hs hy
      refine LCg.CompRest.succ ?_
      intro v I oI C oC D m₂ h tk E' hv hC hx F N off ne
      obtain ⟨a, ea, ma, hR⟩ := hf.get (i := i) (by simpa using hv)
      refine wpAny_mono (turn a v made I oI C oC D m₂ ys h tk E' ma hR hC hx F N off ne) (fun y s₂ hq => ?_) fun _ _ e => e
      obtain ⟨h', tk', nw, e, F', N', off', hS', ext, hn, hfr, hE⟩ := hq
      subst hn
      refine ⟨h', tk', _, e, F', N', off', hS', ?_⟩
      show LCg.CompRest prog w A h₀ L m env elt x scope cl s S (fun i v => vs.toArray[i]? = some v) Fin j (i + 1) (ys ++ [y]) (ext ++ (made ++ base))
      rw [← List.append_assoc]
      refine ih (i + 1) _ (ext ++ made) (by omega) (fun x hx => ?_) ?_
      · rcases List.mem_append.mp hx with hx | hx
        · exact hfr x hx
        · exact hs x hx
      · have et : xs.take (i + 1) = xs.take i ++ [a] := by
          rw [List.take_add_one, ea]; rfl
        rw [et]
        exact (hy.mono fun b y' => mono _ _ b y' fun q hq => List.mem_append_right _ hq).snoc (mono _ _ _ _ (fun q hq => List.mem_append_left _ hq) hE)
  exact key xs.length 0 [] [] (by omega) (fun x hx => by cases hx) .nil
end
section
variable {h₀ : Heap} {L I C D : Addr} {m : Str → Option Value} {s₁ : Shared} {oI oC oD : Obj} {S : List (Addr × Obj) → Prop} {h' : Heap} {tk : Nat} {ext made base : List (Addr × Obj)}
theorem mkEnd2 {α : Type} {El : List (Addr × Obj) → α → Value → Prop} {x : α} {y : Value} {p0 : Addr × Obj} (F : Fr h₀ L h' m) (N : News h₀ L h' (ext ++ (p0 :: (I, oI) :: (C, oC) :: (D, oD) :: (made ++ base))))
    (hfr : ∀ x ∈ ext, ∀ y ∈ p0 :: (I, oI) :: (C, oC) :: (D, oD) :: (made ++ base), @LT.lt Nat _ y.1 x.1) (off : LCg.Off3 I C D (made ++ base)) (hS : S (ext ++ (made ++ base))) (e : El ext x y) :
    LCg.CompEnd h₀ L m s₁ I oI C oC D oD S (MkPost El made base x) y { s₁ with heap := h', toks := tk } := by
  refine ⟨h', tk, ext ++ (made ++ base), rfl, F, fun p hp => N p ?_, ?_, hS, ext, rfl, fun x hx y hy => hfr x hx y (.tail _ (.tail _ (.tail _ (.tail _ (List.mem_append_right _ hy))))), e⟩
  · simp only [List.mem_append, List.mem_cons] at hp ⊢
    rcases hp with h | h | h | h | h | h
    · exact .inr (.inr (.inl h))
    · exact .inr (.inr (.inr (.inl h)))
    · exact .inr (.inr (.inr (.inr (.inl h))))
    · exact .inl h
    · exact .inr (.inr (.inr (.inr (.inr (.inl h)))))
    · exact .inr (.inr (.inr (.inr (.inr (.inr h)))))
  · refine LCg.Off3.of fun p hp => ?_
    rcases List.mem_append.mp hp with hp | hp
    · exact ⟨Nat.ne_of_gt (hfr p hp _ (.tail _ (.head _))), Nat.ne_of_gt (hfr p hp _ (.tail _ (.tail _ (.head _)))), Nat.ne_of_gt (hfr p hp _ (.tail _ (.tail _ (.tail _ (.head _)))))⟩
    · exact off.mem p hp
end
abbrev tupObj (vs : Array Value) (n : Nat) : Obj := { cls := .type "tuple", data := .seq vs n }
/-- the pair that is due of a tree -/
def PairAt (a : Nat) (S : List (Addr × Obj)) (x : Tr) (y : Value) : Prop := ∃ (r : Addr) (c : Nat) (v0 : Value) (k : Int) (t : Tok), y = .ref r ∧ k = ((feT x a : Nat) : Int) ∧ RdAt S v0 (dueD x a) ∧ (r, tupObj #[v0, .int k t] c) ∈ S
theorem PairAt.mono {a : Nat} (l l' : List (Addr × Obj)) (x : Tr) (y : Value) (hs : ∀ q ∈ l, q ∈ l') (h : PairAt a l x y) : PairAt a l' x y := by
  obtain ⟨r, c, v0, k, t, e, hk, hr, hm⟩ := h
  exact ⟨r, c, v0, k, t, e, hk, hr.mono hs, hs _ hm⟩
def IntAt (f : Tr → Nat) (x : Tr) (y : Value) : Prop := ∃ t : Tok, y = .int ((f x : Nat) : Int) t
theorem intsAt {f : Tr → Nat} : ∀ {ps : List Tr} {ys : List Value}, Fa2 (IntAt f) ps ys → IntsAre ys (ps.map fun x => ((f x : Nat) : Int))
  | _, _, .nil => .nil
  | _, _, .cons ⟨t, e⟩ h => by subst e; exact .cons _ t (intsAt h)
theorem sum_cast : ∀ l : List Nat, (l.map fun n : Nat => (n : Int)).sum = ((l.sum : Nat) : Int)
  | [] => rfl
  | a :: r => by rw [List.map_cons, List.sum_cons, List.sum_cons, sum_cast r]; omega
theorem sum_fe (ps : List Tr) (a : Nat) : (ps.map fun x => ((feT x a : Nat) : Int)).sum = ((dueF ps a : Nat) : Int) := by
  rw [dueF_sum, ← sum_cast, List.map_map]; rfl
/-! the data that is due can be compared -/
theorem sgn_send (l : List Nat) : ∀ b, (∀ c ∈ l, SgnOk c) → ∀ c ∈ sendG b l, SgnOk c := by
  have cons : ∀ {c : Nat} {r : List Nat}, SgnOk c → (∀ d ∈ r, SgnOk d) → ∀ d ∈ c :: r, SgnOk d := fun h1 h2 d hd => by
    rcases List.mem_cons.mp hd with rfl | hd
    · exact h1
    · exact h2 d hd
  refine send_cases (P := fun l => ∀ b, (∀ c ∈ l, SgnOk c) → ∀ c ∈ sendG b l, SgnOk c) ?_ ?_ ?_ ?_ ?_ ?_ l
  · intro b _; rw [sendG_nil]; intro c hc; cases hc
  · intro r ih b g; rw [sendG_rf]; exact cons (by decide) (cons (by decide) (ih _ fun c hc => g c (.tail _ (.tail _ hc))))
  · intro b _; rw [sendG_r1]; exact cons (by decide) (cons (by decide) fun c hc => by cases hc)
  · intro d r hd ih b g; rw [sendG_r b r hd]; exact cons (by decide) (cons (by decide) (ih _ fun c hc => g c (.tail _ hc)))
  · intro r ih b g; rw [sendG_f]; exact cons (by decide) (cons (by decide) (ih _ fun c hc => g c (.tail _ hc)))
  · intro c r h1 h2 ih b g
    have gr : ∀ c ∈ r, SgnOk c := fun d hd => g d (.tail _ hd)
    by_cases h3 : b = true ∧ c = 46
    · obtain ⟨rfl, rfl⟩ := h3; rw [sendG_dot]; exact cons (by decide) (cons (by decide) (ih _ gr))
    · rw [sendG_c b r h1 h2 h3]; exact cons (g c (.head _)) (ih _ gr)
theorem sgn_sendN (b : Bool) : ∀ (n : Nat) (l : List Nat), (∀ c ∈ l, SgnOk c) → ∀ c ∈ sendN b n l, SgnOk c
  | 0, _, h => h
  | n + 1, l, h => sgn_sendN b n (sendG b l) (sgn_send l b h)
theorem strOk_sgn {l : List Nat} (g : ∀ c ∈ l, SgnOk c) : PyData.strOk (ofL l) = true := by
  unfold PyData.strOk
  rw [Array.all_eq_true]
  intro i hi
  have hm : (ofL l).cps[i] ∈ (ofL l).cps.toList := by simp
  have := g _ hm
  simpa using this
theorem due_lay : ∀ (n : Nat) (t : Tr) (a : Nat), TOk n t → (dueD t a).canLay0 = true ∧ (dueD t a).depth ≤ n + 1 := by
  have leaf : ∀ (n q a : Nat) (t : List Nat), (∀ c ∈ t, SgnOk c) → (dueD (.leaf q t) a).canLay0 = true ∧ (dueD (.leaf q t) a).depth ≤ n + 1 := by
    intro n q a t h
    rw [dueD]
    refine ⟨?_, ?_⟩
    · simp only [PyData.canLay0]
      exact strOk_sgn (sgn_sendN _ _ _ (sgn_sendN _ _ _ h))
    · simp [PyData.depth]
  intro n
  induction n with
  | zero =>
    intro t a h
    cases t with
    | leaf q t => exact leaf 0 q a t h.2.2
    | node k q ps => exact h.elim
  | succ n ih =>
    intro t a h
    cases t with
    | leaf q t => exact leaf _ q a t h.2.2
    | node k q ps =>
      obtain ⟨_, _, hp⟩ := h
      rw [dueD, dueDs_map]
      have key : ∀ l : List Tr, (∀ p ∈ l, TOk n p) → PyData.canLayAll0 (l.map fun p => dueD p (q + a)) = true ∧ PyData.depthAll (l.map fun p => dueD p (q + a)) ≤ n + 1 := by
        intro l
        induction l with
        | nil => intro _; exact ⟨rfl, by simp [PyData.depthAll]⟩
        | cons p r ihr =>
          intro hl
          have e1 := ih p (q + a) (hl p (.head _))
          have e2 := ihr fun x hx => hl x (.tail _ hx)
          refine ⟨?_, ?_⟩
          · simp [PyData.canLayAll0, e1.1, e2.1]
          · simp only [List.map_cons, PyData.depthAll]; omega
      have h2 := key ps hp
      refine ⟨?_, ?_⟩
      · simp [PyData.canLay0, PyData.canLayAll0, h2.1]
      · simp only [PyData.depth, PyData.depthAll]; omega
theorem pair_rd {a : Nat} {S : List (Addr × Obj)} {x : Tr} {y : Value} (h : PairAt a S x y) : RdAt S y (.tuple [dueD x a, .int ((feT x a : Nat) : Int)]) := by
  obtain ⟨r, c, v0, k, t, rfl, hk, hr, hm⟩ := h
  subst hk
  intro h₀ L h N
  obtain ⟨as, h1⟩ := hr _ _ _ N
  exact ⟨_, .tuple (N _ hm).1 rfl rfl (.cons h1 (.cons (.int _ _) .nil))⟩
def pairD (a : Nat) (x : Tr) : PyData := .tuple [dueD x a, .int ((feT x a : Nat) : Int)]
theorem pairs_rd {a : Nat} {S : List (Addr × Obj)} : ∀ {ps : List Tr} {ys : List Value}, Fa2 (PairAt a S) ps ys → Fa2 (RdAt S) ys (ps.map (pairD a))
  | _, _, .nil => .nil
  | _, _, .cons x t => .cons (pair_rd x) (pairs_rd t)
theorem pairs_lay {a n : Nat} : ∀ (ps : List Tr), (∀ x ∈ ps, TOk n x) → PyData.canLayAll0 (ps.map (pairD a)) = true ∧ PyData.depthAll (ps.map (pairD a)) ≤ n + 2
  | [], _ => ⟨rfl, by simp [PyData.depthAll]⟩
  | x :: r, h => by
    have e1 := due_lay n x a (h x (.head _))
    have e2 := pairs_lay (a := a) r fun y hy => h y (.tail _ hy)
    refine ⟨?_, ?_⟩
    · simp [pairD, PyData.canLayAll0, PyData.canLay0, e1.1, e2.1]
    · simp only [List.map_cons, PyData.depthAll, pairD, PyData.depth]; omega
theorem rdAt_lst {S : List (Addr × Obj)} {a : Addr} {vs : List Value} {ds : List PyData} (hm : (a, LCg.lst vs) ∈ S) (hf : Fa2 (RdAt S) vs ds) : RdAt S (.ref a) (.list ds) := fun h₀ L h N => by
  obtain ⟨as, h1⟩ := readsAll_of N hf
  exact ⟨_, .list (N _ hm).1 rfl rfl h1⟩
theorem ne_nil_pairs {prog : Program} {w : World} {A : Around} {E : Value → Shared → Prop} {s : Shared} {h₀ : Heap} {L D b : Addr} {a n : Nat} {S cur : List (Addr × Obj)} {ps : List Tr} {ys : List Value} {Q : Value → Shared → Prop}
    (N : News h₀ L s.heap S) (hD : (D, LCg.lst ys) ∈ S) (hE : Fa2 (PairAt a cur) ps ys) (hsub : ∀ q ∈ cur, q ∈ S) (hb : s.heap.IsList b (List.toArray [])) (hok : ∀ x ∈ ps, TOk n x) (hn : n ≤ 3) (hu : A.units + 64 < cLine)
    (h : Q (.bool (!decide (ps = []))) s) : wpAny (model prog w) A (compareOp .NotEq (.ref D) (.ref b)) Q E s := by
  have h1 : RdAt S (.ref D) (.list (ps.map (pairD a))) := rdAt_lst hD (pairs_rd (hE.mono fun x y hy => PairAt.mono _ _ x y hsub hy))
  obtain ⟨as, h2⟩ := h1 _ _ _ N
  have h3 := pairs_lay (a := a) ps hok
  refine ne_dataH h2 (reads_newData hb .nil) ?_ rfl hu ?_
  · refine Bool.and_eq_true_iff.mpr ⟨by simp [PyData.canLay0, h3.1], decide_eq_true ?_⟩
    have h4 := h3.2
    simp only [PyData.depth]; omega
  · cases ps with
    | nil => exact h
    | cons x r => exact h
theorem fa2_flip_map {S : List (Addr × Obj)} {made : List (Addr × Obj)} {a : Nat} (hs : ∀ q ∈ made, q ∈ S) : ∀ {ps : List Tr} {ys : List Value}, Fa2 (fun x y => RdAt made y (dueD x a)) ps ys → Fa2 (RdAt S) ys (ps.map fun x => dueD x a)
  | _, _, .nil => .nil
  | _, _, .cons x t => .cons (x.mono hs) (fa2_flip_map hs t)
theorem due_rd {S made : List (Addr × Obj)} {D : Addr} {f : Int} {t : Tok} {ys : List Value} {ps : List Tr} {k q ar : Nat} (hm : (D, listOf (List.toArray ([.int f t] ++ ys)) 0) ∈ S) (hR : Fa2 (fun x y => RdAt made y (dueD x (q + ar))) ps ys) (hs : ∀ q ∈ made, q ∈ S)
    (hf : f = if k = 1 ∧ ps ≠ [] then 1 + ((dueF ps (q + ar) : Nat) : Int) else 0) : RdAt S (.ref D) (dueD (.node k q ps) ar) := by
  rw [dueD, dueDs_map, ← hf]
  exact rdAt_list hm (.cons (rdAt_int f t) (fa2_flip_map hs hR))
theorem fresh3 {D9 D10 : Addr} {o o' : Obj} {made base news : List (Addr × Obj)} (h10 : @LT.lt Nat _ D9 D10) (h9 : ∀ y ∈ news, @LT.lt Nat _ y.1 D9) (hm : Fresh made base) (hs : ∀ y ∈ news, y ∈ base) : ∀ x ∈ (D10, o) :: (D9, o') :: made, ∀ y ∈ news, @LT.lt Nat _ y.1 x.1 := fun x hx y hy => by
  rcases List.mem_cons.mp hx with rfl | hx
  · exact Nat.lt_trans (h9 y hy) h10
  · rcases List.mem_cons.mp hx with rfl | hx
    · exact h9 y hy
    · exact hm x hx y (hs y hy)
theorem news3 {h₀ h : Heap} {L : Addr} {a b : Addr × Obj} {made news S : List (Addr × Obj)} (N : News h₀ L h S) (ha : a ∈ S) (hb : b ∈ S) (hm : ∀ q ∈ made, q ∈ S) (hn : ∀ q ∈ news, q ∈ S) : News h₀ L h ((a :: b :: made) ++ news) := fun p hp => by
  rcases List.mem_append.mp hp with hp | hp
  · rcases List.mem_cons.mp hp with rfl | hp
    · exact N _ ha
    · rcases List.mem_cons.mp hp with rfl | hp
      · exact N _ hb
      · exact N _ (hm p hp)
  · exact N _ (hn p hp)
end Mine
end
section
open PySem PySem.W PyProof.Rows PySem.Calls
set_option Elab.async false
set_option maxRecDepth 100000
namespace Mine
theorem slot_ci_next : Slot "callable_iterator" "__next__" "callable_iterator.__next__" :=
  .of (owner := "callable_iterator") (n := "__next__") (by rw [typeLookup_type, builtinLookup_eq_fast]; kernel_rfl) (by decide +kernel) (by decide +kernel) (by decide +kernel)
    (by first | exact .inl (by decide +kernel) | exact .inr (by decide +kernel)) (by rw [isSubtype_type]; kernel_rfl)
theorem entry_ci_next : entryFor table "callable_iterator.__next__" = some Builtin.«callable_iterator.__next__» := entryFor_of_tree (by kernel_rfl)
theorem args_ci_next (a : Value) : argsOk "callable_iterator.__next__" ⟨[a], []⟩ := by unfold argsOk; kernel_rfl
theorem slot_ci_iter : Slot "callable_iterator" "__iter__" "callable_iterator.__iter__" :=
  .of (owner := "callable_iterator") (n := "__iter__") (by rw [typeLookup_type, builtinLookup_eq_fast]; kernel_rfl) (by decide +kernel) (by decide +kernel) (by decide +kernel)
    (by first | exact .inl (by decide +kernel) | exact .inr (by decide +kernel)) (by rw [isSubtype_type]; kernel_rfl)
theorem args_ci_iter (a : Value) : argsOk "callable_iterator.__iter__" ⟨[a], []⟩ := by unfold argsOk; kernel_rfl
theorem entry_ci_iter : entryFor table "callable_iterator.__iter__" = some Builtin.«dict_keyiterator.__iter__» :=
  entryFor_alias (id' := "dict_keyiterator.__iter__") (by kernel_rfl) rfl (by decide +kernel) (by kernel_rfl)
theorem method_call_lookup : typeLookup (.type "method") "__call__" = pure (some (.builtin "method.__call__")) := by rw [typeLookup_type, builtinLookup_eq_fast]; kernel_rfl
theorem args_iter2 (a b : Value) : argsOk "iter" ⟨[a, b], []⟩ := by unfold argsOk; kernel_rfl
theorem entry_iter : entryFor table "iter" = some Builtin.«iter» := entryFor_of_tree (by kernel_rfl)
abbrev ciObj (q : Addr) (t : Tok) : Obj := { cls := .type "callable_iterator", data := .fields #[.ref q, .str (Str.ofString "") t, .bool false] }
abbrev ciEnd : Obj := { cls := .type "callable_iterator", data := .fields #[.none, .none, .bool true] }
section
variable {prog : Program} {w : World} {A : Around} {E : Value → Shared → Prop} {s : Shared} {Q : Value → Shared → Prop} {q : Addr} {f self : Value}
theorem iter_ci {t : Tok} (hq : s.heap.get? q = some (methodObj f self))
    (h : Q (.ref s.heap.objs.size) { s with heap := s.heap.push (ciObj q t) }) :
    wpAny (model prog w) A (call (.builtin "iter") [.ref q, .str (Str.ofString "") t]) Q E s := by
  refine call_function_entry (by decide +kernel) (by decide +kernel) entry_iter (args_iter2 _ _) ?_
  unfold Builtin.«iter»
  refine wpAny_bind (m := someArgs "iter" 1 2 _) (wpAny_of_eq (a := [Value.ref q, .str (Str.ofString "") t]) (by first | rfl | kernel_rfl!) ?_)
  dsimp only
  refine wpAny_bind (wpAny_specialOf (name := Str.ofString "__call__") ⟨_, hq, rfl⟩ method_call_lookup ?_)
  refine wpAny_ite_split (fun hab => absurd hab (by decide)) (fun _ => ?_)
  refine wpAny_bind (wpAny_rule ?_)
  refine wpAny_bind (wpAny_newObj_type ?_ (by size_fits))
  exact wpAny_pure ⟨_, rfl, h⟩
theorem callBorrowedP {M : Model} {pos : List Value} {f : Value} (h : codeAny M A (.call f ⟨pos, []⟩) (fun r s' => match r with | .ok (.ret v) => Q v s' | .ok _ => False | .error e => E e s') s) : wpAny M A (callBorrowed f pos) Q E s := fun Γ p hΓ => by
  unfold callBorrowed
  rw [Sem.wp_call]
  refine wpCode_mono ?_ (h _ p rfl (hΓ.enter (.call f ⟨pos, []⟩) none p (by intro x; cases x)))
  intro r s' hr
  match r, hr with
  | .ok (.ret v), hr => exact hr
  | .ok .next, hr => exact hr.elim
  | .ok .brk, hr => exact hr.elim
  | .ok .cont, hr => exact hr.elim
  | .error e, hr => exact hr
theorem borrowsP {M : Model} {fa : Addr} {o : Obj} {fd : FuncData} {Q : Bool → Shared → Prop} (hq : s.heap.get? q = some (methodObj (.ref fa) self)) (ho : s.heap.get? fa = some o) (hd : o.data = .func fd) (h : Q true s) : wpAny M A (borrowsExactly (.ref q)) Q E s := by
  unfold borrowsExactly
  refine wpAny_bind (wpAny_load hq ?_)
  show wpAny M A (load fa >>= _) Q E s
  refine wpAny_bind (wpAny_load ho ?_)
  rw [hd]
  exact wpAny_pure h
theorem pyIter_ci {it : Addr} {t : Tok} (hit : s.heap.get? it = some (ciObj q t)) (h : Q (.ref it) s) : wpAny (model prog w) A (pyIter (.ref it)) Q E s := by
  refine wpAny_pyIter_slot (T := "callable_iterator") ⟨_, hit, rfl⟩ slot_ci_iter (wpAny_call_entry slot_ci_iter ⟨_, hit, rfl⟩ entry_ci_iter ?_ (args_ci_iter _))
  exact wpAny_pure ⟨_, rfl, "callable_iterator", _, ⟨_, hit, rfl⟩, slot_ci_next.lookup, h⟩
def CiRes (it : Addr) (q : Addr) (t : Tok) (fa : Addr) (self : Value) (Q : Option Value → Shared → Prop) (r : Value) (s' : Shared) : Prop :=
  ∃ x tx, r = .str x tx ∧ s'.heap.get? it = some (ciObj q t) ∧ s'.heap.get? q = some (methodObj (.ref fa) self) ∧ (∃ o fd, s'.heap.get? fa = some o ∧ o.data = .func fd) ∧
    ((x == Str.ofString "") = false → Q (some (.str x tx)) s') ∧ ((x == Str.ofString "") = true → ∀ h', Heap.ExtBut it s'.heap h' → h'.get? it = some ciEnd → Q none { s' with heap := h' })
theorem next_ci {it fa : Addr} {t : Tok} {o : Obj} {fd : FuncData} {Q : Option Value → Shared → Prop} (hh : A.handled = none) (hit : s.heap.get? it = some (ciObj q t)) (hq : s.heap.get? q = some (methodObj (.ref fa) self)) (ho : s.heap.get? fa = some o) (hd : o.data = .func fd)
    (hcall : codeAny (model prog w) A.in1 (.call (.ref q) ⟨[], []⟩) (fun r s' => match r with | .ok (.ret v) => CiRes it q t fa self Q v s' | .ok _ => False | .error _ => False) s) :
    wpAny (model prog w) A (pyNext (.ref it)) Q E s := by
  unfold pyNext
  refine wpAny_bind (wpAny_attempt (wpAny_callSpecial?_slot (T := "callable_iterator") (name := Str.ofString "__next__") ⟨_, hit, rfl⟩ slot_ci_next
    (wpAny_call_entry slot_ci_next ⟨_, hit, rfl⟩ entry_ci_next ?_ (args_ci_next _))))
  show wpAny _ _ (field (.ref it) 2 >>= _) _ _ s
  refine wpAny_bind (wpAny_field hit rfl (x := .bool false) rfl ?_)
  rw [if_neg (show ¬ ((Value.bool false == Value.bool true) = true) by decide)]
  refine wpAny_bind (wpAny_field hit rfl (x := .ref q) rfl ?_)
  refine wpAny_bind (wpAny_attempt ?_)
  unfold callOutOfASlot
  refine wpAny_bind (borrowsP hq ho hd ?_)
  rw [if_pos rfl]
  refine callBorrowedP (codeAny_mono hcall fun r s' hr => ?_)
  match r, hr with
  | .ok .next, hr => exact hr.elim
  | .ok .brk, hr => exact hr.elim
  | .ok .cont, hr => exact hr.elim
  | .error e, hr => exact hr.elim
  | .ok (.ret v), hr =>
    obtain ⟨x, tx, rfl, hit', hq', ⟨o', fd', ho', hd'⟩, k1, k2⟩ := hr
    dsimp only
    refine wpAny_bind (wpAny_field hit' rfl (x := .bool false) rfl ?_)
    rw [if_neg (show ¬ ((Value.bool false == Value.bool true) = true) by decide)]
    refine wpAny_bind (wpAny_field hit' rfl (x := .str (Str.ofString "") t) rfl ?_)
    refine wpAny_bind (wpAny_holding (wpAny_eqBool_str ?_))
    by_cases e : Str.ofString "" = x
    · rw [decide_eq_true e, if_neg (show ¬ ((!true) = true) by decide)]
      have e2 : (x == Str.ofString "") = true := beq_iff_eq.mpr e.symm
      refine wpAny_bind (wpAny_rule ?_)
      show wpAny _ _ ((field (.ref it) 0 >>= _) >>= _) _ _ _
      refine wpAny_bind (wpAny_bind (wpAny_field hit' rfl (x := .ref q) rfl ?_))
      show wpAny _ _ (slotLetsGo _ (.ref q) _ >>= _) _ _ _
      refine wpAny_bind ?_
      unfold slotLetsGo
      refine wpAny_bind (borrowsP hq' ho' hd' ?_)
      rw [if_pos rfl]
      refine wpAny_pure ?_
      refine wpAny_bind (wpAny_setField hit' rfl (by simp) ?_)
      have g1 := Heap.get?_update_self (Obj.mapFields (·.setIfInBounds 0 .none)) hit' (Obj.isFreed_of_fields (Obj.data_mapFields rfl _))
      have d1 := Obj.data_mapFields (o := ciObj q t) rfl (·.setIfInBounds 0 .none)
      refine wpAny_bind (wpAny_setField g1 d1 (by simp) ?_)
      have g2 := Heap.get?_update_self (Obj.mapFields (·.setIfInBounds 1 .none)) g1 (Obj.isFreed_of_fields (Obj.data_mapFields d1 _))
      have d2 := Obj.data_mapFields d1 (·.setIfInBounds 1 .none)
      refine (wpAny_setField g2 d2 (by simp) ?_)
      have g3 := Heap.get?_update_self (Obj.mapFields (·.setIfInBounds 2 (.bool true))) g2 (Obj.isFreed_of_fields (Obj.data_mapFields d2 _))
      show wpAny _ _ (newExc (.type "StopIteration") [] >>= _) _ _ _
      refine wpAny_bind ?_
      simp only [newExc, newTuple]
      refine wpAny_bind (wpAny_newObj_type ?_ (by size_fits))
      refine wpAny_bind (m := firstArgMember _ _) (wpAny_of_eq (a := Value.none) (by first | rfl | (simp only [firstArgMember]; rfl)) ?_)
      refine wpAny_newObj_type ?_ (by size_fits)
      simp only [raiseNew]
      refine wpAny_bind (wpAny_handled ?_)
      rw [show A.in1.handled = none from hh]
      refine wpAny_bind (wpAny_pure (wpAny_throw ?_))
      refine wpAny_bind (wpAny_isInstance (T := "StopIteration") (b := true) ⟨_, Heap.get?_push_size _ rfl, rfl⟩ isSubtype_stop ?_)
      exact wpAny_pure (k2 e2 _ ((((((Heap.SameBut.update ..).extBut.trans (Heap.SameBut.update ..).extBut)).trans (Heap.SameBut.update ..).extBut).push _).push _) (Heap.get?_push_of_some _ (Heap.get?_push_of_some _ g3)))
    · rw [decide_eq_false e, if_pos (show (!false) = true from rfl)]
      have e2 : (x == Str.ofString "") = false := Bool.eq_false_iff.mpr fun q => e (beq_iff_eq.mp q).symm
      exact wpAny_bind (wpAny_pure (wpAny_pure ⟨_, rfl, wpAny_pure (k1 e2)⟩))
theorem next_ci_end {it : Addr} {Q : Option Value → Shared → Prop} (hh : A.handled = none) (hit : s.heap.get? it = some ciEnd)
    (k2 : ∀ h', Heap.ExtBut it s.heap h' → h'.get? it = some ciEnd → Q none { s with heap := h' }) :
    wpAny (model prog w) A (pyNext (.ref it)) Q E s := by
  unfold pyNext
  refine wpAny_bind (wpAny_attempt (wpAny_callSpecial?_slot (T := "callable_iterator") (name := Str.ofString "__next__") ⟨_, hit, rfl⟩ slot_ci_next
    (wpAny_call_entry slot_ci_next ⟨_, hit, rfl⟩ entry_ci_next ?_ (args_ci_next _))))
  show wpAny _ _ (field (.ref it) 2 >>= _) _ _ s
  refine wpAny_bind (wpAny_field hit rfl (x := .bool true) rfl ?_)
  rw [if_pos (show ((Value.bool true == Value.bool true) = true) by decide)]
  refine wpAny_bind (wpAny_rule ?_)
  refine wpAny_bind ?_
  show wpAny _ _ (newExc (.type "StopIteration") [] >>= _) _ _ _
  refine wpAny_bind ?_
  simp only [newExc, newTuple]
  refine wpAny_bind (wpAny_newObj_type ?_ (by size_fits))
  refine wpAny_bind (m := firstArgMember _ _) (wpAny_of_eq (a := Value.none) (by first | rfl | (simp only [firstArgMember]; rfl)) ?_)
  refine wpAny_newObj_type ?_ (by size_fits)
  simp only [raiseNew]
  refine wpAny_bind (wpAny_handled ?_)
  rw [show A.in1.handled = none from hh]
  refine wpAny_bind (wpAny_pure (wpAny_throw ?_))
  refine wpAny_bind (wpAny_isInstance (T := "StopIteration") (b := true) ⟨_, Heap.get?_push_size _ rfl, rfl⟩ isSubtype_stop ?_)
  exact wpAny_pure (k2 _ (Heap.ExtBut.push (Heap.ExtBut.push (fun b o _ e => e) _) _) (Heap.get?_push_of_some _ (Heap.get?_push_of_some _ hit)))
end
end Mine
end
section
open PySem PySem.W PyProof.Rows
set_option Elab.async false
set_option maxRecDepth 100000
namespace Mine
def FTurn (J : Nat → Heap → (Str → Option Value) → Prop) (n : Nat) (s : Shared) (Q : Flow → Shared → Prop) (f : Flow) (s' : Shared) : Prop :=
  match f with
  | .ret v => Q (.ret v) s'
  | .brk => Q .next s'
  | _ => ∃ h tk m k, s' = ⟨h, s.gens, s.drawn, tk, s.os⟩ ∧ k < n ∧ J k h m
section
variable {J : Nat → Heap → (Str → Option Value) → Prop} {n : Nat} {s s' : Shared} {Q : Flow → Shared → Prop}
theorem fturn_brk (h : Q .next s') : FTurn J n s Q .brk s' := h
theorem fturn_ret {v : Value} (h : Q (.ret v) s') : FTurn J n s Q (.ret v) s' := h
theorem fturn_next {h : Heap} {tk k : Nat} {m : Str → Option Value} (hk : k < n) (hJ : J k h m) : FTurn J n s Q .next ⟨h, s.gens, s.drawn, tk, s.os⟩ := ⟨h, tk, m, k, rfl, hk, hJ⟩
end
section
variable {prog : Program} {w : World} {A : Around} {E : Value → Shared → Prop} {s : Shared} {env : Env} {body : List Stmt} {x : Str} {px pos : Pos} {iter : Expr} {Q : Flow → Shared → Prop}
/-- a for loop whose turns never raise; the turn's item is got by hand -/
theorem for_inv (it : Value) (J : Nat → Heap → (Str → Option Value) → Prop) (n₀ : Nat)
    (h : wpAny (model prog w) A (eval iter env) (fun xv s₁ => wpAny (model prog w) A (pyIter xv) (fun it' s₂ => it' = it ∧ ∃ h tk m, s₂ = ⟨h, s.gens, s.drawn, tk, s.os⟩ ∧ 0 < tk ∧ J n₀ h m) (fun _ _ => False) s₁) (fun _ _ => False) s)
    (turn : ∀ n m h tk, 0 < tk → J n h m → wpAny (model prog w) A (pyNext it) (fun r s₁ => match r with
      | none => Q .next s₁
      | some v => wpAny (model prog w) A (storeName env x v) (fun _ s₂ => wpAny (model prog w) A (execs body env) (FTurn J n s Q) (fun _ _ => False) s₂) (fun _ _ => False) s₁) (fun _ _ => False) ⟨h, s.gens, s.drawn, tk, s.os⟩)
    (hs : ∀ x, foldedSetIterable iter env x = pure x := by intro _; rfl) :
    wpAny (model prog w) A (exec (.For (.Name x px) iter body [] pos) env) Q E s := by
  refine wpAny_For (wpAny_mono h (fun xv s₁ h₁ => wpAny_mono h₁ (fun it' s₂ h₂ => ?_) fun _ _ e => e.elim) fun _ _ e => e.elim) hs
  obtain ⟨rfl, h', tk, m, rfl, htk, hJ⟩ := h₂
  let I : Nat → Shared → Prop := fun n s' => ∃ h tk m, s' = ⟨h, s.gens, s.drawn, tk, s.os⟩ ∧ 0 < tk ∧ J n h m
  refine codeAny_forLoop_any I (fun n s₁ hI => ?_) n₀ ⟨h', tk, m, rfl, htk, hJ⟩
  obtain ⟨h', tk, m, rfl, htk, hJ⟩ := hI
  refine wpAny_with_toks (n := 1) htk ?_
  refine wpAny_mono (turn n m h' tk htk hJ) (fun r s₂ h₂ htk₂ => ?_) (fun _ _ h' _ => h'.elim)
  cases r with
  | none => exact wpAny_execs_nil h₂
  | some v =>
    refine wpAny_of_eq (a := ()) rfl ?_
    refine wpAny_assign_Name ?_
    dsimp only at h₂
    refine wpAny_with_toks (n := 1) htk₂ ?_
    refine wpAny_mono h₂ (fun _ s₃ h₃ htk₃ => ?_) (fun _ _ h' _ => h'.elim)
    refine wpAny_with_toks (n := 1) htk₃ ?_
    refine wpAny_mono h₃ (fun f s₄ h₄ htk₄ => ?_) (fun _ _ h' _ => h'.elim)
    cases f with
    | next => obtain ⟨h', tk', m', k, e, hk, hJ'⟩ := h₄; subst e; exact ⟨k, hk, h', tk', m', rfl, htk₄, hJ'⟩
    | cont => obtain ⟨h', tk', m', k, e, hk, hJ'⟩ := h₄; subst e; exact ⟨k, hk, h', tk', m', rfl, htk₄, hJ'⟩
    | brk => exact h₄
    | ret v => exact h₄
end
theorem iterK {prog : Program} {w : World} {A : Around} {E : Value → Shared → Prop} {s : Shared} {Q : Value → Shared → Prop} {q : Addr} {f self : Value} {h₀ : Heap} {L : Addr} {m : Str → Option Value} {news : List (Addr × Obj)} {t : Tok}
    (F : Fr h₀ L s.heap m) (N : News h₀ L s.heap news) (hq : (q, methodObj f self) ∈ news)
    (h : ∀ it h', Fr h₀ L h' m → News h₀ L h' ((it, ciObj q t) :: news) → (∀ p ∈ news, p.1 < it) → Q (.ref it) { s with heap := h' }) :
    wpAny (model prog w) A (call (.builtin "iter") [.ref q, .str (Str.ofString "") t]) Q E s := by
  refine iter_ci (N _ hq).1 (h _ _ (F.keeps fun b o e => Heap.get?_push_of_some _ e) (fun p hp => ?_) fun p hp => Heap.lt_size (N p hp).1)
  rcases List.mem_cons.mp hp with rfl | hp
  · refine ⟨Heap.get?_push_size _ rfl, Nat.ne_of_gt F.ns.lt, ?_⟩
    cases e : h₀.get? s.heap.objs.size with
    | none => rfl
    | some o => exact absurd (Heap.lt_size (F.keep _ _ e)) (Nat.lt_irrefl _)
  · exact ⟨Heap.get?_push_of_some _ (N p hp).1, (N p hp).2⟩
theorem iter_named {prog : Program} {w : World} {A : Around} {E : Value → Shared → Prop} {s : Shared} {Q : Value → Shared → Prop} {q : Addr} {t : Tok} {x : Str}
    (h : ∀ q' t', q' = q → t' = t → wpAny (model prog w) A (call (.builtin "iter") [.ref q', .str x t']) Q E s) : wpAny (model prog w) A (call (.builtin "iter") [.ref q, .str x t]) Q E s := h q t rfl rfl
end Mine
end
section
open PySem PySem.W PyProof.Rows
set_option Elab.async false
set_option maxRecDepth 100000
namespace Mine
/-- a while loop whose turns change frame and ledger and never raise -/
theorem while_invH {prog : Program} {w : World} {A : Around} {E : Value → Shared → Prop} {s : Shared} {env : Env} {test : Expr} {body : List Stmt} {pos : Pos} {Q : Flow → Shared → Prop} (J : Nat → Heap → (Str → Option Value) → Prop) (n₀ : Nat) (hs : 0 < s.toks) (hj : ∃ m₀, J n₀ s.heap m₀)
    (turn : ∀ n m h tk, 0 < tk → J n h m → wpAny (model prog w) A (isTrue test env (eval test env)) (fun b s₂ => if b then wpAny (model prog w) A (execs body env) (FTurn J n s Q) E s₂ else Q .next s₂) E ⟨h, s.gens, s.drawn, tk, s.os⟩)
    (hE : PassesOwn (model prog w) A env E) :
    wpAny (model prog w) A (exec (.While test body [] pos) env) Q E s := by
  refine wpAny_While ?_
  let I : Nat → Shared → Prop := fun n s' => ∃ h tk m, s' = ⟨h, s.gens, s.drawn, tk, s.os⟩ ∧ 0 < tk ∧ J n h m
  obtain ⟨m₀, hj⟩ := hj
  refine codeAny_whileLoop I (fun n s₁ hI => ?_) n₀ ⟨s.heap, s.toks, m₀, rfl, hs, hj⟩
  obtain ⟨h, tk, m, rfl, htk, hJ⟩ := hI
  have t1 := wpAny_passesOwn hE (turn n m h tk htk hJ)
  refine wpAny_with_toks (n := 1) htk ?_
  refine wpAny_mono t1 (fun b s₂ h₂ htk₂ => ?_) (fun _ _ h' _ => h')
  cases b with
  | false => exact wpAny_pure h₂
  | true =>
    simp only [if_true] at h₂ ⊢
    refine wpAny_with_toks (n := 1) htk₂ ?_
    refine wpAny_mono (wpAny_passesOwn hE h₂) (fun f s₃ h₃ htk₃ => ?_) (fun _ _ h' _ => h')
    cases f with
    | next => obtain ⟨h', tk', m', k, e, hk, hJ'⟩ := h₃; subst e; exact ⟨k, hk, h', tk', m', rfl, htk₃, hJ'⟩
    | cont => obtain ⟨h', tk', m', k, e, hk, hJ'⟩ := h₃; subst e; exact ⟨k, hk, h', tk', m', rfl, htk₃, hJ'⟩
    | brk => exact h₃
    | ret v => exact h₃

/-! the table of a def's own codes -/
def LamIs (qual : Str) (oc : Obj) : Prop := ∃ vs t, oc.data = .fields vs ∧ vs[1]? = some (.str qual t)
def TabOkG (l c : Nat) (qual : Str) (arr : Array Value) (S : List (Addr × Obj)) : Prop := arr = #[] ∨ ∃ c' oc', LamIs qual oc' ∧ arr = #[rawInt l, rawInt c, .ref c'] ∧ (c', oc') ∈ S
theorem TabOkG.mono {l c : Nat} {qual : Str} {arr : Array Value} {S S' : List (Addr × Obj)} (h : TabOkG l c qual arr S) (hs : ∀ q ∈ S, q ∈ S') : TabOkG l c qual arr S' := by
  rcases h with h | ⟨c', oc', h1, h2, h3⟩
  · exact .inl h
  · exact .inr ⟨c', oc', h1, h2, hs _ h3⟩
section
variable {M : Model} {A : Around} {E : Value → Shared → Prop} {s : Shared} {h₀ : Heap} {L a c P : Addr} {m mg mb : Str → Option Value} {cn : Str} {cs : Scope} {ccd : Value} {cl : List (Str × Addr)} {news : List (Addr × Obj)} {g : Obj → List (Addr × Obj)}
  {p : Program} {loose : List Str} {mean : ExcName → Option Value} {name qual : Str} {params : Arguments} {body : Expr} {scope : Scope} {pos : Pos} {firstLine : Nat} {clos : List (Str × Addr)}
theorem kla_any {Q : Value → Shared → Prop} {S : List (Addr × Obj)} {arr : Array Value} (F : Fr h₀ L s.heap m) (N : News h₀ L s.heap news) (T : Top p loose mean mg mb h₀) (C : CodeHd h₀ c P) (hcd : ccd = .ref c) (U : UpdF P (tabObj arr) news g) (hT : TabOkG pos.line pos.col qual arr S) (hS : ∀ q ∈ S, q ∈ news)
    (hcl : closureFor scope (envX cn cs L a ccd cl) = pure clos)
    (h : ∀ f c' oc ctv h' tk cx, LamIs qual oc → Fr h₀ L h' m →
      News h₀ L h' ((f, kla_obj name qual params body scope clos ((mg "__name__").getD .none) c' ctv) :: (c', oc) :: g (tabObj #[rawInt pos.line, rawInt pos.col, .ref c'])) →
      (∀ q ∈ news, q.1 < f) → c' < f → Fresh cx news → (c', oc) ∈ cx ++ S → (∀ q ∈ cx, q = (c', oc)) → Q (.ref f) { s with heap := h', toks := tk }) :
    wpAny M A (makeFunction name qual params (.expr body) scope (envX cn cs L a ccd cl) [] [] [] pos firstLine) Q E s := by
  rcases hT with rfl | ⟨c', oc', hl, rfl, hm⟩
  · refine kla_nest F N T C hcd U trivial rfl hcl fun f c' oc vs t ctv h' tk F' N' d1 d2 l1 l2 => ?_
    exact h f c' oc ctv h' tk [(c', oc)] ⟨vs, t, d1, d2⟩ F' N' (fun q hq => Nat.lt_trans (l1 q hq) l2) l2 (fun x hx y hy => by rw [List.mem_singleton.mp hx]; exact l1 y hy) (.head _) (fun q hq => List.mem_singleton.mp hq)
  · have hP : (P, tabObj #[rawInt pos.line, rawInt pos.col, .ref c']) ∈ news := by
      obtain ⟨own, rest, rfl, _, _, _⟩ := U.split
      exact List.mem_append_right _ (.head _)
    refine kla_hit (c' := c') F N T C hcd hP ?_ ?_ hcl fun f ctv h' tk F' N' l1 => ?_
    · simp [TriplesOk, rawInt]
    · simp [codeAmong, rawInt]
    · refine h f c' oc' ctv h' tk [] hl F' (fun q hq => ?_) l1 (l1 _ (hS _ hm)) (fun x hx => by cases hx) hm (fun q hq => by cases hq)
      have e : g (tabObj #[rawInt pos.line, rawInt pos.col, .ref c']) = news := by
        obtain ⟨own, rest, e1, hgr, _, _⟩ := U.split
        rw [hgr, e1]
      rw [e] at hq
      rcases List.mem_cons.mp hq with rfl | hq
      · exact N' _ (.head _)
      · rcases List.mem_cons.mp hq with rfl | hq
        · exact N' _ (.tail _ (hS _ hm))
        · exact N' _ (.tail _ hq)
end
end Mine
end
section
open PySem PySem.W PyProof.Rows PySem.Calls
set_option Elab.async false
set_option maxRecDepth 100000
namespace Mine
/-! calls behind which the frames below may have been looked at -/
abbrev frs (l : List Env) : List Addr := l.filterMap (·.frame)
def LeaveT (outer : List Env) (fs : List Addr) (h₀ : Heap) (L : Addr) (m : Str → Option Value) (g : Heap) (R : Result → Shared → Prop) (v : Value) (s' : Shared) : Prop :=
  ∃ g' L' m' news', KtsTurn fs g g' ∧ Fr g' L' s'.heap m' ∧ News g' L' s'.heap news' ∧ ∀ h₀', KtsTurn (frs outer) h₀ h₀' → Fr h₀' L s'.heap m → News h₀' L s'.heap news' → R (.ok (.ret v)) s'
theorem frs_cons {env : Env} {outer : List Env} {L b : Addr} (hf : env.frame = some L) (hm : b ∈ frs (env :: outer)) : b = L ∨ b ∈ frs outer := by
  obtain ⟨e, he, hb⟩ := List.mem_filterMap.mp hm
  rcases List.mem_cons.mp he with rfl | he
  · exact .inl (Option.some.inj (hb.symm.trans hf))
  · exact .inr (List.mem_filterMap.mpr ⟨e, he, hb⟩)
section
variable {prog : Program} {w : World} {A₀ A : Around} {s : Shared} {base h₀ : Heap} {outer : List Env} {L : Addr} {m : Str → Option Value} {env : Env} {news : List (Addr × Obj)} {K : Frag}
  {R : Result → Shared → Prop} {name qual : Str} {params : Arguments} {body : List Stmt} {scope : Scope} {dV kV doc pm cdv ct oc : Value} {an od : Option Addr} {osl : Array (Option Value)} {f : Addr} {args : Args} {binds : List (Str × Value)}
theorem groundT (B : Below A₀ base outer h₀) (F : Fr h₀ L s.heap m) (N : News h₀ L s.heap news) (hA : A.frames = some (env :: outer)) (hf : env.frame = some L) (hke : env.scope.kind = .function) (D : KtsDicts (frs outer) h₀) :
    Fr h₀ L (hideAll s.heap (news.map (·.1))) m ∧ Below A base (env :: outer) (hideAll s.heap (news.map (·.1))) ∧ h₀.StaysIn (hideAll s.heap (news.map (·.1))) ∧ KtsDicts (frs (env :: outer)) (hideAll s.heap (news.map (·.1))) ∧
      ∀ v s', LeaveT outer (frs (env :: outer)) h₀ L m (hideAll s.heap (news.map (·.1))) R v s' → R (.ok (.ret v)) s' := by
  obtain ⟨FG, BG, st, _⟩ := groundX (R := R) B F N hA hf hke
  obtain ⟨oL, es, ep, hLg, hLd, hLk, hLf⟩ := FG.ns
  refine ⟨FG, BG, st, fun b hb => ?_, fun v s' hl => ?_⟩
  · rcases frs_cons hf hb with rfl | hb
    · exact ⟨oL, es, ep, hLg, hLd⟩
    · obtain ⟨o, es', n', ho', hd'⟩ := D b hb
      exact ⟨o, es', n', st b o ho', hd'⟩
  · obtain ⟨g', L', m', news', T', F', N', k⟩ := hl
    have nL₀ : h₀.get? L = none := kts_self F
    obtain ⟨sl, hs⟩ := T'.up hLg
    obtain ⟨T₁, S₁⟩ := kts_turn_at (h := s'.heap) (fs := frs outer) (g := h₀)
      (fun b hb => by
        obtain ⟨_, o, ho', _⟩ := B.frames.mem hb
        exact ⟨o, ho'⟩)
      (fun b o e nmem => F'.keep b o (T'.other b o (st b o e) (fun q => by
        rcases frs_cons hf q with z | z
        · rw [z, nL₀] at e
          cases e
        · exact nmem z)))
      (fun b o e hm => by
        obtain ⟨sl', hs'⟩ := T'.up (st b o e)
        exact ⟨sl', F'.keep _ _ hs'⟩)
    refine k _ T₁ ⟨⟨_, es, ep, F'.keep _ _ hs, hLd, hLk, hLf⟩, S₁, by rw [T₁.size]; exact F.above⟩ fun p hp => ⟨(N' p hp).1, fun q => ?_, ?_⟩
    · have := (N' p hp).2.2; rw [q, hs] at this; cases this
    · refine T₁.none_ _ ?_
      cases q : h₀.get? p.1 with
      | none => rfl
      | some o =>
        obtain ⟨sl', hs'⟩ := T'.up (st _ _ q)
        have := (N' p hp).2.2
        rw [hs'] at this
        cases this
theorem call_cellsT {fo : Obj} (B : Below A₀ base outer h₀) (F : Fr h₀ L s.heap m) (N : News h₀ L s.heap news) (hlim : h₀.NoLimit) (D : KtsDicts (frs outer) h₀) (hA : A.frames = some (env :: outer)) (hf : env.frame = some L) (hke : env.scope.kind = .function)
    (ho : s.heap.get? f = some fo) (hd : fo.data = .func (fnX name qual params body scope [] dV kV doc pm an cdv ct)) (hcd : s.heap.CodeRec cdv qual) (hroom : A.depth < recursionLimit)
    (hbind : BindsTo s (fnX name qual params body scope [] dV kV doc pm an cdv ct) args binds)
    (hkind : ∀ n, ∀ x ∈ binds, scope.names.lookup x.1 = some .local ∨ (scope.names.lookup x.1 = some .cell ∧ ((cellsFrom n scope.names []).lookup x.1).isSome = true))
    (hnd : ((cellsFrom 0 scope.names []).map (·.1)).Nodup)
    (h : ∀ g L' h₁ tk cells, Fr h₀ L g m → Fr g L' h₁ (bindL (envOfC qual scope L' f cdv).kindOf binds fun _ => none) → News g L' h₁ (cells ++ news) →
      CellsAre (bindC (envOfC qual scope L' f cdv).kindOf binds fun _ => none) (cellsFrom (L' + 1) scope.names []) cells → Below A base (env :: outer) g → h₀.StaysIn g → KtsDicts (frs (env :: outer)) g → (∀ p ∈ news, p.1 < L') →
      wpAny (model prog w) (A.deeper (envOfC qual scope L' f cdv)) (execs body (envOfC qual scope L' f cdv))
        (fun fl s' => LeaveT outer (frs (env :: outer)) h₀ L m g R (match fl with | .ret v => v | _ => .none) s')
        (fun e s' => wpAny (model prog w) (A.deeper (envOfC qual scope L' f cdv)) (leaving (envOfC qual scope L' f cdv) e) (fun _ s'' => R (.error e) s'') (fun e' s'' => R (.error e') s'') s')
        { s with heap := h₁, toks := tk })
    (hco : scope.isCoroutine = false := by rfl) (hgen : scope.isGenerator = false := by rfl) (hk : scope.kind = .function := by rfl) : codeAny (model prog w) A (.call (.ref f) args) R s := by
  obtain ⟨FG, BG, st, DG, lv⟩ := groundT (R := R) B F N hA hf hke D
  refine codeAny_call_function hroom ho hd hco hgen rfl hcd (hbind _ _ _ _ ?_)
  refine wpAny_newFunctionEnv_cells hk (hkind _) fun env' he s' x => ?_
  subst he
  refine ⟨(hlim.keeps F.keep).keeps x.toInCall.keep, codeAny_func ?_⟩
  obtain ⟨h₁, tk, rfl, _⟩ := x.done
  have hk₁ := x.toInCall.keep
  obtain ⟨cells, NC, Y⟩ := Cl.news (h₀ := s.heap) (Nat.le_refl _) fun n c hm => ⟨x.cell n c (lookup_of_mem_nodup (cellsFrom_names scope.names 0 (s.heap.objs.size + 1) [] [] rfl ▸ hnd) hm), x.above n c hm⟩
  refine wpAny_mono (h _ s.heap.objs.size h₁ tk cells FG ⟨x.toInCall.ns, fun b o e => hk₁ b o (of_hideAll _ e), Nat.le_of_eq (hideAll_size _ _)⟩ (fun p hp => ?_) Y BG st DG (fun p hp => Heap.lt_size (N p hp).1)) (fun fl s' hl => lv _ _ hl) fun _ _ y => y
  rcases List.mem_append.mp hp with hp | hp
  · refine ⟨(NC p hp).1, (NC p hp).2.1, ?_⟩
    cases q : (hideAll s.heap (news.map (·.1))).get? p.1 with
    | none => rfl
    | some o => have := of_hideAll _ q; rw [(NC p hp).2.2] at this; cases this
  · exact ⟨hk₁ _ _ (N p hp).1, Nat.ne_of_lt (Heap.lt_size (N p hp).1), hideAll_none _ (List.mem_map_of_mem hp)⟩
theorem code_defT {p : Program} {loose : List Str} {mean : ExcName → Option Value} {mg mb : Str → Option Value} (B : Below A₀ base outer h₀) (F : Fr h₀ L s.heap m) (XB : K.In base) (TB : Top p loose mean mg mb base) (D : KtsDicts (frs outer) h₀) (N : News h₀ L s.heap news) (hA : A.frames = some (env :: outer)) (hf : env.frame = some L) (hke : env.scope.kind = .function)
    (ho : K.lookup f = some ⟨oc, od, .func (fnOf name qual params body scope dV kV doc pm an cdv ct), osl⟩) (hcd : codeIn K cdv qual = true) (hroom : A.depth < recursionLimit)
    (hbind : BindsTo s (fnOf name qual params body scope dV kV doc pm an cdv ct) args binds) (hkind : (binds.all fun y => scope.names.lookup y.1 == some .local || scope.names.lookup y.1 == some .cell) = true)
    (hnd : ((cellsFrom 0 scope.names []).map (·.1)).Nodup)
    (h : ∀ g L' h₁ tk cells, Fr h₀ L g m → Fr g L' h₁ (bindL (envOfC qual scope L' f cdv).kindOf binds fun _ => none) → News g L' h₁ (cells ++ news) →
      CellsAre (bindC (envOfC qual scope L' f cdv).kindOf binds fun _ => none) (cellsFrom (L' + 1) scope.names []) cells → Below A base (env :: outer) g → K.In g → Top p loose mean mg mb g → KtsDicts (frs (env :: outer)) g → (∀ p ∈ news, p.1 < L') →
      wpAny (model prog w) (A.deeper (envOfC qual scope L' f cdv)) (execs body (envOfC qual scope L' f cdv))
        (fun fl s' => LeaveT outer (frs (env :: outer)) h₀ L m g R (match fl with | .ret v => v | _ => .none) s')
        (fun e s' => wpAny (model prog w) (A.deeper (envOfC qual scope L' f cdv)) (leaving (envOfC qual scope L' f cdv) e) (fun _ s'' => R (.error e) s'') (fun e' s'' => R (.error e') s'') s')
        { s with heap := h₁, toks := tk })
    (hco : scope.isCoroutine = false) (hgen : scope.isGenerator = false) (hk : scope.kind = .function) : codeAny (model prog w) A (.call (.ref f) args) R s := by
  have X₀ : K.In h₀ := XB.keeps B.stays
  have T : Top p loose mean mg mb h₀ := TB.keeps B.stays
  exact call_cellsT B F N T.nolimit D hA hf hke ((X₀.keeps F.keep) _ _ ho) rfl (codeRec_of (X₀.keeps F.keep) hcd) hroom hbind (kindsX hkind) hnd (fun g L' h₁ tk cells FG F' N' Y B' st D' l => h g L' h₁ tk cells FG F' N' Y B' (X₀.keeps st) (T.keeps st) D' l) hco hgen hk
end
end Mine
end
section
open PySem PySem.W PyProof.Rows PySem.Calls
set_option Elab.async false
set_option maxRecDepth 100000
namespace Mine
section
variable {prog : Program} {w : World} {A₀ : Around} {E : Value → Shared → Prop} {s' : Shared} {base g G : Heap} {outer : List Env} {L a e t C : Addr} {m : Str → Option Value} {name : Str} {scope : Scope} {cd : Value} {cl : List (Str × Addr)}
  {vs : List Value} {b₀ : Stmt} {suite : List Stmt} {pos np : Pos} {rest : List ExceptHandler} {Q : Flow → Shared → Prop} {news : List (Addr × Obj)} {KF : Frag}
  {p : Program} {loose : List Str} {mean : ExcName → Option Value} {mg mb : Str → Option Value} {x : Str}
/-- an own exception out of a callee, caught by its name in a def with cells -/
theorem caughtX (R : RaisedS base G (envX name scope L a cd cl :: outer) e (.ref C) t vs news s'.heap) (F : Fr g L G m) (K : Below A₀ base outer g) (hsm : G.UpToSlots s'.heap) (XB : KF.In base) (TB : Top p loose mean mg mb base)
    (D : KtsDicts (frs outer) g) (ex : nsIn KF mainGlobals x = some (some (.ref C))) (q : ktsIn KF C "BaseException" = true)
    (k : ∀ h' g', KtsTurn (frs outer) g g' → Fr g' L h' m → News g' L h' news → Below A₀ base outer g' → KF.In g' → Top p loose mean mg mb g' → KtsDicts (frs outer) g' →
      wpAny (model prog w) ((A₀.deeper (envX name scope L a cd cl)).mark (some (.ref e))) (execs (b₀ :: suite) (envX name scope L a cd cl)) Q E { s' with heap := h' })
    (hk : scope.kind = .function) (hx : (envX name scope L a cd cl).kindOf x = some .globalImplicit) (hd : (x == ("__debug__" : Str)) = false)
    (hE : PassesOwnAt (model prog w) ((A₀.deeper (envX name scope L a cd cl)).mark (some (.ref e))) (A₀.deeper (envX name scope L a cd cl)) (envX name scope L a cd cl) E) :
    wpAny (model prog w) (A₀.deeper (envX name scope L a cd cl)) (noteFrame (.ref e) (envX name scope L a cd cl))
      (fun _ s₂ => wpAny (model prog w) (A₀.deeper (envX name scope L a cd cl)) (setFlight (.ref e) none) (fun _ s₃ =>
        wpAny (model prog w) (A₀.deeper (envX name scope L a cd cl)) (handleBy (.ref e) (envX name scope L a cd cl) (.ExceptHandler (some (.Name x np)) none (b₀ :: suite) pos :: rest)) Q E s₃) E s₂) E s' := by
  obtain ⟨⟨B, hB, hBG, hl, hfl, hnew⟩, htup⟩ := R
  have hL : B.get? L = none := by
    obtain ⟨_, ⟨L', _, hf, hn', _⟩, _⟩ := hfl.2.2.1
    obtain rfl : L = L' := Option.some.inj hf
    exact hn'
  refine wpAny_looks_onW (Around.frames_deeper K.stack) rfl hfl fun h₄ held₄ up₄ => ?_
  refine wpAny_landsW held₄ fun h₅ held₅ up₅' => ?_
  have up₅ := up₄.trans up₅'
  obtain ⟨g₅, T₅, F₅, K₅⟩ := kts_ground (name := name) (scope := scope) (a := a) (cd := cd) K F hBG held₅.1 (hsm.trans up₅)
  obtain ⟨ob, hob, hobc⟩ := held₅.there
  obtain ⟨_, _, _, _, bm, _, _, _, _, _, _, _, _, _, _, _, _, hC, hbase, _⟩ := kts_cls (XB.keeps K₅.stays) q
  refine wpAny_handleBy_cons (codeAny_handlers_test (nameX_K F₅ (XB.keeps K₅.stays) (topRead_of (TB.keeps K₅.stays)) ex ?_ hk hx hd)) (by intro q; cases q)
  refine wpAny_excMatches_sub_self (F₅.keep _ _ hC) hob hobc hbase (codeAny_handlers_suite ?_)
  refine lands_againW held₅ fun h₆ fl₆ up₆ => ?_
  obtain ⟨g₆, T₆, F₆, K₆⟩ := kts_ground (name := name) (scope := scope) (a := a) (cd := cd) K F hBG fl₆.1 ((hsm.trans up₅).trans up₆)
  have Nl : News g₆ L h₆ news := fun q hq => ⟨fl₆.1 _ _ (hl q hq).1, (fun z => by have := (hl q hq).1; rw [z, hL] at this; cases this), T₆.none_ _ (kts_none F.keep (hl q hq).2.1)⟩
  exact wpAny_passesOwnAt hE (k h₆ g₆ T₆ F₆ Nl K₆ (XB.keeps K₆.stays) (TB.keeps K₆.stays) (D.turn T₆))
end
/-! a ground without the frames -/
def FrOk (g : Heap) (fs : List Addr) (fr : List (Addr × Obj)) : Prop := fr.map (·.1) = fs ∧ ∀ q ∈ fr, ∃ (o : Obj) (sl : Array (Option Value)), g.get? q.1 = some o ∧ q.2 = { o with slots := sl }
section
variable {A : Around} {base g g₂ h : Heap} {l : List Env} {L : Addr} {m : Str → Option Value} {news fr : List (Addr × Obj)} {K : Frag} {p : Program} {loose : List Str} {mean : ExcName → Option Value} {mg mb : Str → Option Value}
abbrev hid (g : Heap) (l : List Env) : Heap := hideAll g (frs l)
theorem hid_stays (B : Below A base l g) : base.StaysIn (hid g l) := fun b o e => hideAll_get _ (B.stays b o e) fun hm => by
  rw [(B.frames.mem hm).1] at e; cases e
theorem hid_out {b : Addr} {o : Obj} (e : (hid g l).get? b = some o) : g.get? b = some o ∧ b ∉ frs l := ⟨of_hideAll _ e, fun hm => by rw [hideAll_none _ hm] at e; cases e⟩
theorem hid_fr (F : Fr g₂ L h m) (T : KtsTurn (frs l) g g₂) : Fr (hid g l) L h m :=
  ⟨F.ns, fun b o e => F.keep b o (T.other b o (hid_out e).1 (hid_out e).2), by rw [hideAll_size, ← T.size]; exact F.above⟩
theorem hid_none {b : Addr} (e : g.get? b = none) : (hid g l).get? b = none := by
  cases q : (hid g l).get? b with
  | none => rfl
  | some o => rw [(hid_out q).1] at e; cases e
theorem turn_none (T : KtsTurn (frs l) g g₂) {b : Addr} (e : g₂.get? b = none) : g.get? b = none := by
  cases q : g.get? b with
  | none => rfl
  | some o =>
    obtain ⟨sl, hs⟩ := T.up q
    rw [hs] at e; cases e
theorem frames_of : ∀ (fs : List Addr), (∀ b ∈ fs, ∃ (o : Obj) (sl : Array (Option Value)), g.get? b = some o ∧ h.get? b = some { o with slots := sl }) → ∃ fr, FrOk g fs fr ∧ ∀ q ∈ fr, h.get? q.1 = some q.2
  | [], _ => ⟨[], ⟨rfl, fun _ q => nomatch q⟩, fun _ q => nomatch q⟩
  | b :: r, H => by
    obtain ⟨fr, ⟨e1, e2⟩, e3⟩ := frames_of r fun c hc => H c (.tail _ hc)
    obtain ⟨o, sl, h1, h2⟩ := H b (.head _)
    refine ⟨(b, { o with slots := sl }) :: fr, ⟨by rw [List.map_cons, e1], fun q hq => ?_⟩, fun q hq => ?_⟩
    · rcases List.mem_cons.mp hq with rfl | hq
      · exact ⟨o, sl, h1, rfl⟩
      · exact e2 q hq
    · rcases List.mem_cons.mp hq with rfl | hq
      · exact h2
      · exact e3 q hq
theorem hid_frames (B : Below A base l g) (F : Fr g₂ L h m) (T : KtsTurn (frs l) g g₂) : ∃ fr, FrOk g (frs l) fr ∧ News (hid g l) L h fr := by
  obtain ⟨fr, h1, h2⟩ := frames_of (g := g) (h := h) (frs l) fun b hb => by
    obtain ⟨_, o, ho, _⟩ := B.frames.mem hb
    obtain ⟨sl, hs⟩ := T.up ho
    exact ⟨o, sl, ho, F.keep _ _ hs⟩
  refine ⟨fr, h1, fun q hq => ⟨h2 q hq, fun e => ?_, ?_⟩⟩
  · obtain ⟨o, sl, h3, _⟩ := h1.2 q hq
    obtain ⟨sl', hs⟩ := T.up h3
    rw [e, kts_self F] at hs; cases hs
  · exact hideAll_none _ (by rw [← h1.1]; exact List.mem_map_of_mem hq)
theorem hid_news (T : KtsTurn (frs l) g g₂) (N : News g₂ L h news) : News (hid g l) L h news := fun q hq => ⟨(N q hq).1, (N q hq).2.1, hid_none (turn_none T (N q hq).2.2)⟩
theorem hid_apart (B : Below A base l g) (T : KtsTurn (frs l) g g₂) (N : News g₂ L h news) : ∀ q ∈ news, q.1 ∉ frs l := fun q hq hm => by
  obtain ⟨_, o, ho, _⟩ := B.frames.mem hm
  rw [turn_none T (N q hq).2.2] at ho; cases ho
theorem unhid (B : Below A base l g) (F : Fr (hid g l) L h m) (hfr : FrOk g (frs l) fr) (Nf : News (hid g l) L h fr) :
    ∃ g', KtsTurn (frs l) g g' ∧ Fr g' L h m ∧ Below A base l g' ∧ ∀ news, News (hid g l) L h news → (∀ q ∈ news, q.1 ∉ frs l) → News g' L h news := by
  obtain ⟨T, S⟩ := kts_turn_at (h := h) (fs := frs l) (g := g)
    (fun b hb => by
      obtain ⟨_, o, ho, _⟩ := B.frames.mem hb
      exact ⟨o, ho⟩)
    (fun b o e nm => F.keep b o (hideAll_get _ e nm))
    (fun b o e hm => by
      rw [← hfr.1] at hm
      obtain ⟨q, hq, rfl⟩ := List.mem_map.mp hm
      obtain ⟨o', sl, h1, h2⟩ := hfr.2 q hq
      rw [h1] at e; cases e
      exact ⟨sl, h2 ▸ (Nf q hq).1⟩)
  refine ⟨_, T, ⟨F.ns, S, by rw [T.size]; have := F.above; rwa [hideAll_size] at this⟩, ⟨B.stack, fun b o e => T.other b o (B.stays b o e) (fun hm => by
    rw [(B.frames.mem hm).1] at e
    cases e), B.frames.of_keeps fun b o e _ => by
    obtain ⟨sl', hs'⟩ := T.up e
    exact ⟨_, hs', rfl⟩⟩, fun news N hn q hq => ⟨(N q hq).1, (N q hq).2.1, T.none_ _ ?_⟩⟩
  cases z : g.get? q.1 with
  | none => rfl
  | some o =>
    have := hideAll_get (frs l) z (hn q hq)
    rw [(N q hq).2.2] at this; cases this
end
/-! what a call of the reader gives: the value, the new objects, and the table as it is left -/
def FnRd (TB : Addr) (TK : Array Value → List (Addr × Obj) → Prop) (prog : Program) (w : World) (K : Frag) (p : Program) (loose : List Str) (mean : ExcName → Option Value) (mg mb : Str → Option Value) (f : Addr) (d : Nat) (news : List (Addr × Obj)) (vs : List Value) (R : List (Addr × Obj) → Value → Prop) : Prop :=
  ∀ (arr : Array Value) (S₀ : List (Addr × Obj)) (dp un : Nat) (gd : Option (List Code)) (cn : Str) (cs : Scope) (a : Addr) (ccd : Value) (cl : List (Str × Addr)) (outer : List Env) (A₀ : Around) (base h₀ : Heap) (L : Addr) (m : Str → Option Value) (s : Shared) (Q E : Value → Shared → Prop),
    Below A₀ base outer h₀ → Fr h₀ L s.heap m → K.In base → Top p loose mean mg mb base → KtsDicts (frs outer) h₀ → News h₀ L s.heap ((TB, tabObj arr) :: news) → TK arr S₀ → (∀ q ∈ S₀, q ∈ news) → (∀ q ∈ news, q.1 ≠ TB) → cs.kind = .function → dp + d < recursionLimit → un + 8 * d < cLine →
    (∀ v h' tk' ext arr' h₀', R ext v → Fresh ext ((TB, tabObj arr) :: news) → TK arr' (ext ++ S₀) → KtsTurn (frs outer) h₀ h₀' → Fr h₀' L h' m → News h₀' L h' ((TB, tabObj arr') :: (ext ++ news)) → Q v ⟨h', s.gens, s.drawn, tk', s.os⟩) →
      wpAny (model prog w) (ktrTop dp un gd cn cs L a ccd cl outer) (call (.ref f) vs) Q E s
section
variable {TB : Addr} {TK : Array Value → List (Addr × Obj) → Prop} {prog : Program} {w : World} {K : Frag} {p : Program} {loose : List Str} {mean : ExcName → Option Value} {mg mb : Str → Option Value} {f : Addr} {d : Nat} {news : List (Addr × Obj)} {vs : List Value} {R : List (Addr × Obj) → Value → Prop}
theorem rd_deep {d' : Nat} (H : FnRd TB TK prog w K p loose mean mg mb f d news vs R) (h : d ≤ d') : FnRd TB TK prog w K p loose mean mg mb f d' news vs R :=
  fun arr S₀ dp un gd cn cs a ccd cl outer A₀ base h₀ L m s Q E B F X T D N hT hS₀ hne hk hd hu ret => H arr S₀ dp un gd cn cs a ccd cl outer A₀ base h₀ L m s Q E B F X T D N hT hS₀ hne hk (by omega) (by omega) ret
theorem rd_of {R' : Value → Prop} (H : ∀ S, FnOk prog w K p loose mean mg mb f d S vs R') (h : ∀ v, R' v → R [] v) : FnRd TB TK prog w K p loose mean mg mb f d news vs R :=
  fun arr S₀ dp un gd cn cs a ccd cl outer A₀ base h₀ L m s Q E B F X T D N hT hS₀ hne hk hd hu ret => H _ dp un gd cn cs a ccd cl outer A₀ base h₀ L m s Q E B F (X.keeps B.stays) N (T.keeps B.stays) hk hd hu fun v h' tk' r F' N' => ret v h' tk' [] arr h₀ (h v r) (fun x hx => by cases hx) hT .refl F' N'
end
def RdSt (TB : Addr) (TK : Array Value → List (Addr × Obj) → Prop) (g : Heap) (fs : List Addr) (S₀ bs st made : List (Addr × Obj)) : Prop :=
  ∃ (arr : Array Value) (fr : List (Addr × Obj)), st = (TB, tabObj arr) :: fr ∧ TK arr (made ++ S₀) ∧ FrOk g fs fr ∧ (∀ q ∈ made ++ bs, q.1 ∉ fs ∧ q.1 ≠ TB) ∧ TB ∉ fs
section
variable {SK : List (Addr × Obj) → List (Addr × Obj) → Prop} {prog : Program} {w : World} {A : Around} {h₀ : Heap} {L : Addr} {m : Str → Option Value} {env : Env} {elt : Expr} {x : Str} {scope : Scope} {cl : List (Str × Addr)} {s : Shared} {S : List (Addr × Obj) → Prop} {Fin : List Value → List (Addr × Obj) → Prop} {base : List (Addr × Obj)}
def MkPost3 (pb : Addr × Obj) (SK : List (Addr × Obj) → List (Addr × Obj) → Prop) {α : Type} (El : List (Addr × Obj) → α → Value → Prop) (made base : List (Addr × Obj)) (x : α) (y : Value) (news' : List (Addr × Obj)) : Prop :=
  ∃ ext st', news' = st' ++ (ext ++ (made ++ base)) ∧ Fresh ext (pb :: base) ∧ SK st' (ext ++ made) ∧ El ext x y
theorem comp_mk3 {pb : Addr × Obj} {α : Type} {xs : List α} {vs : List Value} {R : α → Value → Prop} {st₀ : List (Addr × Obj)} (hf : Fa2 R xs vs) (El : List (Addr × Obj) → α → Value → Prop) (mono : ∀ (l l' : List (Addr × Obj)) (x : α) (y : Value), (∀ q ∈ l, q ∈ l') → El l x y → El l' x y) (hT₀ : SK st₀ [])
    (turn : ∀ x' v made st I oI C oC D m₂ ys h tk (E' : Value → Shared → Prop), x' ∈ xs → R x' v → SK st made → Fresh made (pb :: base) → LCg.NsObj oC m₂ → m₂ x = some v → Fr h₀ L h m → News h₀ L h ((I, oI) :: (C, oC) :: (D, LCg.lst ys) :: (st ++ (made ++ base))) → LCg.Off3 I C D (st ++ (made ++ base)) → ((@Ne Nat I C) ∧ (@Ne Nat I D) ∧ (@Ne Nat C D)) →
      wpAny (model prog w) A (eval elt (compEnvC scope cl C env)) (LCg.CompEnd h₀ L m { s with heap := h, toks := tk } I oI C oC D (LCg.lst ys) S (MkPost3 pb SK El made base x')) E' { s with heap := h, toks := tk })
    (fin : ∀ ys made st, Fresh made (pb :: base) → SK st made → Fa2 (El made) xs ys → Fin ys (st ++ (made ++ base))) : LCg.CompRest prog w A h₀ L m env elt x scope cl s S (fun i v => vs.toArray[i]? = some v) Fin vs.toArray.size 0 [] (st₀ ++ base) := by
  have hsz : vs.toArray.size = xs.length := by rw [List.size_toArray, hf.length]
  rw [hsz]
  have key : ∀ (j i : Nat) (ys : List Value) (made st : List (Addr × Obj)), i + j = xs.length → Fresh made (pb :: base) → SK st made → Fa2 (El made) (xs.take i) ys →
      LCg.CompRest prog w A h₀ L m env elt x scope cl s S (fun i v => vs.toArray[i]? = some v) Fin j i ys (st ++ (made ++ base)) := by
    intro j
    induction j with
    | zero =>
      intro i ys made st hi hs hT hy
      refine LCg.CompRest.zero (fin ys made st hs hT ?_)
      rwa [List.take_of_length_le (by omega)] at hy
    | succ j ih =>
      intro i ys made st hi hs hT hy
      refine LCg.CompRest.succ ?_
      intro v I oI C oC D m₂ h tk E' hv hC hx F N off ne
      obtain ⟨a, ea, ma, hR⟩ := hf.get (i := i) (by simpa using hv)
      refine wpAny_mono (turn a v made st I oI C oC D m₂ ys h tk E' ma hR hT hs hC hx F N off ne) (fun y s₂ hq => ?_) fun _ _ e => e
      obtain ⟨h', tk', nw, e, F', N', off', hS', ext, st', hn, hfr, hT', hE⟩ := hq
      subst hn
      refine ⟨h', tk', _, e, F', N', off', hS', ?_⟩
      show LCg.CompRest prog w A h₀ L m env elt x scope cl s S (fun i v => vs.toArray[i]? = some v) Fin j (i + 1) (ys ++ [y]) (st' ++ (ext ++ (made ++ base)))
      rw [← List.append_assoc ext]
      refine ih (i + 1) _ (ext ++ made) st' (by omega) (fun x hx => ?_) hT' ?_
      · rcases List.mem_append.mp hx with hx | hx
        · exact hfr x hx
        · exact hs x hx
      · have et : xs.take (i + 1) = xs.take i ++ [a] := by
          rw [List.take_add_one, ea]; rfl
        rw [et]
        exact (hy.mono fun b y' => mono _ _ b y' fun q hq => List.mem_append_right _ hq).snoc (mono _ _ _ _ (fun q hq => List.mem_append_left _ hq) hE)
  exact key xs.length 0 [] [] st₀ (by omega) (fun x hx => by cases hx) hT₀ .nil
end
section
variable {TB : Addr} {TK : Array Value → List (Addr × Obj) → Prop} {g : Heap} {fs : List Addr} {S₀ : List (Addr × Obj)} {prog : Program} {w : World} {A : Around} {h₀ : Heap} {L : Addr} {m : Str → Option Value} {env : Env} {elt : Expr} {x : Str} {scope : Scope} {cl : List (Str × Addr)} {s : Shared} {S : List (Addr × Obj) → Prop} {Fin : List Value → List (Addr × Obj) → Prop} {base : List (Addr × Obj)}
theorem comp_rd {α : Type} {xs : List α} {vs : List Value} {R : α → Value → Prop} {st₀ : List (Addr × Obj)} (hf : Fa2 R xs vs) (El : List (Addr × Obj) → α → Value → Prop) (mono : ∀ (l l' : List (Addr × Obj)) (x : α) (y : Value), (∀ q ∈ l, q ∈ l') → El l x y → El l' x y) (hT₀ : RdSt TB TK g fs S₀ base st₀ [])
    (turn : ∀ x' v made st I oI C oC D m₂ ys h tk (E' : Value → Shared → Prop), x' ∈ xs → R x' v → RdSt TB TK g fs S₀ base st made → Fresh made ((TB, tabObj #[]) :: base) → LCg.NsObj oC m₂ → m₂ x = some v → Fr h₀ L h m → News h₀ L h ((I, oI) :: (C, oC) :: (D, LCg.lst ys) :: (st ++ (made ++ base))) → LCg.Off3 I C D (st ++ (made ++ base)) → ((@Ne Nat I C) ∧ (@Ne Nat I D) ∧ (@Ne Nat C D)) →
      wpAny (model prog w) A (eval elt (compEnvC scope cl C env)) (LCg.CompEnd h₀ L m { s with heap := h, toks := tk } I oI C oC D (LCg.lst ys) S (MkPost3 (TB, tabObj #[]) (RdSt TB TK g fs S₀ base) El made base x')) E' { s with heap := h, toks := tk })
    (fin : ∀ ys made st, Fresh made ((TB, tabObj #[]) :: base) → RdSt TB TK g fs S₀ base st made → Fa2 (El made) xs ys → Fin ys (st ++ (made ++ base))) : LCg.CompRest prog w A h₀ L m env elt x scope cl s S (fun i v => vs.toArray[i]? = some v) Fin vs.toArray.size 0 [] (st₀ ++ base) :=
  comp_mk3 hf El mono hT₀ turn fin
end
section
variable {TB : Addr} {TK : Array Value → List (Addr × Obj) → Prop} {prog : Program} {w : World} {K : Frag} {p : Program} {loose : List Str} {mean : ExcName → Option Value} {mg mb : Str → Option Value} {f : Addr} {d : Nat} {vs : List Value}
  {dp un : Nat} {gd : Option (List Code)} {cn : Str} {cs : Scope} {a : Addr} {ccd : Value} {cl : List (Str × Addr)} {l : List Env} {A₀ : Around} {base g h : Heap} {L : Addr} {m : Str → Option Value} {s₁ : Shared} {E' : Value → Shared → Prop}
  {I C D : Addr} {oI oC oD : Obj} {S : List (Addr × Obj) → Prop} {tk : Nat} {made bs st S₀ : List (Addr × Obj)}
/-- the turn of a comprehension whose element is a call of the reader -/
theorem read_elem {o0 : Obj} {α : Type} {El : List (Addr × Obj) → α → Value → Prop} {x : α} (H : FnRd TB TK prog w K p loose mean mg mb f d ((I, oI) :: (C, oC) :: (D, oD) :: (made ++ bs)) vs (fun e v => El e x v))
    (B : Below A₀ base l g) (XB : K.In base) (T : Top p loose mean mg mb base) (DD : KtsDicts (frs l) g) (hst : RdSt TB TK g (frs l) S₀ bs st made) (hS₀ : ∀ q ∈ S₀, q ∈ bs)
    (F : Fr (hid g l) L h m) (N : News (hid g l) L h ((I, oI) :: (C, oC) :: (D, oD) :: (st ++ (made ++ bs)))) (off : LCg.Off3 I C D (st ++ (made ++ bs))) (hS : ∀ nw, (∀ q ∈ bs, q ∈ nw) → S nw)
    (hk : cs.kind = .function) (hd : dp + d < recursionLimit) (hu : un + 8 * d < cLine) :
    wpAny (model prog w) (ktrTop dp un gd cn cs L a ccd cl l) (call (.ref f) vs) (LCg.CompEnd (hid g l) L m s₁ I oI C oC D oD S (MkPost3 (TB, o0) (RdSt TB TK g (frs l) S₀ bs) El made bs x)) E' { s₁ with heap := h, toks := tk } := by
  obtain ⟨arr, fr, rfl, hTK, hfr, hap, hTB⟩ := hst
  have Nf : News (hid g l) L h fr := fun q hq => N q (.tail _ (.tail _ (.tail _ (List.mem_append_left _ (.tail _ hq)))))
  obtain ⟨g', T', F', B', N'⟩ := unhid B F hfr Nf
  have hI : ∀ q ∈ (I, oI) :: (C, oC) :: (D, oD) :: (made ++ bs), q.1 ∉ frs l ∧ q.1 ≠ TB := by
    have hf : ∀ b ∈ frs l, b ≠ I ∧ b ≠ C ∧ b ≠ D := fun b hb => by
      rw [← hfr.1] at hb
      obtain ⟨q, hq, rfl⟩ := List.mem_map.mp hb
      exact off.mem q (List.mem_append_left _ (.tail _ hq))
    have ht := off.mem (TB, tabObj arr) (List.mem_append_left _ (.head _))
    intro q hq
    rcases List.mem_cons.mp hq with rfl | hq
    · exact ⟨fun hm => (hf _ hm).1 rfl, fun e => ht.1 e.symm⟩
    · rcases List.mem_cons.mp hq with rfl | hq
      · exact ⟨fun hm => (hf _ hm).2.1 rfl, fun e => ht.2.1 e.symm⟩
      · rcases List.mem_cons.mp hq with rfl | hq
        · exact ⟨fun hm => (hf _ hm).2.2 rfl, fun e => ht.2.2 e.symm⟩
        · exact hap q hq
  have N1 : News g' L h ((TB, tabObj arr) :: ((I, oI) :: (C, oC) :: (D, oD) :: (made ++ bs))) := N' _ (fun q hq => N q (by
      simp only [List.mem_cons, List.mem_append] at hq ⊢
      rcases hq with hq | hq | hq | hq | hq
      · exact .inr (.inr (.inr (.inl (.inl hq))))
      · exact .inl hq
      · exact .inr (.inl hq)
      · exact .inr (.inr (.inl hq))
      · exact .inr (.inr (.inr (.inr hq))))) (fun q hq => by
    rcases List.mem_cons.mp hq with rfl | hq
    · exact hTB
    · exact (hI q hq).1)
  refine H arr (made ++ S₀) dp un gd cn cs a ccd cl l A₀ base g' L m _ _ _ B' F' XB T (DD.turn T') N1 hTK (fun q hq => .tail _ (.tail _ (.tail _ (List.mem_append.mpr ((List.mem_append.mp hq).imp (fun z => z) (hS₀ q)))))) (fun q hq => (hI q hq).2) hk hd hu ?_
  intro v h' tk' ext arr' g'' hE hfresh hTK' T'' F'' N''
  have TT := T'.trans T''
  obtain ⟨fr'', hfr'', Nf''⟩ := hid_frames B F'' TT
  have Nh := hid_news TT N''
  have hxap : ∀ q ∈ ext, q.1 ∉ frs l := hid_apart B TT fun q hq => N'' q (.tail _ (List.mem_append_left _ hq))
  refine ⟨h', tk', ((TB, tabObj arr') :: fr'') ++ (ext ++ (made ++ bs)), rfl, hid_fr F'' TT, fun q hq => ?_, ?_, hS _ fun q hq => List.mem_append_right _ (List.mem_append_right _ (List.mem_append_right _ hq)), ext, _, rfl,
    fun x hx y hy => (List.mem_cons.mp hy).elim (fun e => e ▸ (hfresh x hx _ (.head _) : @LT.lt Nat _ TB x.1)) (fun hy => hfresh x hx y (.tail _ (.tail _ (.tail _ (.tail _ (List.mem_append_right _ hy)))))), ⟨arr', fr'', rfl, by rw [List.append_assoc]; exact hTK', hfr'', fun q hq => ?_, hTB⟩, hE⟩
  · simp only [List.mem_cons, List.mem_append, List.cons_append] at hq
    rcases hq with hq | hq | hq | hq | hq | hq | hq
    · exact Nh q (by rw [hq]; exact .tail _ (List.mem_append_right _ (.head _)))
    · exact Nh q (by rw [hq]; exact .tail _ (List.mem_append_right _ (.tail _ (.head _))))
    · exact Nh q (by rw [hq]; exact .tail _ (List.mem_append_right _ (.tail _ (.tail _ (.head _)))))
    · exact Nh q (by rw [hq]; exact .head _)
    · exact Nf'' q hq
    · exact Nh q (.tail _ (List.mem_append_left _ hq))
    · exact Nh q (.tail _ (List.mem_append_right _ (.tail _ (.tail _ (.tail _ (List.mem_append.mpr hq))))))
  · refine LCg.Off3.of fun q hq => ?_
    rcases List.mem_append.mp hq with hq | hq
    · rcases List.mem_cons.mp hq with rfl | hq
      · exact off.mem (TB, tabObj arr) (List.mem_append_left _ (.head _))
      · have hb : q.1 ∈ frs l := by rw [← hfr''.1]; exact List.mem_map_of_mem hq
        rw [← hfr.1] at hb
        obtain ⟨q2, hq2, e⟩ := List.mem_map.mp hb
        rw [← e]
        exact off.mem q2 (List.mem_append_left _ (.tail _ hq2))
    · rcases List.mem_append.mp hq with hq | hq
      · exact ⟨Nat.ne_of_gt (hfresh q hq _ (.tail _ (.head _))), Nat.ne_of_gt (hfresh q hq _ (.tail _ (.tail _ (.head _)))), Nat.ne_of_gt (hfresh q hq _ (.tail _ (.tail _ (.tail _ (.head _)))))⟩
      · exact off.mem q (List.mem_append_right _ hq)
  · rw [List.append_assoc] at hq
    rcases List.mem_append.mp hq with hq | hq
    · exact ⟨hxap q hq, Nat.ne_of_gt (hfresh q hq _ (.head _))⟩
    · exact hap q hq
end
section
variable {TB : Addr} {TK : Array Value → List (Addr × Obj) → Prop} {K : Frag} {p : Program} {loose : List Str} {mean : ExcName → Option Value} {mg mb : Str → Option Value} {l : List Env} {A₀ : Around} {base g h : Heap} {L : Addr} {m : Str → Option Value} {led bs S₀ : List (Addr × Obj)} {arr : Array Value}
theorem hid_all (B : Below A₀ base l g) (F : Fr g L h m) (N : News g L h led) (XB : K.In base) (T : Top p loose mean mg mb base) (ht : (TB, tabObj arr) ∈ led) (hb : ∀ q ∈ bs, q ∈ led) (hne : ∀ q ∈ bs, q.1 ≠ TB) (hTK : TK arr S₀) :
    ∃ fr, RdSt TB TK g (frs l) S₀ bs ((TB, tabObj arr) :: fr) [] ∧ Fr (hid g l) L h m ∧ News (hid g l) L h ((TB, tabObj arr) :: (fr ++ bs)) ∧ K.In (hid g l) ∧ Top p loose mean mg mb (hid g l) := by
  have hT : KtsTurn (frs l) g g := .refl
  obtain ⟨fr, hfr, Nf⟩ := hid_frames B F hT
  have hap := hid_apart B hT N
  have Nh := hid_news hT N
  refine ⟨fr, ⟨arr, fr, rfl, hTK, hfr, fun q hq => ⟨hap q (hb q hq), hne q hq⟩, hap _ ht⟩, hid_fr F hT, fun q hq => ?_, XB.keeps (hid_stays B), T.keeps (hid_stays B)⟩
  rcases List.mem_cons.mp hq with rfl | hq
  · exact Nh _ ht
  · rcases List.mem_append.mp hq with hq | hq
    · exact Nf q hq
    · exact Nh q (hb q hq)
theorem RdSt.add {fr : List (Addr × Obj)} {fs : List Addr} {tb : Obj} {d : Addr} (hst : RdSt TB TK g fs S₀ bs ((TB, tb) :: fr) []) (h : @LT.lt Nat _ TB d ∧ AllLt d (fr ++ bs)) (o : Obj) : RdSt TB TK g fs S₀ ((d, o) :: bs) ((TB, tb) :: fr) [] := by
  obtain ⟨arr, fr', e, hTK, hfr, hap, hTB⟩ := hst
  have e2 : fr = fr' := (List.cons.inj e).2
  subst e2
  refine ⟨arr, fr, e, hTK, hfr, fun q hq => ?_, hTB⟩
  rcases List.mem_cons.mp hq with rfl | hq
  · refine ⟨fun hm => ?_, Nat.ne_of_gt h.1⟩
    rw [← hfr.1] at hm
    obtain ⟨q2, hq2, e⟩ := List.mem_map.mp hm
    exact off_of_lt h.2 q2 (List.mem_append_left _ hq2) e
  · exact hap q hq
/-- behind the last comprehension: the ground with the frames again -/
theorem unhid_all {st made : List (Addr × Obj)} {D : Addr} {oD : Obj} {big : List (Addr × Obj)} (B : Below A₀ base l g) (F : Fr (hid g l) L h m) (hst : RdSt TB TK g (frs l) S₀ bs st made) (N : News (hid g l) L h big) (hb : ∀ q ∈ st ++ (made ++ bs), q ∈ big) (hD : (D, oD) ∈ big) (hlt : ∀ q ∈ st, @LT.lt Nat _ q.1 D) :
    ∃ g' arr', KtsTurn (frs l) g g' ∧ Fr g' L h m ∧ TK arr' (made ++ S₀) ∧ News g' L h ((TB, tabObj arr') :: (((D, oD) :: made) ++ bs)) ∧ (∃ fr, st = (TB, tabObj arr') :: fr) := by
  obtain ⟨arr, fr, rfl, hTK, hfr, hap, hTB⟩ := hst
  obtain ⟨g', T', F', B', N'⟩ := unhid B F hfr fun q hq => N q (hb q (List.mem_append_left _ (.tail _ hq)))
  refine ⟨g', arr, T', F', hTK, N' _ (fun q hq => ?_) (fun q hq => ?_), fr, rfl⟩
  · rcases List.mem_cons.mp hq with rfl | hq
    · exact N _ (hb _ (List.mem_append_left _ (.head _)))
    · rcases List.mem_append.mp hq with hq | hq
      · rcases List.mem_cons.mp hq with rfl | hq
        · exact N _ hD
        · exact N _ (hb _ (List.mem_append_right _ (List.mem_append_left _ hq)))
      · exact N _ (hb _ (List.mem_append_right _ (List.mem_append_right _ hq)))
  · rcases List.mem_cons.mp hq with rfl | hq
    · exact hTB
    · rcases List.mem_append.mp hq with hq | hq
      · rcases List.mem_cons.mp hq with rfl | hq
        · intro hm
          rw [← hfr.1] at hm
          obtain ⟨q2, hq2, e⟩ := List.mem_map.mp hm
          exact Nat.ne_of_lt (hlt q2 (.tail _ hq2)) e
        · exact (hap q (List.mem_append_left _ hq)).1
      · exact (hap q (List.mem_append_right _ hq)).1
end
theorem news_rot {h₀ h : Heap} {L : Addr} {a b : Addr × Obj} {x y : List (Addr × Obj)} (N : News h₀ L h (a :: b :: (x ++ y))) : News h₀ L h ((b :: x) ++ (a :: y)) := fun q hq => N q (by
  simp only [List.mem_append, List.mem_cons] at hq ⊢
  rcases hq with (hq | hq) | hq | hq
  · exact .inr (.inl hq)
  · exact .inr (.inr (.inl hq))
  · exact .inl hq
  · exact .inr (.inr (.inr hq)))
theorem strs_fa {f : Tr → Str} : ∀ {us : List (Str × Tok)} {ps : List Tr}, us.map (fun x => x.1) = ps.map f → Fa2 (fun x v => ∃ t : Tok, v = .str (f x) t) ps (strValues us)
  | [], [], _ => .nil
  | (z, t) :: us, p :: ps, e => by
    have e1 := List.cons.inj e
    exact .cons ⟨t, by rw [← show z = f p from e1.1]⟩ (strs_fa e1.2)
/-- the list that the reader gives -/
theorem read_list {D : Addr} {z : Int} {t : Tok} {ys : List Value} {ps : List Tr} {a' n : Nat} {made : List (Addr × Obj)} (hE : Fa2 (fun x y => RdAt made y (dueD x a')) ps ys) : RdAt ((D, listOf (List.toArray ([.int z t] ++ ys)) n) :: made) (.ref D) (.list (.int z :: ps.map fun x => dueD x a')) :=
  rdAt_list (.head _) (.cons (rdAt_int z t) (fa2_flip_map (fun q hq => .tail _ hq) hE))
theorem read_fresh {D TB : Addr} {o o1 o2 : Obj} {made st base news : List (Addr × Obj)} (hm : Fresh made ((TB, o1) :: base)) (hn : ∀ q ∈ news, q ∈ base) (hD : ∀ q ∈ st ++ (made ++ base), @LT.lt Nat _ q.1 D) (hst : ∃ fr ob, st = (TB, ob) :: fr) : Fresh ((D, o) :: made) ((TB, o2) :: news) := by
  obtain ⟨fr, ob, rfl⟩ := hst
  intro x hx y hy
  rcases List.mem_cons.mp hx with rfl | hx
  · rcases List.mem_cons.mp hy with rfl | hy
    · exact hD (TB, ob) (List.mem_append_left _ (.head _))
    · exact hD y (List.mem_append_right _ (List.mem_append_right _ (hn y hy)))
  · rcases List.mem_cons.mp hy with rfl | hy
    · exact hm x hx (TB, o1) (.head _)
    · exact hm x hx y (.tail _ (hn y hy))
theorem leaveT_read {outer : List Env} {fs : List Addr} {h₀ g g' : Heap} {L L' TB : Addr} {m m' : Str → Option Value} {arr : Array Value} {ext bs news : List (Addr × Obj)} {R : Result → Shared → Prop} {v : Value} {s' : Shared} (T : KtsTurn fs g g') (F : Fr g' L' s'.heap m') (N : News g' L' s'.heap ((TB, tabObj arr) :: (ext ++ bs))) (hs : ∀ q ∈ news, q ∈ bs)
    (k : ∀ h₀', KtsTurn (frs outer) h₀ h₀' → Fr h₀' L s'.heap m → News h₀' L s'.heap ((TB, tabObj arr) :: (ext ++ news)) → R (.ok (.ret v)) s') : LeaveT outer fs h₀ L m g R v s' :=
  ⟨g', L', m', _, T, F, fun q hq => N q (by
    rcases List.mem_cons.mp hq with rfl | hq
    · exact .head _
    · rcases List.mem_append.mp hq with hq | hq
      · exact .tail _ (List.mem_append_left _ hq)
      · exact .tail _ (List.mem_append_right _ (hs q hq))), k⟩
end Mine
end
section
open PySem PySem.W PyProof.Rows
set_option Elab.async false
set_option maxRecDepth 100000
namespace Mine
theorem count_one (k : Nat) (l : List Nat) : Txt.count (ofL l) (ofL [k]) = ((l.count k : Nat) : Int) := by
  show Txt.count (ofL l) ⟨#[k]⟩ = _
  rw [count_is, ofL_list]
  induction l with
  | nil => rfl
  | cons c r ih =>
    have e1 : Spec.countIn (.str (⟨#[k]⟩ : Str)) ((c :: r).map fun n => PyData.str ⟨#[n]⟩) = Spec.countIn (.str (⟨#[k]⟩ : Str)) (r.map fun n => PyData.str ⟨#[n]⟩) + (if c = k then 1 else 0) := by
      show (if Spec.same (.str (⟨#[c]⟩ : Str)) (.str (⟨#[k]⟩ : Str)) = true then (1 : Int) else 0) + _ = _
      by_cases h : c = k
      · subst h
        rw [if_pos (by simp [Spec.same]), if_pos rfl, Int.add_comm]
      · rw [if_neg (by simp [Spec.same, h]), if_neg h, Int.add_comm]
    rw [e1, ih, List.count_cons]
    by_cases h : c = k
    · subst h; simp
    · have : (c == k) = false := by simpa using h
      simp [this, h]
theorem count_mark (l : List Nat) : Txt.count (ofL l) (Str.ofString "\"") = ((l.count 34 : Nat) : Int) := by rw [lit_mark]; exact count_one 34 l
theorem quote2_eq (w r : List Nat) : ofL (quoteL 2 w ++ r) = Str.ofString "257 \"" ++ ofL (dblL w ++ 34 :: r) := by
  unfold quoteL
  rw [if_neg (by decide), lit_257q, ofL_append]
  congr 1
  simp
theorem quote2_len (w : List Nat) : (quoteL 2 w).length = 6 + w.length + w.count 34 := by
  unfold quoteL
  rw [if_neg (by decide)]
  simp only [List.length_cons, List.length_append, List.length_nil, dbl_len]
  omega
theorem slice_quote (w r : List Nat) (z : Int) (hz : z = 6 + (w.length : Int) + (w.count 34 : Nat)) : Txt.slice (ofL (quoteL 2 w ++ r)) (some z) none = ofL r := by
  have e : z = ((quoteL 2 w).length : Nat) := by rw [quote2_len]; omega
  rw [e, slice_from _ _ (by simp), List.drop_left]
theorem q2_head (ws : List (List Nat)) : (qL 2 ws).head? ≠ some 34 := by
  cases ws with
  | nil => simp [qL]
  | cons w r =>
    rw [qL_cons]; unfold quoteL; rw [if_neg (by decide)]; simp
theorem tell_quote (w r : List Nat) (hr : r.head? ≠ some 34) : tellS (ofL (dblL w ++ 34 :: r)) = ofL w := by
  unfold tellS
  rw [ofL_list, tell_dbl w r hr]
theorem append_strs {prog : Program} {w : World} {A : Around} {E : Value → Shared → Prop} {s : Shared} {h₀ : Heap} {L D : Addr} {m : Str → Option Value} {news news' : List (Addr × Obj)} {us : List (Str × Tok)} {n : Nat} {x : Str} {t : Tok} {Q : Value → Shared → Prop} (F : Fr h₀ L s.heap m) (N : News h₀ L s.heap news)
    (U : Upd D (listOf (strValues us).toArray n) (listOf (strValues (us ++ [(x, t)])).toArray (n + 1)) news news') (hz : us.length ≤ 1000000)
    (h : ∀ h', Fr h₀ L h' m → News h₀ L h' news' → Q .none { s with heap := h' }) : wpAny (model prog w) A (call (.builtin "list.append") [.ref D, .str x t]) Q E s := by
  refine append_K F N (its := (strValues us).toArray) (n := n) ?_ h ?_
  · have e : (strValues us).toArray.push (.str x t) = (strValues (us ++ [(x, t)])).toArray := by simp [strValues]
    rw [e]; exact U
  · rw [sizeLine_eq]; simp only [strValues, List.size_toArray, List.length_map]; omega
abbrev rdQual : Str := Str.ofString "_law_read" ++ ".<locals>." ++ Str.ofString "<lambda>"
abbrev TKr : Array Value → List (Addr × Obj) → Prop := TabOkG 118 22 rdQual
theorem qf_len {ws : List (List Nat)} (h : (qL 1 ws).length ≤ 200000) : (ofL (qL 1 ws)).length ≤ 300000 := by rw [ofL_length]; omega
theorem qf_head {ws : List (List Nat)} (h : ws ≠ []) : ∃ r, qL 1 ws = 34 :: r := by
  cases ws with
  | nil => exact absurd rfl h
  | cons w r => exact ⟨escL w ++ [34] ++ qL 1 r, by rw [qL_cons]; unfold quoteL; rw [if_pos rfl]; rfl⟩
theorem qf_first {ws : List (List Nat)} (h : ws ≠ []) (y : Str) (c : Nat) (hy : y = ofL [c]) : (Txt.slice (ofL (qL 1 ws)) none (some 1) == y) = (34 == c) := by
  obtain ⟨r, e⟩ := qf_head h
  subst hy
  rw [e]
  have e2 : Txt.slice (ofL (34 :: r)) none (some 1) = ofL [34] := slice_to _ 1 (by simp)
  rw [e2, ofL_beq]
  by_cases h : 34 = c
  · subst h; rfl
  · rw [show (34 == c) = false by simpa using h]; simpa using h
theorem ne_lam {h₀ h : Heap} {L x y : Addr} {o1 o2 : Obj} {S : List (Addr × Obj)} {qual : Str} (N : News h₀ L h S) (hl : LamIs qual o1) (h1 : (x, o1) ∈ S) (h2 : (y, o2) ∈ S) (hd : ∀ vs, o2.data ≠ .fields vs) : @Ne Nat x y := fun e => by
  have a1 := (N _ h1).1
  have a2 := (N _ h2).1
  have e' : x = y := e
  subst e'
  have e3 : o1 = o2 := Option.some.inj (a1.symm.trans a2)
  obtain ⟨vs, t, d1, _⟩ := hl
  exact hd vs (e3 ▸ d1)
theorem sg_rd {S : List (Addr × Obj)} : ∀ u : List (Str × Tok), Fa2 (RdAt S) (strValues u) (u.map fun z => PyData.str z.1)
  | [] => .nil
  | (z, t) :: u => .cons (rdAt_str z t) (sg_rd u)
theorem sg_lay : ∀ {u : List (Str × Tok)}, (∀ z ∈ u, PyData.strOk z.1 = true) → PyData.canLayAll0 (u.map fun z => PyData.str z.1) = true ∧ PyData.depthAll (u.map fun z => PyData.str z.1) ≤ 1
  | [], _ => ⟨rfl, by simp [PyData.depthAll]⟩
  | z :: u, h => by
    have e := sg_lay fun y hy => h y (.tail _ hy)
    refine ⟨?_, ?_⟩
    · simp [PyData.canLayAll0, PyData.canLay0, e.1, h z (.head _)]
    · simp only [List.map_cons, PyData.depthAll, PyData.depth]; omega
theorem ne_nil_sg {prog : Program} {w : World} {A : Around} {E : Value → Shared → Prop} {s : Shared} {h₀ : Heap} {L D b : Addr} {n : Nat} {S : List (Addr × Obj)} {u : List (Str × Tok)} {Q : Value → Shared → Prop}
    (N : News h₀ L s.heap S) (hD : (D, sgObj u n) ∈ S) (hb : s.heap.IsList b #[]) (hok : ∀ z ∈ u, PyData.strOk z.1 = true) (hu : A.units + 64 < cLine) (h : Q (.bool (!decide (u = []))) s) :
    wpAny (model prog w) A (compareOp .NotEq (.ref D) (.ref b)) Q E s := by
  have e : (strValues u).reverse = strValues u.reverse := by unfold strValues; rw [List.map_reverse]
  have h1 : RdAt S (.ref D) (.list (u.reverse.map fun z => PyData.str z.1)) := rdAt_list (vs := (strValues u).reverse) (c := n) hD (by rw [e]; exact sg_rd _)
  obtain ⟨as, h2⟩ := h1 _ _ _ N
  have h3 := sg_lay (u := u.reverse) fun z hz => hok z (List.mem_reverse.mp hz)
  refine ne_dataH h2 (reads_newData hb .nil) ?_ rfl hu ?_
  · refine Bool.and_eq_true_iff.mpr ⟨by simp only [PyData.canLay0]; exact h3.1, decide_eq_true ?_⟩
    have h4 := h3.2
    simp only [PyData.depth]; omega
  · cases u with
    | nil => exact h
    | cons z r =>
      cases e2 : (z :: r).reverse with
      | nil => have := congrArg List.length e2; simp at this
      | cons y r2 => exact h
theorem sg_ok {l : List Nat} {u : List (Str × Tok)} (hS : SgOf l u) (hl : ∀ c ∈ l, SgnOk c) : ∀ z ∈ u, PyData.strOk z.1 = true := fun z hz => by
  have hm : z.1 ∈ u.map (fun x => x.1) := List.mem_map_of_mem hz
  rw [hS] at hm
  obtain ⟨c, hc, e⟩ := List.mem_map.mp hm
  rw [← e]
  exact strOk_sgn fun d hd => by rw [List.mem_singleton.mp hd]; exact hl c hc
theorem quote1_eq (w r : List Nat) : quoteL 1 w ++ r = 34 :: (escL w ++ 34 :: r) := by
  unfold quoteL
  rw [if_pos rfl]; simp
theorem qL_append (k : Nat) (xs ys : List (List Nat)) : qL k (xs ++ ys) = qL k xs ++ qL k ys := by unfold qL; rw [List.flatMap_append]
theorem count_q1 (ps : List Tr) (a' : Nat) : (((qL 1 (ps.map fun x => wrA x a')).count 10 : Nat) : Int) = ((dueF ps a' : Nat) : Int) := by
  rw [qL_count, dueF_sum, List.map_map]; rfl
theorem news_mid {h₀ h : Heap} {L : Addr} {b p q : Addr × Obj} {x y z : List (Addr × Obj)} (N : News h₀ L h (b :: (x ++ (p :: q :: (y ++ z))))) : News h₀ L h (b :: ((x ++ y) ++ z)) := fun r hr => N r (by
  simp only [List.mem_append, List.mem_cons] at hr ⊢
  rcases hr with hr | (hr | hr) | hr
  · exact .inl hr
  · exact .inr (.inl hr)
  · exact .inr (.inr (.inr (.inr (.inl hr))))
  · exact .inr (.inr (.inr (.inr (.inr hr)))))
theorem fresh_app {x y b : List (Addr × Obj)} (h1 : Fresh x b) (h2 : Fresh y b) : Fresh (x ++ y) b := fun p hp q hq => (List.mem_append.mp hp).elim (fun z => h1 p z q hq) fun z => h2 p z q hq
def LamOpen : Prop := True
def TrOpen : Prop := True
end Mine
end
section
open PySem PySem.W PyProof.Rows
set_option Elab.async false
set_option maxRecDepth 100000
namespace Mine
theorem esc_sgn : ∀ {w : List Nat}, (∀ c ∈ w, SgnOk c) → ∀ c ∈ escL w, SgnOk c
  | [], _, c, hc => nomatch hc
  | d :: w, h, c, hc => by
    have ih := esc_sgn (w := w) fun c hc => h c (.tail _ hc)
    have hd := h d (.head _)
    by_cases h1 : d = 92
    · subst h1; rw [esc_b] at hc
      rcases List.mem_cons.mp hc with rfl | hc
      · exact hd
      · rcases List.mem_cons.mp hc with rfl | hc
        · exact hd
        · exact ih c hc
    · by_cases h2 : d = 34
      · subst h2; rw [esc_m] at hc
        rcases List.mem_cons.mp hc with rfl | hc
        · show (92 : Nat) < 1114112; decide
        · rcases List.mem_cons.mp hc with rfl | hc
          · exact hd
          · exact ih c hc
      · rw [esc_o h1 h2] at hc
        rcases List.mem_cons.mp hc with rfl | hc
        · exact hd
        · exact ih c hc
theorem dbl_sgn : ∀ {w : List Nat}, (∀ c ∈ w, SgnOk c) → ∀ c ∈ dblL w, SgnOk c
  | [], _, c, hc => nomatch hc
  | d :: w, h, c, hc => by
    have ih := dbl_sgn (w := w) fun c hc => h c (.tail _ hc)
    have hd := h d (.head _)
    by_cases h2 : d = 34
    · subst h2; rw [dbl_m] at hc
      rcases List.mem_cons.mp hc with rfl | hc
      · exact hd
      · rcases List.mem_cons.mp hc with rfl | hc
        · exact hd
        · exact ih c hc
    · rw [dbl_o h2] at hc
      rcases List.mem_cons.mp hc with rfl | hc
      · exact hd
      · exact ih c hc
theorem quote_sgn (k : Nat) {w : List Nat} (h : ∀ c ∈ w, SgnOk c) : ∀ c ∈ quoteL k w, SgnOk c := by
  intro c hc
  have h34 : SgnOk 34 := by show (34 : Nat) < 1114112; decide
  unfold quoteL at hc
  split at hc
  · rcases List.mem_cons.mp hc with rfl | hc
    · exact h34
    · rcases List.mem_append.mp hc with hc | hc
      · exact esc_sgn h c hc
      · rw [List.mem_singleton.mp hc]; exact h34
  · simp only [List.mem_cons, List.mem_append, List.not_mem_nil, or_false] at hc
    rcases hc with rfl | rfl | rfl | rfl | rfl | hc | rfl
    · show (50 : Nat) < 1114112; decide
    · show (53 : Nat) < 1114112; decide
    · show (55 : Nat) < 1114112; decide
    · show (32 : Nat) < 1114112; decide
    · exact h34
    · exact dbl_sgn h c hc
    · exact h34
theorem qL_sgn (k : Nat) : ∀ {ws : List (List Nat)}, (∀ w ∈ ws, ∀ c ∈ w, SgnOk c) → ∀ c ∈ qL k ws, SgnOk c
  | [], _, c, hc => nomatch hc
  | w :: ws, h, c, hc => by
    rw [qL_cons] at hc
    rcases List.mem_append.mp hc with hc | hc
    · exact quote_sgn k (h w (.head _)) c hc
    · exact qL_sgn k (fun w hw => h w (.tail _ hw)) c hc
theorem wrT_sgn : ∀ (n : Nat) (t : Tr), TOk n t → ∀ c ∈ wrT t, SgnOk c := by
  have leaf : ∀ (q : Nat) (t : List Nat), (∀ c ∈ t, SgnOk c) → ∀ c ∈ wrT (.leaf q t), SgnOk c := by
    intro q t h c hc
    rw [wrT_leaf] at hc
    rcases List.mem_cons.mp hc with rfl | hc
    · show (61 : Nat) < 1114112; decide
    · exact sgn_sendN _ _ _ h c hc
  intro n
  induction n with
  | zero =>
    intro t h
    cases t with
    | leaf q t => exact leaf q t h.2.2
    | node k q ps => exact h.elim
  | succ n ih =>
    intro t h
    cases t with
    | leaf q t => exact leaf q t h.2.2
    | node k q ps =>
      rw [wrT_node]
      refine sgn_sendN _ _ _ (qL_sgn k fun w hw => ?_)
      obtain ⟨p, hp, rfl⟩ := List.mem_map.mp hw
      exact ih p (h.2.2 p hp)
theorem wrA_sgn {n : Nat} {t : Tr} (a : Nat) (h : TOk n t) : ∀ c ∈ wrA t a, SgnOk c := sgn_sendN _ _ _ (wrT_sgn n t h)
end Mine
end
section
open PySem PySem.W PyProof.Rows
set_option Elab.async false
set_option maxRecDepth 100000
namespace Mine
/-! the rows that stand open while the tree is built -/
structure Fm where
  R : Addr
  l : Addr
  k : Nat
  q : Nat
  t0 : Tok
  t1 : Tok
  c : Nat
  c' : Nat
  vs : List Value
  ps : List Tr
abbrev Fm.obj (f : Fm) : Obj := listOf #[.int (f.k : Int) f.t0, .int (f.q : Int) f.t1, .ref f.l] f.c
def lowLed : Addr → List Fm → List (Addr × Obj)
  | _, [] => []
  | Ra, f :: fs => (f.l, listOf (List.toArray (f.vs ++ [.ref Ra])) f.c') :: (f.R, f.obj) :: lowLed f.R fs
def FmOk (S : List (Addr × Obj)) (n : Nat) (f : Fm) : Prop := (f.k = 1 ∨ f.k = 2) ∧ f.q ≤ 2 ∧ (∀ x ∈ f.ps, TOk n x) ∧ Fa2 (TAt S n) f.ps f.vs
def FsOk (S : List (Addr × Obj)) : Nat → List Fm → Prop
  | _, [] => True
  | n, f :: fs => FmOk S n f ∧ FsOk S (n + 1) fs
theorem FmOk.mono {S S' : List (Addr × Obj)} {n : Nat} {f : Fm} (h : FmOk S n f) (hs : ∀ q ∈ S, q ∈ S') : FmOk S' n f := ⟨h.1, h.2.1, h.2.2.1, h.2.2.2.mono fun _ _ z => z.mono hs⟩
theorem FsOk.mono {S S' : List (Addr × Obj)} (hs : ∀ q ∈ S, q ∈ S') : ∀ {fs : List Fm} {n : Nat}, FsOk S n fs → FsOk S' n fs
  | [], _, _ => trivial
  | _ :: _, _, h => ⟨h.1.mono hs, FsOk.mono hs h.2⟩
def rowsV (fs : List Fm) : List Value := fs.reverse.map fun f => .ref f.R
def szFs : List Fm → Nat
  | [] => 0
  | f :: fs => szTs f.ps + 1 + szFs fs
def rootOf (R : Addr) : List Fm → Addr
  | [] => R
  | f :: fs => rootOf f.R fs
abbrev treeLed (RW : Addr) (crw : Nat) (f : Fm) (fs : List Fm) (tail : List (Addr × Obj)) : List (Addr × Obj) :=
  (RW, listOf (List.toArray (rowsV fs ++ [.ref f.R])) crw) :: (f.l, listOf (List.toArray f.vs) f.c') :: (f.R, f.obj) :: (lowLed f.R fs ++ tail)
def adrs (l : List (Addr × Obj)) : List Nat := l.map fun p => p.1
def ND (l : List Nat) : Prop := ∀ a, l.count a ≤ 1
theorem adrs_cons (p : Addr × Obj) (l : List (Addr × Obj)) : adrs (p :: l) = p.1 :: adrs l := rfl
theorem adrs_app (x y : List (Addr × Obj)) : adrs (x ++ y) = adrs x ++ adrs y := List.map_append
theorem count_lt {l : List (Addr × Obj)} {a : Nat} (h : ∀ p ∈ l, @LT.lt Nat _ p.1 a) : (adrs l).count a = 0 := by
  rw [List.count_eq_zero]
  intro hm
  obtain ⟨p, hp, e⟩ := List.mem_map.mp hm
  exact Nat.ne_of_lt (h p hp) e
/-- the state of the loop -/
structure TreeSt (I RW R0 : Addr) (base : List (Addr × Obj)) (n : Nat) (news : List (Addr × Obj)) (f : Fm) (fs : List Fm) (made : List (Addr × Obj)) (crw : Nat) : Prop where
  led : news = treeLed RW crw f fs (made ++ base)
  len : fs.length ≤ 2
  top : FmOk made (2 - fs.length) f
  low : FsOk made (3 - fs.length) fs
  sz : szTs f.ps + 1 + szFs fs + n ≤ 9
  root : rootOf f.R fs = R0
  nd : ND (I :: adrs (treeLed RW crw f fs made))
  off : ∀ y ∈ base, @Ne Nat y.1 I
  fresh : ∀ p ∈ treeLed RW crw f fs made, ∀ y ∈ base, @LT.lt Nat _ y.1 p.1
section
variable {I RW R0 : Addr} {base news made : List (Addr × Obj)} {n : Nat} {f : Fm} {fs : List Fm} {crw : Nat}
theorem szTs_snoc (ps : List Tr) (t : Tr) : szTs (ps ++ [t]) = szTs ps + szT t := by
  rw [szTs_append, szTs_cons]; simp [szTs]
theorem treeLed_adrs (RW : Addr) (crw : Nat) (f : Fm) (fs : List Fm) (tail : List (Addr × Obj)) : adrs (treeLed RW crw f fs tail) = RW :: f.l :: f.R :: (adrs (lowLed f.R fs) ++ adrs tail) := by
  show RW :: f.l :: f.R :: adrs (lowLed f.R fs ++ tail) = _
  rw [adrs_app]
theorem treeLed_sub {base : List (Addr × Obj)} : ∀ q ∈ treeLed RW crw f fs made, q ∈ treeLed RW crw f fs (made ++ base) := fun q hq => by
  rcases List.mem_cons.mp hq with rfl | hq
  · exact .head _
  · rcases List.mem_cons.mp hq with rfl | hq
    · exact .tail _ (.head _)
    · rcases List.mem_cons.mp hq with rfl | hq
      · exact .tail _ (.tail _ (.head _))
      · rcases List.mem_append.mp hq with hq | hq
        · exact .tail _ (.tail _ (.tail _ (List.mem_append_left _ hq)))
        · exact .tail _ (.tail _ (.tail _ (List.mem_append_right _ (List.mem_append_left _ hq))))
theorem tok_leaf {n q : Nat} {t : List Nat} (h : q ≤ 2 ∧ t.length ≤ 5 ∧ ∀ c ∈ t, SgnOk c) : TOk n (.leaf q t) := by cases n <;> exact h
/-- a leaf is laid -/
theorem TreeSt.leaf (h : TreeSt I RW R0 base (n + 1) news f fs made crw) {LF : Addr} {o : Obj} {q : Nat} {t : List Nat} {u0 u1 u2 : Tok} {c : Nat} (ho : o = listOf #[.int 0 u0, .int (q : Int) u1, .str (ofL t) u2] c) (hq : q ≤ 2) (ht : t.length ≤ 5) (hs : ∀ c ∈ t, SgnOk c)
    (hI : @LT.lt Nat _ I LF) (hlt : ∀ p ∈ news, @LT.lt Nat _ p.1 LF) :
    TreeSt I RW R0 base n (treeLed RW crw { f with vs := f.vs ++ [.ref LF], ps := f.ps ++ [.leaf q t], c' := f.c' + 1 } fs (((LF, o) :: made) ++ base)) { f with vs := f.vs ++ [.ref LF], ps := f.ps ++ [.leaf q t], c' := f.c' + 1 } fs ((LF, o) :: made) crw := by
  subst ho
  have hnew := h.led
  subst hnew
  refine ⟨rfl, h.len, ?_, h.low.mono fun _ hq => .tail _ hq, ?_, h.root, ?_, h.off, ?_⟩
  · obtain ⟨hk, hq', hp, hf⟩ := h.top
    refine ⟨hk, hq', fun x hx => ?_, (hf.mono fun _ _ z => z.mono fun _ hq => .tail _ hq).snoc ?_⟩
    · rcases List.mem_append.mp hx with hx | hx
      · exact hp x hx
      · rw [List.mem_singleton.mp hx]
        exact tok_leaf ⟨hq, ht, hs⟩
    · show TAt _ (2 - fs.length) (.leaf q t) _
      have : ∀ m, TAt ((LF, listOf #[.int 0 u0, .int (q : Int) u1, .str (ofL t) u2] c) :: made) m (.leaf q t) (.ref LF) := fun m => by
        cases m <;> exact ⟨LF, c, u0, u1, u2, rfl, .head _⟩
      exact this _
  · have := h.sz
    show szTs (f.ps ++ [.leaf q t]) + 1 + szFs fs + n ≤ 9
    rw [szTs_snoc, szT]; omega
  · intro a
    have h1 := h.nd a
    have h2 := count_lt (l := treeLed RW crw f fs made) fun p hp => hlt p (treeLed_sub p hp)
    rw [treeLed_adrs, List.count_cons] at h1 ⊢
    rw [treeLed_adrs] at h2
    simp only [List.count_cons, List.count_append, List.cons_append, adrs_cons, adrs_app] at h1 h2 ⊢
    by_cases e : LF = a
    · subst e
      have e1 : ¬ ((I == LF) = true) := by simpa using Nat.ne_of_lt hI
      rw [if_neg e1] at h1 ⊢
      simp only [beq_self_eq_true, if_true]
      omega
    · have e1 : ¬ ((LF == a) = true) := by simpa using e
      rw [if_neg e1]
      omega
  · intro p hp y hy
    have h3 := h.fresh
    have hb : @LT.lt Nat _ y.1 LF := Nat.lt_trans (h3 _ (.head _) y hy) (hlt _ (.head _))
    rcases List.mem_cons.mp hp with rfl | hp
    · exact h3 _ (.head _) y hy
    · rcases List.mem_cons.mp hp with rfl | hp
      · exact h3 (f.l, _) (.tail _ (.head _)) y hy
      · rcases List.mem_cons.mp hp with rfl | hp
        · exact h3 (f.R, _) (.tail _ (.tail _ (.head _))) y hy
        · rcases List.mem_append.mp hp with hp | hp
          · exact h3 p (.tail _ (.tail _ (.tail _ (List.mem_append_left _ hp)))) y hy
          · rcases List.mem_cons.mp hp with rfl | hp
            · exact hb
            · exact h3 p (.tail _ (.tail _ (.tail _ (List.mem_append_right _ hp)))) y hy
/-- a row is opened -/
theorem TreeSt.open (h : TreeSt I RW R0 base (n + 1) news f fs made crw) (hl : fs.length < 2) {R l : Addr} {k q : Nat} {u0 u1 : Tok} {c c2 crw' : Nat} (hk : k = 1 ∨ k = 2) (hq : q ≤ 2)
    (hIl : @LT.lt Nat _ I l) (hlR : @LT.lt Nat _ l R) (hlt : ∀ p ∈ news, @LT.lt Nat _ p.1 l) :
    TreeSt I RW R0 base n (treeLed RW crw' ⟨R, l, k, q, u0, u1, c, c2, [], []⟩ ({ f with c' := f.c' + 1 } :: fs) (made ++ base)) ⟨R, l, k, q, u0, u1, c, c2, [], []⟩ ({ f with c' := f.c' + 1 } :: fs) made crw' := by
  have hnew := h.led
  subst hnew
  refine ⟨rfl, by simp only [List.length_cons]; omega, ⟨hk, hq, (by intro x hx; cases hx), Fa2.nil⟩, ⟨?_, ?_⟩, ?_, h.root, ?_, h.off, ?_⟩
  · have e : 3 - ({ f with c' := f.c' + 1 } :: fs).length = 2 - fs.length := by simp only [List.length_cons]; omega
    rw [e]; exact h.top
  · have e : 3 - ({ f with c' := f.c' + 1 } :: fs).length + 1 = 3 - fs.length := by simp only [List.length_cons]; omega
    rw [e]; exact h.low
  · have := h.sz
    show szTs [] + 1 + (szTs f.ps + 1 + szFs fs) + n ≤ 9
    simp only [szTs]; omega
  · intro a
    have h1 := h.nd a
    have h2 := count_lt (l := treeLed RW crw f fs made) fun p hp => hlt p (treeLed_sub p hp)
    have h3 := count_lt (l := treeLed RW crw f fs made) (a := R) fun p hp => Nat.lt_trans (hlt p (treeLed_sub p hp)) hlR
    rw [treeLed_adrs, List.count_cons] at h1 ⊢
    rw [treeLed_adrs] at h2 h3
    simp only [List.count_cons, List.count_append, List.cons_append, lowLed, adrs_cons, adrs_app] at h1 h2 h3 ⊢
    by_cases e : l = a
    · subst e
      have e1 : ¬ ((I == l) = true) := by simpa using Nat.ne_of_lt hIl
      have e2 : ¬ ((R == l) = true) := by simpa using Nat.ne_of_gt hlR
      rw [if_neg e1] at h1 ⊢
      rw [if_neg e2]
      simp only [beq_self_eq_true, if_true]
      omega
    · have e0 : ¬ ((l == a) = true) := by simpa using e
      rw [if_neg e0]
      by_cases e2 : R = a
      · subst e2
        have e1 : ¬ ((I == R) = true) := by simpa using Nat.ne_of_lt (Nat.lt_trans hIl hlR)
        rw [if_neg e1] at h1 ⊢
        simp only [beq_self_eq_true, if_true]
        omega
      · have e3 : ¬ ((R == a) = true) := by simpa using e2
        rw [if_neg e3]
        omega
  · intro p hp y hy
    have h3 := h.fresh
    have hb : @LT.lt Nat _ y.1 l := Nat.lt_trans (h3 _ (.head _) y hy) (hlt _ (.head _))
    rcases List.mem_cons.mp hp with rfl | hp
    · exact h3 (RW, _) (.head _) y hy
    · rcases List.mem_cons.mp hp with rfl | hp
      · exact hb
      · rcases List.mem_cons.mp hp with rfl | hp
        · exact Nat.lt_trans hb hlR
        · rcases List.mem_append.mp hp with hp | hp
          · rcases List.mem_cons.mp hp with rfl | hp
            · exact h3 (f.l, _) (.tail _ (.head _)) y hy
            · rcases List.mem_cons.mp hp with rfl | hp
              · exact h3 (f.R, _) (.tail _ (.tail _ (.head _))) y hy
              · exact h3 p (.tail _ (.tail _ (.tail _ (List.mem_append_left _ hp)))) y hy
          · exact h3 p (.tail _ (.tail _ (.tail _ (List.mem_append_right _ hp)))) y hy
/-- the row opened last is closed -/
theorem TreeSt.pop {f0 : Fm} (h : TreeSt I RW R0 base (n + 1) news f (f0 :: fs) made crw) {crw' : Nat} :
    TreeSt I RW R0 base n (treeLed RW crw' { f0 with vs := f0.vs ++ [.ref f.R], ps := f0.ps ++ [.node f.k f.q f.ps] } fs (((f.l, listOf (List.toArray f.vs) f.c') :: (f.R, f.obj) :: made) ++ base)) { f0 with vs := f0.vs ++ [.ref f.R], ps := f0.ps ++ [.node f.k f.q f.ps] } fs ((f.l, listOf (List.toArray f.vs) f.c') :: (f.R, f.obj) :: made) crw' := by
  have hnew := h.led
  subst hnew
  have hl := h.len
  simp only [List.length_cons] at hl
  obtain ⟨hk, hq, hp, hf⟩ := h.top
  obtain ⟨⟨hk0, hq0, hp0, hf0⟩, hlow⟩ := h.low
  have e1 : 3 - (f0 :: fs).length = 2 - fs.length := by simp only [List.length_cons]; omega
  have e2 : 2 - fs.length = (2 - (f0 :: fs).length) + 1 := by simp only [List.length_cons]; omega
  rw [e1] at hp0 hf0 hlow
  have e3 : 2 - fs.length + 1 = 3 - fs.length := by omega
  rw [e3] at hlow
  refine ⟨rfl, by omega, ⟨hk0, hq0, fun x hx => ?_, (hf0.mono fun _ _ z => z.mono fun _ hq => .tail _ (.tail _ hq)).snoc ?_⟩, hlow.mono fun _ hq => .tail _ (.tail _ hq), ?_, h.root, ?_, h.off, ?_⟩
  · rcases List.mem_append.mp hx with hx | hx
    · exact hp0 x hx
    · rw [List.mem_singleton.mp hx, e2]
      exact ⟨hk, hq, hp⟩
  · rw [e2]
    exact ⟨f.R, f.c, f.l, f.vs, f.c', f.t0, f.t1, rfl, .tail _ (.head _), .head _, hf.mono fun _ _ z => z.mono fun _ hq => .tail _ (.tail _ hq)⟩
  · have := h.sz
    simp only [szFs] at this
    show szTs (f0.ps ++ [.node f.k f.q f.ps]) + 1 + szFs fs + n ≤ 9
    rw [szTs_snoc, szT_node]; omega
  · intro a
    have h1 := h.nd a
    rw [treeLed_adrs, List.count_cons] at h1 ⊢
    simp only [List.count_cons, List.count_append, List.cons_append, lowLed, adrs_cons, adrs_app] at h1 ⊢
    omega
  · intro p hp y hy
    have h3 := h.fresh
    rcases List.mem_cons.mp hp with rfl | hp
    · exact h3 (RW, _) (.head _) y hy
    · rcases List.mem_cons.mp hp with rfl | hp
      · exact h3 (f0.l, _) (.tail _ (.tail _ (.tail _ (List.mem_append_left _ (.head _))))) y hy
      · rcases List.mem_cons.mp hp with rfl | hp
        · exact h3 (f0.R, _) (.tail _ (.tail _ (.tail _ (List.mem_append_left _ (.tail _ (.head _)))))) y hy
        · rcases List.mem_append.mp hp with hp | hp
          · exact h3 p (.tail _ (.tail _ (.tail _ (List.mem_append_left _ (.tail _ (.tail _ hp)))))) y hy
          · rcases List.mem_cons.mp hp with rfl | hp
            · exact h3 (f.l, _) (.tail _ (.head _)) y hy
            · rcases List.mem_cons.mp hp with rfl | hp
              · exact h3 (f.R, _) (.tail _ (.tail _ (.head _))) y hy
              · exact h3 p (.tail _ (.tail _ (.tail _ (List.mem_append_right _ hp)))) y hy
/-- the tree at the end -/
theorem close_tree : ∀ (fs : List Fm) (S : List (Addr × Obj)) (n : Nat) (R : Addr) (t : Tr), TOk n t → TAt S n t (.ref R) → FsOk S n fs → (∀ q ∈ lowLed R fs, q ∈ S) → ∃ t', TOk (n + fs.length) t' ∧ szT t' = szT t + szFs fs ∧ TAt S (n + fs.length) t' (.ref (rootOf R fs))
  | [], S, n, R, t, h1, h2, _, _ => ⟨t, h1, by simp [szFs], h2⟩
  | f :: fs, S, n, R, t, h1, h2, ⟨⟨hk, hq, hp, hf⟩, h4⟩, h5 => by
    obtain ⟨t', a, b, c⟩ := close_tree fs S (n + 1) f.R (.node f.k f.q (f.ps ++ [t])) ⟨hk, hq, fun x hx => by
      rcases List.mem_append.mp hx with hx | hx
      · exact hp x hx
      · rw [List.mem_singleton.mp hx]; exact h1⟩ ⟨f.R, f.c, f.l, f.vs ++ [.ref R], f.c', f.t0, f.t1, rfl, h5 _ (.tail _ (.head _)), h5 _ (.head _), hf.snoc h2⟩ h4 fun q hq => h5 q (.tail _ (.tail _ hq))
    refine ⟨t', ?_, ?_, ?_⟩
    · have e : n + (f :: fs).length = n + 1 + fs.length := by simp only [List.length_cons]; omega
      rw [e]; exact a
    · rw [b, szT_node, szTs_snoc]
      simp only [szFs]; omega
    · have e : n + (f :: fs).length = n + 1 + fs.length := by simp only [List.length_cons]; omega
      rw [e]; exact c
theorem TreeSt.close (h : TreeSt I RW R0 base n news f fs made crw) : ∃ t, TOk 3 t ∧ szT t ≤ 9 ∧ TAt (treeLed RW crw f fs made) 3 t (.ref R0) := by
  have hl := h.len
  obtain ⟨hk, hq, hp, hf⟩ := h.top
  have hm : ∀ q ∈ made, q ∈ treeLed RW crw f fs made := fun q hq => .tail _ (.tail _ (.tail _ (List.mem_append_right _ hq)))
  have e3 : 2 - fs.length + 1 = 3 - fs.length := by omega
  obtain ⟨t, a, b, c⟩ := close_tree fs (treeLed RW crw f fs made) (2 - fs.length + 1) f.R (.node f.k f.q f.ps) ⟨hk, hq, hp⟩ ⟨f.R, f.c, f.l, f.vs, f.c', f.t0, f.t1, rfl, .tail _ (.tail _ (.head _)), .tail _ (.head _), hf.mono fun _ _ z => z.mono hm⟩ (by rw [e3]; exact h.low.mono hm) (fun q hq => .tail _ (.tail _ (.tail _ (List.mem_append_left _ hq))))
  have e : 2 - fs.length + 1 + fs.length = 3 := by omega
  rw [e] at a c
  refine ⟨t, a, ?_, h.root ▸ c⟩
  have := h.sz
  rw [b, szT_node]; omega
end
end Mine
end
section
open PySem PySem.W PyProof.Rows
set_option Elab.async false
set_option maxRecDepth 100000
namespace Mine
section
variable {prog : Program} {w : World} {A : Around} {E : Value → Shared → Prop} {s : Shared} {env : Env} {h₀ : Heap} {x : Str} {body : List Stmt} {Q : Flow → Shared → Prop} {I : Addr} {lp : Addr × Obj}
/-- a loop over a list of the ledger, by an own invariant -/
theorem list_inv (J : List Value → (Str → Option Value) → List (Addr × Obj) → Prop) (hlp : ∀ vs m news, J vs m news → lp ∈ news)
    (hend : ∀ m news h tk, J [] m news → Fr h₀ env.locals h m → News h₀ env.locals h news → Q .next { s with heap := h, toks := tk })
    (step : ∀ v r m news (it : Obj) h tk, J (v :: r) m news → it.cls = .type "list_iterator" → Fr h₀ env.locals h (fun y => if y = x then some v else m y) → News h₀ env.locals h ((I, it) :: news) →
      wpAny (model prog w) A (execs body env) (UnrPost h₀ env.locals { s with heap := h, toks := tk } I it (J r) Q) E { s with heap := h, toks := tk }) :
    ∀ (vs : List Value) (m : Str → Option Value) (news : List (Addr × Obj)), J vs m news → ListRest prog w A E h₀ env x body Q s I lp vs m news := by
  intro vs
  induction vs with
  | nil => intro m news hJ; exact ListRest.zero fun h tk F N => hend m news h tk hJ F N
  | cons v r ih =>
    intro m news hJ
    refine ListRest.succ fun it h tk hit F N => ?_
    refine wpAny_mono (step v r m news it h tk hJ hit F N) (fun f s₂ hp => ?_) fun _ _ e => e
    have key : ∀ s₂, UnrEnd h₀ env.locals { s with heap := h, toks := tk } I it (J r) s₂ → UnrEnd h₀ env.locals { s with heap := h, toks := tk } I it (fun m' n' => lp ∈ n' ∧ ListRest prog w A E h₀ env x body Q s I lp r m' n') s₂ := by
      rintro s₂ ⟨h', tk', m', news', e, F', N', off, hJ'⟩
      exact ⟨h', tk', m', news', e, F', N', off, hlp _ _ _ hJ', ih m' news' hJ'⟩
    cases f with
    | next => exact key _ hp
    | cont => exact key _ hp
    | brk => exact hp
    | ret v => exact hp
end
section
variable {prog : Program} {w : World} {A : Around} {E : Value → Shared → Prop} {s : Shared} {h₀ : Heap} {L D : Addr} {m : Str → Option Value} {news news' : List (Addr × Obj)} {n : Nat} {Q : Value → Shared → Prop}
theorem rowsV_len (fs : List Fm) : (rowsV fs).length = fs.length := by unfold rowsV; rw [List.length_map, List.length_reverse]
theorem len_rows {fs : List Fm} {v : Value} (hl : s.heap.IsList D (List.toArray (rowsV fs ++ [v]))) (hz : fs.length ≤ 2) (h : Q (.int ((fs.length : Int) + 1) (s.toks + 1)) { s with toks := s.toks + 1 + 1 }) : wpAny (model prog w) A (call (.builtin "len") [.ref D]) Q E s := by
  have e : (List.toArray (rowsV fs ++ [v])).size = fs.length + 1 := by rw [List.size_toArray, List.length_append, rowsV_len]; rfl
  refine len_list hl (by rw [e]; omega) ?_
  rw [e]
  exact h
theorem rows_last {value slice : PySem.Expr} {vs : List Value} {v : Value} {u : Tok} (hl : s.heap.IsList D (List.toArray (vs ++ [v]))) (h : Q v s)
    (hs : subscripted slice false (.ref D) (.int (-1) u) = operate [.ref D, .int (-1) u] (getItem (.ref D) (.int (-1) u)) := by with_unfolding_all rfl) :
    wpAny (model prog w) A (subscriptTail value slice (.ref D) (.int (-1) u)) Q E s := by
  have e : (List.toArray (vs ++ [v])).size = vs.length + 1 := by rw [List.size_toArray, List.length_append]; rfl
  refine tail_any hl.typeIs slot_list_getitem.lookup (wpAny_getItem_list_neg hl (by decide) (by rw [e]; omega) (by decide) (x := v) ?_ h) hs
  rw [e]
  have e2 : ((-1 : Int) + ((vs.length + 1 : Nat) : Int)).toNat = vs.length := by omega
  rw [e2]
  simp
theorem append_vals {vs : List Value} {v : Value} (F : Fr h₀ L s.heap m) (N : News h₀ L s.heap news) (U : Upd D (listOf (List.toArray vs) n) (listOf (List.toArray (vs ++ [v])) (n + 1)) news news') (hz : vs.length ≤ 1000000)
    (h : ∀ h', Fr h₀ L h' m → News h₀ L h' news' → Q .none { s with heap := h' }) : wpAny (model prog w) A (call (.builtin "list.append") [.ref D, v]) Q E s := by
  refine append_K F N (its := List.toArray vs) (n := n) ?_ h ?_
  · have e : (List.toArray vs).push v = List.toArray (vs ++ [v]) := by simp
    rw [e]; exact U
  · rw [sizeLine_eq, List.size_toArray]; omega
theorem pop_vals {vs : List Value} {v : Value} (F : Fr h₀ L s.heap m) (N : News h₀ L s.heap news) (U : Upd D (listOf (List.toArray (vs ++ [v])) n) (listOf (List.toArray vs) (n + 1)) news news') (hz : vs.length ≤ 1000)
    (h : ∀ h', Fr h₀ L h' m → News h₀ L h' news' → Q v { s with heap := h' }) : wpAny (model prog w) A (call (.builtin "list.pop") [.ref D]) Q E s := by
  refine kl_pop F N (p := vs) (y := v) (kpa_last v vs) U ?_ h
  have e : (List.toArray (vs ++ [v])).toList.length = vs.length + 1 := by simp
  rw [e, sizeLine_eq]; omega
end
abbrev signsT : Str := Str.ofString ".\r\n\"\\.a "
theorem sign_item {i : Int} (h0 : 0 ≤ i) (h1 : i < 8) : ∃ c, SgnOk c ∧ Txt.item signsT i = ofL [c] := by
  have : i = 0 ∨ i = 1 ∨ i = 2 ∨ i = 3 ∨ i = 4 ∨ i = 5 ∨ i = 6 ∨ i = 7 := by omega
  rcases this with rfl | rfl | rfl | rfl | rfl | rfl | rfl | rfl
  · exact ⟨46, by show (46 : Nat) < 1114112; decide, by decide +kernel⟩
  · exact ⟨13, by show (13 : Nat) < 1114112; decide, by decide +kernel⟩
  · exact ⟨10, by show (10 : Nat) < 1114112; decide, by decide +kernel⟩
  · exact ⟨34, by show (34 : Nat) < 1114112; decide, by decide +kernel⟩
  · exact ⟨92, by show (92 : Nat) < 1114112; decide, by decide +kernel⟩
  · exact ⟨46, by show (46 : Nat) < 1114112; decide, by decide +kernel⟩
  · exact ⟨97, by show (97 : Nat) < 1114112; decide, by decide +kernel⟩
  · exact ⟨32, by show (32 : Nat) < 1114112; decide, by decide +kernel⟩
theorem fdiv_n (n : Int) {b : Int} (hb : 0 ≤ b) : n.fdiv b = n / b := Int.fdiv_eq_ediv_of_nonneg n hb
theorem fmod_n (n : Int) {b : Int} (hb : 0 ≤ b) : n.fmod b = n % b := Int.fmod_eq_emod_of_nonneg n hb
theorem kind_nat (z : Int) : ∃ k : Nat, 1 + z.fmod 2 = (k : Int) ∧ (k = 1 ∨ k = 2) := by
  rw [fmod_n z (by decide)]
  refine ⟨(1 + z % 2).toNat, ?_, ?_⟩ <;> omega
theorem q_nat (z : Int) : ∃ q : Nat, z.fmod 3 = (q : Int) ∧ q ≤ 2 := by
  rw [fmod_n z (by decide)]
  refine ⟨(z % 3).toNat, ?_, ?_⟩ <;> omega
def TreeJ (I RW R0 : Addr) (base : List (Addr × Obj)) (vs : List Value) (m : Str → Option Value) (news : List (Addr × Obj)) : Prop :=
  ∃ (ns : List Int) (f : Fm) (fs : List Fm) (made : List (Addr × Obj)) (crw : Nat), IntsAre vs ns ∧ (∀ n ∈ ns, 0 ≤ n ∧ n ≤ 400000) ∧ AllAt m [(Str.ofString "rows", .ref RW), (Str.ofString "root", .ref R0)] ∧ TreeSt I RW R0 base vs.length news f fs made crw
theorem news_perm3 {h₀ h : Heap} {L : Addr} {a b c d : Addr × Obj} {x : List (Addr × Obj)} (N : News h₀ L h (a :: b :: c :: d :: x)) : News h₀ L h (a :: c :: b :: x) := fun q hq => N q (by
  simp only [List.mem_cons] at hq ⊢
  rcases hq with hq | hq | hq | hq
  · exact .inl hq
  · exact .inr (.inr (.inl hq))
  · exact .inr (.inl hq)
  · exact .inr (.inr (.inr (.inr hq))))
theorem allLt_mem {d : Addr} : ∀ {l : List (Addr × Obj)}, AllLt d l → ∀ p ∈ l, @LT.lt Nat _ p.1 d
  | [], _, _, hp => nomatch hp
  | _ :: _, h, p, hp => by
    rcases List.mem_cons.mp hp with rfl | hp
    · exact h.1
    · exact allLt_mem h.2 p hp
theorem TreeSt.dis {I RW R0 : Addr} {base news made : List (Addr × Obj)} {n : Nat} {f : Fm} {fs : List Fm} {crw : Nat} (h : TreeSt I RW R0 base n news f fs made crw) :
    @Ne Nat f.l RW ∧ @Ne Nat f.R f.l ∧ @Ne Nat I f.l ∧ @Ne Nat I RW ∧ @Ne Nat f.R RW ∧ @Ne Nat f.R I ∧ (∀ p ∈ lowLed f.R fs ++ (made ++ base), p.1 ≠ f.l) ∧ (∀ p ∈ lowLed f.R fs ++ (made ++ base), p.1 ≠ RW) ∧ (∀ p ∈ lowLed f.R fs ++ (made ++ base), p.1 ≠ I) := by
  have nd := h.nd
  have fr := h.fresh
  rw [treeLed_adrs] at nd
  have key : ∀ a b : Addr, a ∈ [I, RW, f.l, f.R] → (∀ p ∈ lowLed f.R fs ++ made, p.1 ≠ a) := fun a _ ha p hp e => by
    have h1 := nd a
    have h2 : 0 < (adrs (lowLed f.R fs) ++ adrs made).count a := List.count_pos_iff.mpr (by rw [← adrs_app, ← e]; exact List.mem_map_of_mem hp)
    simp only [List.count_cons] at h1
    have h3 : 1 ≤ [I, RW, f.l, f.R].count a := List.count_pos_iff.mpr ha
    simp only [List.count_cons, List.count_nil] at h3
    omega
  have hb : ∀ a : Addr, (∃ o, (a, o) ∈ treeLed RW crw f fs made) → ∀ p ∈ base, p.1 ≠ a := fun a ⟨o, ho⟩ p hp => Nat.ne_of_lt (fr (a, o) ho p hp)
  have n1 := nd I
  have n2 := nd RW
  have n3 := nd f.l
  simp only [List.count_cons, beq_self_eq_true, if_true] at n1 n2 n3
  have all : ∀ a, a ∈ [I, RW, f.l, f.R] → (∀ p ∈ base, p.1 ≠ a) → ∀ p ∈ lowLed f.R fs ++ (made ++ base), p.1 ≠ a := fun a ha hba p hp => by
    rcases List.mem_append.mp hp with hp | hp
    · exact key a a ha p (List.mem_append_left _ hp)
    · rcases List.mem_append.mp hp with hp | hp
      · exact key a a ha p (List.mem_append_right _ hp)
      · exact hba p hp
  refine ⟨fun e => ?_, fun e => ?_, fun e => ?_, fun e => ?_, fun e => ?_, fun e => ?_, all f.l (by simp) (hb f.l ⟨_, .tail _ (.head _)⟩), all RW (by simp) (hb RW ⟨_, .head _⟩), all I (by simp) h.off⟩
  · have : (f.l == RW) = true := by simpa using e
    rw [this] at n2; simp only [if_true] at n2; omega
  · have : (f.R == f.l) = true := by simpa using e
    rw [this] at n3; simp only [if_true] at n3; omega
  · have : (f.l == I) = true := by simpa using e.symm
    rw [this] at n1; simp only [if_true] at n1; omega
  · have : (RW == I) = true := by simpa using e.symm
    rw [this] at n1; simp only [if_true] at n1; omega
  · have : (f.R == RW) = true := by simpa using e
    rw [this] at n2; simp only [if_true] at n2; omega
  · have : (f.R == I) = true := by simpa using e
    rw [this] at n1; simp only [if_true] at n1; omega
theorem root_open {h₀ h : Heap} {L RW l0 R0 : Addr} {k q : Int} {t0 t1 : Tok} {base : List (Addr × Obj)} {G : Prop} (N : News h₀ L h ((RW, listOf #[.ref R0] 0) :: (l0, listOf #[] 0) :: (R0, listOf #[.int k t0, .int q t1, .ref l0] 0) :: base))
    (g : ∀ t0 t1, News h₀ L h ((RW, listOf #[.ref R0] 0) :: (l0, listOf #[] 0) :: (R0, listOf #[.int k t0, .int q t1, .ref l0] 0) :: base) → G) : G := g t0 t1 N
theorem tree_start {I RW l0 R0 nl : Addr} {k q : Nat} {t0 t1 : Tok} {base : List (Addr × Obj)} {n : Nat} (hk : k = 1 ∨ k = 2) (hq : q ≤ 2) (hn : n ≤ 8) (h1 : @LT.lt Nat _ nl l0 ∧ AllLt l0 base) (h2 : @LT.lt Nat _ l0 R0) (h3 : @LT.lt Nat _ R0 RW) (hI : ∀ p ∈ (RW, listOf #[.ref R0] 0) :: (l0, listOf #[] 0) :: (R0, listOf #[.int (k : Int) t0, .int (q : Int) t1, .ref l0] 0) :: base, p.1 < I) :
    TreeSt I RW R0 base n ((RW, listOf #[.ref R0] 0) :: (l0, listOf #[] 0) :: (R0, listOf #[.int (k : Int) t0, .int (q : Int) t1, .ref l0] 0) :: base) ⟨R0, l0, k, q, t0, t1, 0, 0, [], []⟩ [] [] 0 := by
  have hb := allLt_mem h1.2
  refine ⟨rfl, by decide, ⟨hk, hq, (by intro x hx; cases hx), Fa2.nil⟩, trivial, ?_, rfl, ?_, fun y hy => Nat.ne_of_lt (hI y (.tail _ (.tail _ (.tail _ hy)))), ?_⟩
  · show szTs [] + 1 + szFs [] + n ≤ 9
    simp only [szTs, szFs]; omega
  · have h4 : @LT.lt Nat _ RW I := hI _ (.head _)
    intro a
    show List.count a [I, RW, l0, R0] ≤ 1
    simp only [List.count_cons, List.count_nil]
    by_cases e1 : l0 = a
    · subst e1
      have a1 : ¬ ((R0 == l0) = true) := by simpa using Nat.ne_of_gt h2
      have a2 : ¬ ((RW == l0) = true) := by simpa using Nat.ne_of_gt (Nat.lt_trans h2 h3)
      have a3 : ¬ ((I == l0) = true) := by simpa using Nat.ne_of_gt (Nat.lt_trans (Nat.lt_trans h2 h3) h4)
      rw [if_neg a1, if_neg a2, if_neg a3]; split <;> omega
    · have a0 : ¬ ((l0 == a) = true) := by simpa using e1
      rw [if_neg a0]
      by_cases e2 : R0 = a
      · subst e2
        have a2 : ¬ ((RW == R0) = true) := by simpa using Nat.ne_of_gt h3
        have a3 : ¬ ((I == R0) = true) := by simpa using Nat.ne_of_gt (Nat.lt_trans h3 h4)
        rw [if_neg a2, if_neg a3]; split <;> omega
      · have a1 : ¬ ((R0 == a) = true) := by simpa using e2
        rw [if_neg a1]
        by_cases e3 : RW = a
        · subst e3
          have a3 : ¬ ((I == RW) = true) := by simpa using Nat.ne_of_gt h4
          rw [if_neg a3]; split <;> omega
        · have a2 : ¬ ((RW == a) = true) := by simpa using e3
          rw [if_neg a2]; split <;> omega
  · intro p hp y hy
    have hy1 := hb y hy
    rcases List.mem_cons.mp hp with rfl | hp
    · exact Nat.lt_trans hy1 (Nat.lt_trans h2 h3)
    · rcases List.mem_cons.mp hp with rfl | hp
      · exact hy1
      · rcases List.mem_cons.mp hp with rfl | hp
        · exact Nat.lt_trans hy1 h2
        · cases hp
/-- what the function gives at the end -/
theorem tree_end {I RW R0 : Addr} {base news made : List (Addr × Obj)} {n : Nat} {f : Fm} {fs : List Fm} {crw : Nat} {h₀ h : Heap} {L : Addr} (st : TreeSt I RW R0 base n news f fs made crw) (N : News h₀ L h news) : News h₀ L h (treeLed RW crw f fs made ++ base) := by
  have e := st.led
  subst e
  intro p hp
  refine N p ?_
  rcases List.mem_append.mp hp with hp | hp
  · exact treeLed_sub p hp
  · exact .tail _ (.tail _ (.tail _ (List.mem_append_right _ (List.mem_append_right _ hp))))
theorem rowsV_cons (f : Fm) (fs : List Fm) : rowsV (f :: fs) = rowsV fs ++ [.ref f.R] := by unfold rowsV; rw [List.reverse_cons, List.map_append]; rfl
theorem item_two {prog : Program} {w : World} {A : Around} {E : Value → Shared → Prop} {s : Shared} {D : Addr} {value slice : PySem.Expr} {x y z : Value} {u : Tok} {Q : Value → Shared → Prop} (hl : s.heap.IsList D #[x, y, z]) (h : Q z s)
    (hs : subscripted slice false (.ref D) (.int 2 u) = operate [.ref D, .int 2 u] (getItem (.ref D) (.int 2 u)) := by with_unfolding_all rfl) :
    wpAny (model prog w) A (subscriptTail value slice (.ref D) (.int 2 u)) Q E s :=
  tail_any hl.typeIs slot_list_getitem.lookup (wpAny_getItem_list hl (by decide) (by decide) (x := z) rfl h) hs
theorem TreeSt.offI {I RW R0 : Addr} {base news made : List (Addr × Obj)} {n : Nat} {f : Fm} {fs : List Fm} {crw : Nat} (h : TreeSt I RW R0 base n news f fs made crw) : ∀ p ∈ news, p.1 ≠ I := by
  obtain ⟨_, _, n3, n4, _, n6, _, _, m3⟩ := h.dis
  have e := h.led
  subst e
  intro p hp
  rcases List.mem_cons.mp hp with rfl | hp
  · exact Ne.symm n4
  · rcases List.mem_cons.mp hp with rfl | hp
    · exact Ne.symm n3
    · rcases List.mem_cons.mp hp with rfl | hp
      · exact n6
      · exact m3 p hp
def SignJ (g : Heap) (L SG RW R0 : Addr) (z : Int) (led : List (Addr × Obj)) (n : Nat) (h : Heap) (m : Str → Option Value) : Prop :=
  ∃ (us : List (Str × Tok)) (l : List Nat) (c fg : Nat) (tf tr : Tok), n = fg ∧ us.map (fun x => x.1) = l.map (fun c => ofL [c]) ∧ (∀ c ∈ l, SgnOk c) ∧ l.length ≤ 5 ∧ fg * 8 ^ l.length ≤ 30000 ∧ Fr g L h m ∧
    AllAt m [(Str.ofString "figures", .int (fg : Int) tf), (Str.ofString "signs", .ref SG), (Str.ofString "rest", .int z tr), (Str.ofString "rows", .ref RW), (Str.ofString "root", .ref R0)] ∧ News g L h ((SG, listOf (strValues us).toArray c) :: led)
theorem flat_one : ∀ l : List Nat, (l.map fun c => [c]).flatten = l
  | [] => rfl
  | a :: r => by rw [List.map_cons, List.flatten_cons, flat_one r]; rfl
theorem sign_join {us : List (Str × Tok)} {l : List Nat} (e : us.map (fun x => x.1) = l.map (fun c => ofL [c])) : Str.join (Str.ofString "") (us.map fun x => x.1) = ofL l := by
  have e2 : l.map (fun c => ofL [c]) = (l.map fun c => [c]).map ofL := by rw [List.map_map]; rfl
  rw [e, e2, join_ofL, flat_one]
theorem sign_fit {us : List (Str × Tok)} {l : List Nat} (e : us.map (fun x => x.1) = l.map (fun c => ofL [c])) (hl : l.length ≤ 5) : ((us.map fun x => x.1).map fun y => y.length).sum + (us.map fun x => x.1).length * (Str.ofString "").length ≤ 1000000 := by
  have e2 : l.map (fun c => ofL [c]) = (l.map fun c => [c]).map ofL := by rw [List.map_map]; rfl
  rw [e, e2, sum_lens, show (Str.ofString "").length = 0 by decide +kernel]
  rw [flat_one]; omega
theorem pow_step {fg n : Nat} (h : fg * 8 ^ n ≤ 30000) (h0 : 0 < fg) (hn : n ≤ 5) : n + 1 ≤ 5 ∧ fg / 8 * 8 ^ (n + 1) ≤ 30000 := by
  constructor
  · have h1 : 8 ^ n ≤ fg * 8 ^ n := Nat.le_mul_of_pos_left _ h0
    have : n ≠ 5 := fun e => by subst e; have : 8 ^ 5 ≤ 30000 := Nat.le_trans h1 h; revert this; decide
    omega
  · have h2 : fg / 8 * 8 ≤ fg := Nat.div_mul_le_self fg 8
    have h3 : fg / 8 * 8 ^ (n + 1) = (fg / 8 * 8) * 8 ^ n := by rw [Nat.pow_succ, Nat.mul_comm (8 ^ n) 8, Nat.mul_assoc]
    rw [h3]
    exact Nat.le_trans (Nat.mul_le_mul_right _ h2) h
theorem szTs_ge : ∀ ps : List Tr, ps.length ≤ szTs ps
  | [] => Nat.zero_le _
  | p :: r => by
    rw [szTs_cons]
    have := szT_pos p
    have := szTs_ge r
    simp only [List.length_cons]; omega
theorem TreeSt.vsl {I RW R0 : Addr} {base news made : List (Addr × Obj)} {n : Nat} {f : Fm} {fs : List Fm} {crw : Nat} (h : TreeSt I RW R0 base n news f fs made crw) : f.vs.length ≤ 9 := by
  have h1 := h.top.2.2.2.length
  have h2 := szTs_ge f.ps
  have h3 := h.sz
  omega
section
variable {g h' : Heap} {L I RW R0 SG LF : Addr} {m' : Str → Option Value} {s₁ : Shared} {tk : Nat} {it osg : Obj} {base news made : List (Addr × Obj)} {n : Nat} {f : Fm} {fs : List Fm} {crw : Nat} {r : List Value} {ns₂ : List Int}
theorem unr_end {news' : List (Addr × Obj)} {all : List (Addr × Obj)} {f' : Fm} {fs' : List Fm} {made' : List (Addr × Obj)} {crw' : Nat} (st : TreeSt I RW R0 base r.length news' f' fs' made' crw') (F : Fr g L h' m') (N : News g L h' all) (hs : ∀ q ∈ (I, it) :: news', q ∈ all) (hr : IntsAre r ns₂) (hb : ∀ n ∈ ns₂, 0 ≤ n ∧ n ≤ 400000)
    (e : AllAt m' [(Str.ofString "rows", .ref RW), (Str.ofString "root", .ref R0)]) : UnrEnd g L s₁ I it (TreeJ I RW R0 base r) { s₁ with heap := h', toks := tk } :=
  UnrEnd.intro F N news' hs st.offI ⟨ns₂, f', fs', made', crw', hr, hb, e, st⟩
theorem unr_leaf {q : Nat} {t : List Nat} {u0 u1 u2 : Tok} {c : Nat} (st : TreeSt I RW R0 base (r.length + 1) (treeLed RW crw f fs (made ++ base)) f fs made crw) (hq : q ≤ 2) (ht : t.length ≤ 5) (hs : ∀ c ∈ t, SgnOk c)
    (hlt : @LT.lt Nat _ SG LF ∧ @LT.lt Nat _ I LF ∧ @LT.lt Nat _ RW LF ∧ @LT.lt Nat _ f.l LF ∧ @LT.lt Nat _ f.R LF ∧ AllLt LF (lowLed f.R fs ++ (made ++ base)))
    (F : Fr g L h' m') (N : News g L h' ((LF, listOf #[.int 0 u0, .int (q : Int) u1, .str (ofL t) u2] c) :: (SG, osg) :: (I, it) :: (RW, listOf (List.toArray (rowsV fs ++ [.ref f.R])) crw) :: (f.l, listOf (List.toArray (f.vs ++ [.ref LF])) (f.c' + 1)) :: (f.R, f.obj) :: (lowLed f.R fs ++ (made ++ base))))
    (hr : IntsAre r ns₂) (hb : ∀ n ∈ ns₂, 0 ≤ n ∧ n ≤ 400000) (e : AllAt m' [(Str.ofString "rows", .ref RW), (Str.ofString "root", .ref R0)]) : UnrEnd g L s₁ I it (TreeJ I RW R0 base r) { s₁ with heap := h', toks := tk } := by
  obtain ⟨_, h1, h2, h3, h4, h5⟩ := hlt
  refine unr_end (st.leaf (LF := LF) (u0 := u0) (u1 := u1) (u2 := u2) (c := c) rfl hq ht hs h1 fun p hp => ?_) F N (fun p hp => ?_) hr hb e
  · rcases List.mem_cons.mp hp with rfl | hp
    · exact h2
    · rcases List.mem_cons.mp hp with rfl | hp
      · exact h3
      · rcases List.mem_cons.mp hp with rfl | hp
        · exact h4
        · exact allLt_mem h5 p hp
  · simp only [treeLed, List.mem_cons, List.mem_append] at hp ⊢
    rcases hp with hp | hp | hp | hp | hp | (hp | hp) | hp
    · exact .inr (.inr (.inl hp))
    · exact .inr (.inr (.inr (.inl hp)))
    · exact .inr (.inr (.inr (.inr (.inl hp))))
    · exact .inr (.inr (.inr (.inr (.inr (.inl hp)))))
    · exact .inr (.inr (.inr (.inr (.inr (.inr (.inl hp))))))
    · exact .inl hp
    · exact .inr (.inr (.inr (.inr (.inr (.inr (.inr (.inl hp)))))))
    · exact .inr (.inr (.inr (.inr (.inr (.inr (.inr (.inr hp)))))))
theorem unr_open {R l : Addr} {k q : Nat} {u0 u1 : Tok} (st : TreeSt I RW R0 base (r.length + 1) (treeLed RW crw f fs (made ++ base)) f fs made crw) (hl : fs.length < 2) (hk : k = 1 ∨ k = 2) (hq : q ≤ 2)
    (hlt : @LT.lt Nat _ I l ∧ @LT.lt Nat _ RW l ∧ @LT.lt Nat _ f.l l ∧ @LT.lt Nat _ f.R l ∧ AllLt l (lowLed f.R fs ++ (made ++ base))) (hlR : @LT.lt Nat _ l R)
    (F : Fr g L h' m') (N : News g L h' ((R, listOf #[.int (k : Int) u0, .int (q : Int) u1, .ref l] 0) :: (l, listOf #[] 0) :: (I, it) :: (RW, listOf (List.toArray (rowsV fs ++ [.ref f.R] ++ [.ref R])) (crw + 1)) :: (f.l, listOf (List.toArray (f.vs ++ [.ref R])) (f.c' + 1)) :: (f.R, f.obj) :: (lowLed f.R fs ++ (made ++ base))))
    (hr : IntsAre r ns₂) (hb : ∀ n ∈ ns₂, 0 ≤ n ∧ n ≤ 400000) (e : AllAt m' [(Str.ofString "rows", .ref RW), (Str.ofString "root", .ref R0)]) : UnrEnd g L s₁ I it (TreeJ I RW R0 base r) { s₁ with heap := h', toks := tk } := by
  obtain ⟨h1, h2, h3, h4, h5⟩ := hlt
  refine unr_end (st.open (R := R) (l := l) (u0 := u0) (u1 := u1) (c := 0) (c2 := 0) (crw' := crw + 1) hl hk hq h1 hlR fun p hp => ?_) F N (fun p hp => ?_) hr hb e
  · rcases List.mem_cons.mp hp with rfl | hp
    · exact h2
    · rcases List.mem_cons.mp hp with rfl | hp
      · exact h3
      · rcases List.mem_cons.mp hp with rfl | hp
        · exact h4
        · exact allLt_mem h5 p hp
  · simp only [treeLed, lowLed, rowsV_cons, List.mem_cons, List.mem_append] at hp ⊢
    rcases hp with hp | hp | hp | hp | (hp | hp | hp) | hp | hp
    · exact .inr (.inr (.inl hp))
    · exact .inr (.inr (.inr (.inl hp)))
    · exact .inr (.inl hp)
    · exact .inl hp
    · exact .inr (.inr (.inr (.inr (.inl hp))))
    · exact .inr (.inr (.inr (.inr (.inr (.inl hp)))))
    · exact .inr (.inr (.inr (.inr (.inr (.inr (.inl hp))))))
    · exact .inr (.inr (.inr (.inr (.inr (.inr (.inr (.inl hp)))))))
    · exact .inr (.inr (.inr (.inr (.inr (.inr (.inr (.inr hp)))))))
theorem unr_pop {f0 : Fm} (st : TreeSt I RW R0 base (r.length + 1) (treeLed RW crw f (f0 :: fs) (made ++ base)) f (f0 :: fs) made crw)
    (F : Fr g L h' m') (N : News g L h' ((I, it) :: (RW, listOf (List.toArray (rowsV (f0 :: fs))) (crw + 1)) :: (f.l, listOf (List.toArray f.vs) f.c') :: (f.R, f.obj) :: (lowLed f.R (f0 :: fs) ++ (made ++ base))))
    (hr : IntsAre r ns₂) (hb : ∀ n ∈ ns₂, 0 ≤ n ∧ n ≤ 400000) (e : AllAt m' [(Str.ofString "rows", .ref RW), (Str.ofString "root", .ref R0)]) : UnrEnd g L s₁ I it (TreeJ I RW R0 base r) { s₁ with heap := h', toks := tk } := by
  refine unr_end (st.pop (crw' := crw + 1)) F N (fun p hp => ?_) hr hb e
  simp only [treeLed, lowLed, rowsV_cons, List.mem_cons, List.mem_append] at hp ⊢
  rcases hp with hp | hp | hp | hp | hp | (hp | hp | hp) | hp
  · exact .inl hp
  · exact .inr (.inl hp)
  · exact .inr (.inr (.inr (.inr (.inl (.inl hp)))))
  · exact .inr (.inr (.inr (.inr (.inl (.inr (.inl hp))))))
  · exact .inr (.inr (.inr (.inr (.inl (.inr (.inr hp))))))
  · exact .inr (.inr (.inl hp))
  · exact .inr (.inr (.inr (.inl hp)))
  · exact .inr (.inr (.inr (.inr (.inr (.inl hp)))))
  · exact .inr (.inr (.inr (.inr (.inr (.inr hp)))))
end
end Mine
end
section
open PySem PySem.W PyProof.Rows
set_option Elab.async false
set_option maxRecDepth 100000
namespace Mine
theorem nums7 (t0 t1 t2 t3 t4 t5 t6 : Tok) : IntsAre [.int 23288 t0, .int 6 t1, .int 370024 t2, .int 5 t3, .int 2898 t4, .int 2 t5, .int 493 t6] [23288, 6, 370024, 5, 2898, 2, 493] :=
  .cons _ _ (.cons _ _ (.cons _ _ (.cons _ _ (.cons _ _ (.cons _ _ (.cons _ _ .nil))))))
theorem num_in1 {l : List Int} {n : Nat} {k : Int} (h : k ∈ List.map (fun k' => k'.fmod 300000) (List.take 8 l) ++ List.drop n ([23288, 6, 370024, 5, 2898, 2, 493] : List Int)) : 0 ≤ k ∧ k ≤ 400000 := by
  rcases List.mem_append.mp h with h | h
  · obtain ⟨j, _, rfl⟩ := List.mem_map.mp h
    have h1 := Int.fmod_nonneg_of_pos j (b := 300000) (by decide)
    have h2 := Int.fmod_lt_of_pos j (b := 300000) (by decide)
    omega
  · have h2 := List.mem_of_mem_drop h
    simp only [List.mem_cons, List.not_mem_nil, or_false] at h2
    omega
theorem num_len1 {l : List Int} {n : Nat} (h : n = l.length) : (List.map (fun k' => k'.fmod 300000) (List.take 8 l) ++ List.drop n ([23288, 6, 370024, 5, 2898, 2, 493] : List Int)).length ≤ 8 := by
  subst h
  simp only [List.length_append, List.length_map, List.length_take, List.length_drop, List.length_cons, List.length_nil]; omega
theorem turn_fr {g g' h : Heap} {L : Addr} {m : Str → Option Value} (T : KtsTurn [] g g') (F : Fr g' L h m) : Fr g L h m := ⟨F.ns, fun b o e => F.keep b o (T.other b o e List.not_mem_nil), by rw [← T.size]; exact F.above⟩
theorem turn_news {g g' h : Heap} {L : Addr} {news : List (Addr × Obj)} (T : KtsTurn [] g g') (N : News g' L h news) : News g L h news := fun q hq => ⟨(N q hq).1, (N q hq).2.1, by
  cases z : g.get? q.1 with
  | none => rfl
  | some o =>
    have := T.other _ o z List.not_mem_nil
    rw [(N q hq).2.2] at this; cases this⟩
theorem same_refl_eq {prog : Program} {w : World} {A : Around} {E : Value → Shared → Prop} {s : Shared} {h₀ : Heap} {L : Addr} {S : List (Addr × Obj)} {a b : Value} {d : PyData} {Q : Value → Shared → Prop} (N : News h₀ L s.heap S) (ha : RdAt S a d) (hb : RdAt S b d) (hl : PySem.SeqAt.shaped d = true) (hu : A.units + 64 < cLine) (h : Q (.bool true) s) :
    wpAny (model prog w) A (compareOp .Eq a b) Q E s := by
  obtain ⟨as, ra⟩ := ha _ _ _ N
  obtain ⟨bs, rb⟩ := hb _ _ _ N
  refine eq_dataH ra rb hl hl hu ?_
  rw [PySem.SeqAt.eqv_refl d (Bool.and_eq_true_iff.mp hl).1]; exact h
theorem due_shaped {n : Nat} {t : Tr} (a : Nat) (hn : n ≤ 3) (h : TOk n t) : PySem.SeqAt.shaped (dueD t a) = true := by
  have h1 := due_lay n t a h
  refine Bool.and_eq_true_iff.mpr ⟨h1.1, decide_eq_true ?_⟩
  have := h1.2
  omega
theorem rd_use {TB : Addr} {TK : Array Value → List (Addr × Obj) → Prop} {prog : Program} {w : World} {K : Frag} {p : Program} {loose : List Str} {mean : ExcName → Option Value} {mg mb : Str → Option Value} {f : Addr} {d : Nat} {news : List (Addr × Obj)} {vs : List Value} {R : List (Addr × Obj) → Value → Prop}
    {arr : Array Value} {S₀ : List (Addr × Obj)} {dp un : Nat} {gd : Option (List Code)} {cn : Str} {cs : Scope} {a : Addr} {ccd : Value} {cl : List (Str × Addr)} {outer : List Env} {A₀ : Around} {base h₀ : Heap} {L : Addr} {m : Str → Option Value} {s : Shared} {Q E : Value → Shared → Prop}
    (H : FnRd TB TK prog w K p loose mean mg mb f d news vs R) (B : Below A₀ base outer h₀) (F : Fr h₀ L s.heap m) (X : K.In base) (T : Top p loose mean mg mb base) (D : KtsDicts (frs outer) h₀) (N : News h₀ L s.heap ((TB, tabObj arr) :: news)) (hT : TK arr S₀) (hS : ∀ q ∈ S₀, q ∈ news) (hne : ∀ q ∈ news, q.1 ≠ TB)
    (hk : cs.kind = .function) (hd : dp + d < recursionLimit) (hu : un + 8 * d < cLine)
    (ret : ∀ v h' tk' ext arr' h₀', R ext v → Fresh ext ((TB, tabObj arr) :: news) → TK arr' (ext ++ S₀) → KtsTurn (frs outer) h₀ h₀' → Fr h₀' L h' m → News h₀' L h' ((TB, tabObj arr') :: (ext ++ news)) → Q v ⟨h', s.gens, s.drawn, tk', s.os⟩) :
    wpAny (model prog w) (ktrTop dp un gd cn cs L a ccd cl outer) (call (.ref f) vs) Q E s := H arr S₀ dp un gd cn cs a ccd cl outer A₀ base h₀ L m s Q E B F X T D N hT hS hne hk hd hu ret
end Mine
end
section
open PySem PySem.W PyProof.Rows
set_option Elab.async false
set_option maxRecDepth 100000
namespace Mine
theorem plainAttrs_pat : PlainAttrs "re.Pattern" :=
  ⟨⟨"object.__getattribute__", by rw [typeLookup_type, builtinLookup_eq_fast]; kernel_rfl, by decide +kernel⟩, by rw [typeLookup_type, builtinLookup_eq_fast]; kernel_rfl⟩
theorem slot_sub : Slot "re.Pattern" "sub" "re.Pattern.sub" :=
  .of (owner := "re.Pattern") (n := "sub") (by rw [typeLookup_type, builtinLookup_eq_fast]; kernel_rfl) (by decide +kernel) (by decide +kernel) (by decide +kernel)
    (by first | exact .inl (by decide +kernel) | exact .inr (by decide +kernel)) (by rw [isSubtype_type]; kernel_rfl)
theorem type_sub : typeOf (.builtin "re.Pattern.sub") = pure (.type "method_descriptor") := by show builtinType _ = _; rw [builtinType_eq_fast]; kernel_rfl
theorem entry_sub : entryFor table "re.Pattern.sub" = some Builtin.«re.Pattern.sub» := entryFor_of_tree (by kernel_rfl)
theorem entry_loop : entryFor table "re.Pattern.sub.loop" = some Builtin.«re.Pattern.sub.loop» := entryFor_of_tree (by kernel_rfl)
theorem args_sub (a b c : Value) : argsOk "re.Pattern.sub" ⟨[a, b, c], []⟩ := by unfold argsOk; kernel_rfl
theorem str_nocall : typeLookup (.type "str") "__call__" = pure none := by rw [typeLookup_type, builtinLookup_eq_fast]; kernel_rfl
theorem loop_plain : plainId "re.Pattern.sub.loop" = true := by decide +kernel
end Mine
end
section
open PySem PySem.Sre
set_option Elab.async false
set_option maxRecDepth 100000
namespace Mine
theorem runFor_out {m : M} (h : m.outcome.isSome = true) : ∀ n, m.runFor n = m
  | 0 => rfl
  | n + 1 => by unfold M.runFor; rw [if_pos h]
theorem runFor_succ {m : M} (h : m.outcome = none) (n : Nat) : m.runFor (n + 1) = m.step.runFor n := by
  rw [M.runFor, h]; rfl
theorem runFor_add (a b : Nat) : ∀ m : M, m.runFor (a + b) = (m.runFor a).runFor b := by
  induction a with
  | zero => intro m; rw [Nat.zero_add]; rfl
  | succ a ih =>
    intro m
    by_cases h : m.outcome.isSome = true
    · rw [runFor_out h, runFor_out h, runFor_out h]
    · have h' : m.outcome = none := by simpa using h
      rw [show a + 1 + b = (a + b) + 1 by omega, runFor_succ h', runFor_succ h', ih]
/-- it comes to an end within n steps, as told -/
def Ends (m : M) (n : Nat) (P : M → Prop) : Prop := ∃ k, k ≤ n ∧ (m.runFor k).outcome.isSome = true ∧ P (m.runFor k)
theorem Ends.step {m : M} {n : Nat} {P : M → Prop} (h : m.outcome = none) (e : Ends m.step n P) : Ends m (n + 1) P := by
  obtain ⟨k, hk, h1, h2⟩ := e
  exact ⟨k + 1, Nat.succ_le_succ hk, by rw [runFor_succ h]; exact h1, by rw [runFor_succ h]; exact h2⟩
theorem Ends.here {m : M} {n : Nat} {P : M → Prop} (h : m.outcome.isSome = true) (p : P m) : Ends m n P := ⟨0, Nat.zero_le _, h, p⟩
theorem Ends.mono {m : M} {n n' : Nat} {P : M → Prop} (hn : n ≤ n') (e : Ends m n P) : Ends m n' P := let ⟨k, hk, r⟩ := e; ⟨k, Nat.le_trans hk hn, r⟩
def Matched (b e : Nat) (m : M) : Prop := m.outcome = some .matched ∧ m.start = b ∧ m.handed = e
def Failed (m : M) : Prop := m.outcome = some .failed

namespace R1
def code : Array Nat := #[14, 4, 0, 1, 1, 6, 1, 16, 46, 1]
/-- the machine at the start of an attempt -/
def at0 (text : Array Nat) (lim s : Nat) (first must : Bool) (seen : Seen) : M :=
  { code := code, text := text, lim := lim, start := s, lastStart := lim, mustAdvance := must, pc := 5, pos := s, handed := s, outermost := first, marks := #[], frames := [{ wait := .nextStart, pc := 5, pos := s, outermost := first }], weight := 1, seen := seen }
theorem search_eq (text : Array Nat) (lim s : Nat) (must : Bool) : ∃ a b : M, forSearch code text 0 s lim must = (if (decide (s > lim) || decide (lim - s < 1)) = true then a else b) ∧ (a.runFor 1).outcome = some .failed ∧ b = at0 text lim s true must (({} : Seen).add 14) :=
  ⟨_, _, rfl, rfl, rfl⟩
/-- a row begins at s -/
def rowAt (text : Array Nat) (s : Nat) : Bool := s == 0 || text.getD (s - 1) 0 == 10
theorem step_at (text : Array Nat) (lim s : Nat) (first must : Bool) (seen : Seen) :
    ∃ seen', (at0 text lim s first must seen).step = if rowAt text s = true then { at0 text lim s first must seen' with pc := 7 } else { at0 text lim s first must seen' with answer := some false } :=
  ⟨_, rfl⟩
theorem step_lit (text : Array Nat) (lim s : Nat) (first must : Bool) (seen : Seen) :
    ∃ seen', ({ at0 text lim s first must seen with pc := 7 } : M).step = if s ≥ lim then { at0 text lim s first must seen' with pc := 7, answer := some false } else
      (match (Except.ok (text.getD s 0 == 46, seen') : Except String (Bool × Seen)) with
       | .error why => ({ at0 text lim s first must seen' with pc := 7 } : M).stick why
       | .ok (false, seen) => { at0 text lim s first must seen with pc := 7, answer := some false }
       | .ok (true, seen) => { at0 text lim s first must seen with pc := 9, pos := s + 1 }) :=
  ⟨_, rfl⟩
theorem step_ok (text : Array Nat) (lim s : Nat) (first : Bool) (seen : Seen) :
    ∃ seen', ({ at0 text lim s first false seen with pc := 9, pos := s + 1 } : M).step = if (first && ((false && s + 1 != lim) || (false && s + 1 == s))) = true then { at0 text lim s first false seen' with pc := 9, pos := s + 1, answer := some false } else { at0 text lim s first false seen' with pc := 9, pos := s + 1, handed := s + 1, answer := some true } :=
  ⟨_, rfl⟩
theorem step_ok' (text : Array Nat) (lim s : Nat) (first : Bool) (seen : Seen) :
    Ends { at0 text lim s first false seen with pc := 9, pos := s + 1 } 3 (Matched s (s + 1)) := by
  obtain ⟨seen', e⟩ := step_ok text lim s first seen
  refine Ends.step rfl ?_
  rw [e, if_neg (by simp)]
  refine Ends.step rfl (Ends.step rfl (Ends.here rfl ?_))
  exact ⟨rfl, rfl, rfl⟩
theorem step_no (text : Array Nat) (lim s : Nat) (first must : Bool) (seen : Seen) (pc' : Nat) :
    ({ at0 text lim s first must seen with pc := pc', answer := some false } : M).step = if s < lim then at0 text lim (s + 1) false false seen else { at0 text lim s first must seen with frames := [], weight := 0, answer := some false } := by
  rfl
def hit (text : Array Nat) (s : Nat) : Bool := rowAt text s && text.getD s 0 == 46
def Res (text : Array Nat) (lim s : Nat) (m : M) : Prop :=
  (∃ b, s ≤ b ∧ b < lim ∧ hit text b = true ∧ (∀ j, s ≤ j → j < b → hit text j = false) ∧ Matched b (b + 1) m) ∨ ((∀ j, s ≤ j → j < lim → hit text j = false) ∧ Failed m)
theorem res_next {text : Array Nat} {lim s : Nat} {m : M} (h : hit text s = false) (r : Res text lim (s + 1) m) : Res text lim s m := by
  rcases r with ⟨b, h1, h2, h3, h4, h5⟩ | ⟨h1, h2⟩
  · refine .inl ⟨b, by omega, h2, h3, fun j hj hb => ?_, h5⟩
    by_cases e : j = s
    · rw [e]; exact h
    · exact h4 j (by omega) hb
  · refine .inr ⟨fun j hj hb => ?_, h2⟩
    by_cases e : j = s
    · rw [e]; exact h
    · exact h1 j (by omega) hb
theorem no_next {text : Array Nat} {lim s n : Nat} {first : Bool} {seen : Seen} {pc' : Nat} (hh : s < lim → hit text s = false)
    (ih : s < lim → ∀ seen, Ends (at0 text lim (s + 1) false false seen) n (Res text lim (s + 1))) (hn : 1 ≤ n) :
    Ends ({ at0 text lim s first false seen with pc := pc', answer := some false } : M) (n + 1) (Res text lim s) := by
  refine Ends.step rfl ?_
  rw [step_no]
  by_cases h : s < lim
  · rw [if_pos h]
    obtain ⟨k, hk, h1, h2⟩ := ih h seen
    exact ⟨k, hk, h1, res_next (hh h) h2⟩
  · rw [if_neg h]
    refine Ends.mono hn (Ends.step rfl (Ends.here rfl (.inr ⟨fun j h1 h2 => absurd (Nat.lt_of_le_of_lt h1 h2) h, rfl⟩)))
theorem run (text : Array Nat) (lim : Nat) : ∀ (d s : Nat) (first : Bool) (seen : Seen), lim - s ≤ d → Ends (at0 text lim s first false seen) (3 * d + 5) (Res text lim s) := by
  intro d
  induction d with
  | zero =>
    intro s first seen hd
    have hs : ¬ s < lim := by omega
    have hge : s ≥ lim := by omega
    obtain ⟨seen1, e1⟩ := step_at text lim s first false seen
    refine Ends.step rfl ?_
    rw [e1]
    cases hr : rowAt text s
    · rw [if_neg (by simp)]
      exact Ends.mono (by omega) (no_next (n := 1) (fun h => absurd h hs) (fun h => absurd h hs) (Nat.le_refl 1))
    · rw [if_pos rfl]
      obtain ⟨seen2, e2⟩ := step_lit text lim s first false seen1
      refine Ends.step rfl ?_
      rw [e2, if_pos hge]
      exact Ends.mono (by omega) (no_next (n := 1) (fun h => absurd h hs) (fun h => absurd h hs) (Nat.le_refl 1))
  | succ d ih =>
    intro s first seen hd
    have ih' : s < lim → ∀ seen, Ends (at0 text lim (s + 1) false false seen) (3 * d + 5) (Res text lim (s + 1)) := fun _ seen => ih (s + 1) false seen (by omega)
    obtain ⟨seen1, e1⟩ := step_at text lim s first false seen
    have e3 : 3 * (d + 1) + 5 = (3 * d + 7) + 1 := by omega
    rw [e3]
    refine Ends.step rfl ?_
    rw [e1]
    cases hr : rowAt text s
    · rw [if_neg (by simp)]
      exact Ends.mono (by omega) (no_next (n := 3 * d + 5) (fun _ => by unfold hit; rw [hr]; rfl) ih' (by omega))
    · rw [if_pos rfl]
      obtain ⟨seen2, e2⟩ := step_lit text lim s first false seen1
      refine Ends.step (n := 3 * d + 6) rfl ?_
      rw [e2]
      by_cases hge : s ≥ lim
      · rw [if_pos hge]
        exact Ends.mono (by omega) (no_next (n := 3 * d + 5) (fun h => absurd h (by omega)) ih' (by omega))
      · rw [if_neg hge]
        cases hc : text.getD s 0 == 46
        · exact no_next (n := 3 * d + 5) (fun _ => by unfold hit; rw [hr, hc]; rfl) ih' (by omega)
        · obtain ⟨k, hk, h1, h2⟩ := step_ok' text lim s first seen2
          exact ⟨k, by omega, h1, .inl ⟨s, Nat.le_refl _, by omega, by unfold hit; rw [hr, hc]; rfl, fun j h3 h4 => absurd (Nat.lt_of_le_of_lt h3 h4) (Nat.lt_irrefl _), h2⟩⟩
theorem search (text : Array Nat) (lim s : Nat) : Ends (forSearch code text 0 s lim false) (3 * lim + 5) (Res text lim s) := by
  obtain ⟨a, b, e, ha, hb⟩ := search_eq text lim s false
  rw [e]
  by_cases h : lim ≤ s
  · have hc : (decide (s > lim) || decide (lim - s < 1)) = true := by simp; omega
    rw [if_pos hc]
    exact ⟨1, by omega, by rw [ha]; rfl, .inr ⟨fun j h1 h2 => absurd h2 (by omega), ha⟩⟩
  · have hc : (decide (s > lim) || decide (lim - s < 1)) = false := by simp; omega
    rw [hc, if_neg (by simp), hb]
    exact Ends.mono (by omega) (run text lim (lim - s) s true _ (Nat.le_refl _))
end R1
namespace R2
def code : Array Nat := #[14, 9, 4, 1, 2, 16, 10, 16, 13, 0, 7, 7, 16, 13, 16, 10, 15, 18, 5, 16, 10, 15, 13, 11, 16, 13, 5, 5, 0, 16, 10, 1, 15, 2, 0, 1]
def F0 (s : Nat) (first : Bool) : Sre.Frame := { wait := .nextStart, pc := 10, pos := s, outermost := first }
def Fb (p s : Nat) (first : Bool) : Sre.Frame := { wait := .nextBranch, pc := p, pos := s, outermost := first }
def Fn (s : Nat) (first : Bool) : Sre.Frame := { wait := .lookNot, pc := 26, pos := s, outermost := first }
def S (text : Array Nat) (lim s : Nat) (seen : Seen) (pc pos handed : Nat) (om : Bool) (fr : List Sre.Frame) (wt : Nat) (ans : Option Bool) : M :=
  { code := code, text := text, lim := lim, start := s, lastStart := lim, pc := pc, pos := pos, handed := handed, outermost := om, marks := #[], frames := fr, weight := wt, answer := ans, seen := seen }
section
variable {text : Array Nat} {lim s : Nat} {first : Bool} {seen : Seen}
theorem s_branch : ∃ seen', (S text lim s seen 10 s s first [F0 s first] 1 none).step = S text lim s seen' 12 s s first [Fb 11 s first, F0 s first] 2 none := ⟨_, rfl⟩
theorem s_no11 {pc pos handed : Nat} {om : Bool} : (S text lim s seen pc pos handed om [Fb 11 s first, F0 s first] 2 (some false)).step = S text lim s seen 19 s s first [Fb 18 s first, F0 s first] 2 none := rfl
theorem s_no18 {pc pos handed : Nat} {om : Bool} : (S text lim s seen pc pos handed om [Fb 18 s first, F0 s first] 2 (some false)).step = S text lim s seen 24 s s first [Fb 23 s first, F0 s first] 2 none := rfl
theorem s_lit {pc v pos handed : Nat} {om : Bool} {fr : List Sre.Frame} {wt : Nat} (h : (pc = 12 ∧ v = 13) ∨ (pc = 14 ∧ v = 10) ∨ (pc = 19 ∧ v = 10) ∨ (pc = 24 ∧ v = 13) ∨ (pc = 29 ∧ v = 10)) :
    ∃ seen', (S text lim s seen pc pos handed om fr wt none).step = if pos ≥ lim then S text lim s seen' pc pos handed om fr wt (some false) else
      (match (Except.ok (text.getD pos 0 == v, seen') : Except String (Bool × Seen)) with
       | .error why => (S text lim s seen' pc pos handed om fr wt none).stick why
       | .ok (false, seen) => S text lim s seen pc pos handed om fr wt (some false)
       | .ok (true, seen) => S text lim s seen (pc + 2) (pos + 1) handed om fr wt none) := by
  rcases h with ⟨rfl, rfl⟩ | ⟨rfl, rfl⟩ | ⟨rfl, rfl⟩ | ⟨rfl, rfl⟩ | ⟨rfl, rfl⟩ <;> exact ⟨_, rfl⟩
theorem s_jump {pc to pos handed : Nat} {om : Bool} {fr : List Sre.Frame} {wt : Nat} (h : (pc = 16 ∧ to = 35) ∨ (pc = 21 ∧ to = 35) ∨ (pc = 32 ∧ to = 35)) :
    ∃ seen', (S text lim s seen pc pos handed om fr wt none).step = S text lim s seen' to pos handed om fr wt none := by
  rcases h with ⟨rfl, rfl⟩ | ⟨rfl, rfl⟩ | ⟨rfl, rfl⟩ <;> exact ⟨_, rfl⟩
theorem s_assert {pos handed : Nat} : ∃ seen', (S text lim s seen 26 pos handed first [Fb 23 s first, F0 s first] 2 none).step = S text lim s seen' 29 pos pos false [Fn pos first, Fb 23 s first, F0 s first] 3 none := ⟨_, rfl⟩
theorem s_noLook {pos pos' handed pc : Nat} {om : Bool} : (S text lim s seen pc pos' handed om [Fn pos first, Fb 23 s first, F0 s first] 3 (some false)).step = S text lim s seen 32 pos handed first [Fb 23 s first, F0 s first] 2 none := rfl
theorem s_ok {p pos handed : Nat} : ∃ seen', (S text lim s seen 35 pos handed first [Fb p s first, F0 s first] 2 none).step =
    if (first && ((false && pos != lim) || (false && pos == s))) = true then S text lim s seen' 35 pos handed first [Fb p s first, F0 s first] 2 (some false) else S text lim s seen' 35 pos pos first [Fb p s first, F0 s first] 2 (some true) := ⟨_, rfl⟩
theorem ends_ok {p pos handed : Nat} : Ends (S text lim s seen 35 pos handed first [Fb p s first, F0 s first] 2 none) 4 (Matched s pos) := by
  obtain ⟨seen', e⟩ := s_ok (text := text) (lim := lim) (s := s) (first := first) (seen := seen) (p := p) (pos := pos) (handed := handed)
  refine Ends.step rfl ?_
  rw [e, if_neg (by simp)]
  exact Ends.step rfl (Ends.step rfl (Ends.step rfl (Ends.here rfl ⟨rfl, rfl, rfl⟩)))
theorem lit_yes {pc v pos handed : Nat} {om : Bool} {fr : List Sre.Frame} {wt n : Nat} {P : M → Prop} (h : (pc = 12 ∧ v = 13) ∨ (pc = 14 ∧ v = 10) ∨ (pc = 19 ∧ v = 10) ∨ (pc = 24 ∧ v = 13) ∨ (pc = 29 ∧ v = 10))
    (hl : pos < lim) (hv : text.getD pos 0 = v) (k : ∀ seen', Ends (S text lim s seen' (pc + 2) (pos + 1) handed om fr wt none) n P) : Ends (S text lim s seen pc pos handed om fr wt none) (n + 1) P := by
  obtain ⟨seen', e⟩ := s_lit (text := text) (lim := lim) (s := s) (seen := seen) (pos := pos) (handed := handed) (om := om) (fr := fr) (wt := wt) h
  refine Ends.step rfl ?_
  rw [e, if_neg (by omega), hv, beq_self_eq_true]
  exact k _
theorem lit_no {pc v pos handed : Nat} {om : Bool} {fr : List Sre.Frame} {wt n : Nat} {P : M → Prop} (h : (pc = 12 ∧ v = 13) ∨ (pc = 14 ∧ v = 10) ∨ (pc = 19 ∧ v = 10) ∨ (pc = 24 ∧ v = 13) ∨ (pc = 29 ∧ v = 10))
    (hv : pos < lim → text.getD pos 0 ≠ v) (k : ∀ seen', Ends (S text lim s seen' pc pos handed om fr wt (some false)) n P) : Ends (S text lim s seen pc pos handed om fr wt none) (n + 1) P := by
  obtain ⟨seen', e⟩ := s_lit (text := text) (lim := lim) (s := s) (seen := seen) (pos := pos) (handed := handed) (om := om) (fr := fr) (wt := wt) h
  refine Ends.step rfl ?_
  rw [e]
  by_cases hl : pos ≥ lim
  · rw [if_pos hl]; exact k _
  · rw [if_neg hl]
    have hb : (text.getD pos 0 == v) = false := by simpa using hv (by omega)
    rw [hb]
    exact k _
theorem jump {pc pos handed : Nat} {om : Bool} {fr : List Sre.Frame} {wt n : Nat} {P : M → Prop} (h : (pc = 16) ∨ (pc = 21) ∨ (pc = 32)) (k : ∀ seen', Ends (S text lim s seen' 35 pos handed om fr wt none) n P) :
    Ends (S text lim s seen pc pos handed om fr wt none) (n + 1) P := by
  obtain ⟨seen', e⟩ := s_jump (text := text) (lim := lim) (s := s) (seen := seen) (pos := pos) (handed := handed) (om := om) (fr := fr) (wt := wt) (pc := pc) (to := 35) (by rcases h with h | h | h <;> simp [h])
  refine Ends.step rfl ?_
  rw [e]; exact k _
/-- where the match that begins at s ends -/
def stop (text : Array Nat) (lim s : Nat) : Nat := if text.getD s 0 = 13 ∧ s + 1 < lim ∧ text.getD (s + 1) 0 = 10 then s + 2 else s + 1
theorem attempt (hs : s < lim) (hc : text.getD s 0 = 10 ∨ text.getD s 0 = 13) : Ends (S text lim s seen 10 s s first [F0 s first] 1 none) 20 (Matched s (stop text lim s)) := by
  obtain ⟨seen1, e1⟩ := s_branch (text := text) (lim := lim) (s := s) (first := first) (seen := seen)
  refine Ends.step (n := 19) rfl ?_
  rw [e1]
  by_cases h13 : text.getD s 0 = 13
  · refine lit_yes (n := 18) (v := 13) (by simp) hs h13 fun seen2 => ?_
    by_cases h10 : s + 1 < lim ∧ text.getD (s + 1) 0 = 10
    · refine lit_yes (n := 17) (v := 10) (by simp) h10.1 h10.2 fun seen3 => ?_
      refine jump (n := 16) (by simp) fun seen4 => ?_
      rw [show stop text lim s = s + 1 + 1 by unfold stop; rw [if_pos ⟨h13, h10⟩]]
      exact Ends.mono (by omega) ends_ok
    · have hne : s + 1 < lim → text.getD (s + 1) 0 ≠ 10 := fun a b => h10 ⟨a, b⟩
      refine lit_no (n := 17) (v := 10) (by simp) hne fun seen3 => ?_
      refine Ends.step (n := 16) rfl ?_
      rw [s_no11]
      refine lit_no (n := 15) (v := 10) (by simp) (fun _ => by rw [h13]; decide) fun seen4 => ?_
      refine Ends.step (n := 14) rfl ?_
      rw [s_no18]
      refine lit_yes (n := 13) (v := 13) (by simp) hs h13 fun seen5 => ?_
      obtain ⟨seen6, e6⟩ := s_assert (text := text) (lim := lim) (s := s) (first := first) (seen := seen5) (pos := s + 1) (handed := s)
      refine Ends.step (n := 12) rfl ?_
      rw [e6]
      refine lit_no (n := 11) (v := 10) (by simp) hne fun seen7 => ?_
      refine Ends.step (n := 10) rfl ?_
      rw [s_noLook]
      refine jump (n := 9) (by simp) fun seen8 => ?_
      rw [show stop text lim s = s + 1 by unfold stop; rw [if_neg fun q => h10 q.2]]
      exact Ends.mono (by omega) ends_ok
  · have h10 : text.getD s 0 = 10 := hc.resolve_right h13
    refine lit_no (n := 18) (v := 13) (by simp) (fun _ => h13) fun seen2 => ?_
    refine Ends.step (n := 17) rfl ?_
    rw [s_no11]
    refine lit_yes (n := 16) (v := 10) (by simp) hs h10 fun seen3 => ?_
    refine jump (n := 15) (by simp) fun seen4 => ?_
    rw [show stop text lim s = s + 1 by unfold stop; rw [if_neg fun q => h13 q.1]]
    exact Ends.mono (by omega) ends_ok
end
def nl (text : Array Nat) (s : Nat) : Bool := text.getD s 0 == 10 || text.getD s 0 == 13
theorem inset (c : Nat) (seen : Seen) : ∃ s1 s2 s3, inSet code c 36 5 true seen = if c == 10 then .ok (true, s1) else if c == 13 then .ok (true, s2) else .ok (false, s3) := ⟨_, _, _, rfl⟩
def Found (text : Array Nat) (lim s : Nat) (r : Option Nat) : Prop :=
  match r with
  | some b => s ≤ b ∧ b < lim ∧ nl text b = true ∧ ∀ j, s ≤ j → j < b → nl text j = false
  | none => ∀ j, s ≤ j → j < lim → nl text j = false
theorem found_next {text : Array Nat} {lim s : Nat} {r : Option Nat} (h : nl text s = false) (f : Found text lim (s + 1) r) : Found text lim s r := by
  cases r with
  | some b =>
    obtain ⟨h1, h2, h3, h4⟩ := f
    refine ⟨by omega, h2, h3, fun j hj hb => ?_⟩
    by_cases e : j = s
    · rw [e]; exact h
    · exact h4 j (by omega) hb
  | none =>
    intro j hj hb
    by_cases e : j = s
    · rw [e]; exact h
    · exact f j (by omega) hb
theorem adm (m : M) (text : Array Nat) (lim : Nat) (h1 : m.code = code) (h2 : m.text = text) (h3 : m.lim = lim) : ∀ (fuel s : Nat) (seen : Seen), lim + 1 - s ≤ fuel → ∃ r seen', M.admitted m fuel s seen = .ok (r, seen') ∧ Found text lim s r := by
  intro fuel
  induction fuel with
  | zero =>
    intro s seen hf
    exact ⟨none, seen, rfl, fun j h4 h5 => absurd h5 (by omega)⟩
  | succ fuel ih =>
    intro s seen hf
    rw [M.admitted, h3, h2, h1]
    by_cases hs : s ≥ lim
    · rw [if_pos hs]
      exact ⟨none, seen, rfl, fun j h4 h5 => absurd h5 (by omega)⟩
    · rw [if_neg hs]
      obtain ⟨s1, s2, s3, e⟩ := inset (text.getD s 0) seen
      have e' : inSet code (text.getD s 0) code.size 5 true seen = _ := e
      rw [e']
      by_cases c1 : (text.getD s 0 == 10) = true
      · rw [if_pos c1]
        exact ⟨some s, s1, rfl, Nat.le_refl _, by omega, by unfold nl; rw [c1]; rfl, fun j h4 h5 => absurd (Nat.lt_of_le_of_lt h4 h5) (Nat.lt_irrefl _)⟩
      · rw [if_neg c1]
        by_cases c2 : (text.getD s 0 == 13) = true
        · rw [if_pos c2]
          exact ⟨some s, s2, rfl, Nat.le_refl _, by omega, by unfold nl; rw [c2, Bool.or_true], fun j h4 h5 => absurd (Nat.lt_of_le_of_lt h4 h5) (Nat.lt_irrefl _)⟩
        · rw [if_neg c2]
          obtain ⟨r, seen', e3, f⟩ := ih (s + 1) s3 (by omega)
          refine ⟨r, seen', e3, found_next ?_ f⟩
          unfold nl
          rw [Bool.eq_false_iff.mpr c1, Bool.eq_false_iff.mpr c2]; rfl
def Res (text : Array Nat) (lim s : Nat) (m : M) : Prop :=
  (∃ b, s ≤ b ∧ b < lim ∧ nl text b = true ∧ (∀ j, s ≤ j → j < b → nl text j = false) ∧ Matched b (stop text lim b) m) ∨ ((∀ j, s ≤ j → j < lim → nl text j = false) ∧ Failed m)
theorem search_eq (text : Array Nat) (lim s : Nat) : ∃ (a b : M) (seen : Seen) (m : M), forSearch code text 0 s lim false = (if (decide (s > lim) || decide (lim - s < 1)) = true then a else b) ∧ (a.runFor 1).outcome = some .failed ∧
    m.code = code ∧ m.text = text ∧ m.lim = lim ∧
    b = (match M.admitted m (lim + 1 - s) s seen with
      | .ok (some s, seen) => S text lim s seen 10 s s true [F0 s true] 1 none
      | .ok (none, seen) => ({ m with seen } : M).say false
      | .error why => m.stick why) ∧ ∀ seen', ((({ m with seen := seen' } : M).say false).runFor 1).outcome = some .failed :=
  ⟨_, _, _, _, rfl, rfl, rfl, rfl, rfl, rfl, fun _ => rfl⟩
theorem search (text : Array Nat) (lim s : Nat) : Ends (forSearch code text 0 s lim false) 20 (Res text lim s) := by
  obtain ⟨a, b, seen, m, e, ha, h1, h2, h3, hb, hf⟩ := search_eq text lim s
  rw [e]
  by_cases h : lim ≤ s
  · have hc : (decide (s > lim) || decide (lim - s < 1)) = true := by simp; omega
    rw [if_pos hc]
    exact ⟨1, by omega, by rw [ha]; rfl, .inr ⟨fun j h1 h2 => absurd h2 (by omega), ha⟩⟩
  · have hc : (decide (s > lim) || decide (lim - s < 1)) = false := by simp; omega
    rw [hc, if_neg (by simp), hb]
    obtain ⟨r, seen', e2, f⟩ := adm m text lim h1 h2 h3 _ s seen (Nat.le_refl _)
    rw [e2]
    cases r with
    | none => exact ⟨1, by omega, by show ((({ m with seen := seen' } : M).say false).runFor 1).outcome.isSome = true; rw [hf]; rfl, .inr ⟨f, hf seen'⟩⟩
    | some c =>
      obtain ⟨f1, f2, f3, f4⟩ := f
      have hcc : text.getD c 0 = 10 ∨ text.getD c 0 = 13 := by
        unfold nl at f3
        simpa using f3
      obtain ⟨k, hk, g1, g2⟩ := attempt (text := text) (lim := lim) (s := c) (first := true) (seen := seen') f2 hcc
      exact ⟨k, hk, g1, .inl ⟨c, f1, f2, f3, f4, g2⟩⟩
end R2
end Mine
end
section
open PySem PySem.W PyProof.Rows
set_option Elab.async false
set_option maxRecDepth 100000
namespace Mine
open PySem.Builtin.Re
structure PatAt (h : Heap) (pat ct : Addr) (cd : Array Nat) : Prop where
  o : ∃ p fl, h.get? pat = some { cls := .type "re.Pattern", data := .fields #[p, fl, .int 0 0, .none, .none, .ref ct, .int 0 0] }
  c : ∃ items n, h.get? ct = some { cls := .type "tuple", data := .seq items n } ∧ ((items.map reRawOf).map (·.toNat)) = cd
theorem PatAt.keeps {h h' : Heap} {pat ct : Addr} {cd : Array Nat} (x : PatAt h pat ct cd) (k : ∀ b o, h.get? b = some o → h'.get? b = some o) : PatAt h' pat ct cd :=
  ⟨let ⟨p, fl, e⟩ := x.o; ⟨p, fl, k _ _ e⟩, let ⟨i, n, e, r⟩ := x.c; ⟨i, n, k _ _ e, r⟩⟩
def tgt (pat : Addr) (x : Str) (t : Tok) (cd : Array Nat) : ReTarget := { pattern := .ref pat, string := .str x t, code := cd, text := x.cps, kind := 0, groups := 0, pos := 0, lim := x.cps.size }
section
variable {prog : Program} {w : World} {A : Around} {E : Value → Shared → Prop} {s : Shared} {pat ct : Addr} {cd : Array Nat} {x : Str} {t : Tok}
theorem rawItems {Q : Array Int → Shared → Prop} {a : Addr} {items : Array Value} {n : Nat} {o : Obj} (ho : s.heap.get? a = some o) (hd : o.data = .seq items n) (h : Q (items.map reRawOf) s) : wpAny (model prog w) A (reRawItems (.ref a)) Q E s := by
  unfold reRawItems
  exact wpAny_bind (wpAny_seqItems ho hd (wpAny_pure h))
theorem wholeTarget {Q : ReTarget → Shared → Prop} (P : PatAt s.heap pat ct cd) (h : Q (tgt pat x t cd) s) : wpAny (model prog w) A (reWholeTarget (.ref pat) (.str x t)) Q E s := by
  obtain ⟨p, fl, e⟩ := P.o
  obtain ⟨items, n, e2, hc⟩ := P.c
  unfold reWholeTarget
  refine wpAny_bind (wpAny_fieldsOf e rfl ?_)
  show wpAny _ _ (reRawItems (.ref ct) >>= fun a => pure ({ pattern := .ref pat, string := .str x t, code := a.map (·.toNat), text := x.cps, kind := 0, groups := 0, pos := 0, lim := x.cps.size } : ReTarget)) _ _ _
  refine wpAny_bind (rawItems e2 rfl (wpAny_pure ?_))
  rw [hc]
  exact h
theorem forRules {f : Nat → PUnit → Sem (ForInStep PUnit)} (hf : ∀ (i : Nat) (u : PUnit) (Q : ForInStep PUnit → Shared → Prop), Q (.yield ⟨⟩) s → wpAny (model prog w) A (f i u) Q E s) :
    ∀ (l : List Nat) (Q : PUnit → Shared → Prop), Q ⟨⟩ s → wpAny (model prog w) A (forIn l ⟨⟩ f) Q E s
  | [], _, h => by rw [List.forIn_nil]; exact wpAny_pure h
  | i :: l, Q, h => by
    rw [List.forIn_cons]
    refine wpAny_bind (hf i _ _ ?_)
    exact forRules hf l Q h
theorem drive {P : Sre.M → Prop} {Q : Sre.M → Shared → Prop} : ∀ (n turns : Nat) (m : Sre.M), n < turns → ((m.runFor (4 * n)).outcome.isSome = true) → P (m.runFor (4 * n)) → (∀ m', m'.outcome.isSome = true → P m' → Q m' s) → wpAny (model prog w) A (reDrive turns m) Q E s
  | n, 0, m, h, _, _, _ => absurd h (Nat.not_lt_zero _)
  | 0, turns + 1, m, _, h1, h2, h3 => by
    have h1' : m.outcome.isSome = true := h1
    have e : m.runFor reTurnSteps = m := runFor_out h1' _
    show wpAny _ _ (if (m.runFor reTurnSteps).outcome.isSome = true then pure (m.runFor reTurnSteps) else _) Q E s
    rw [e, if_pos h1']
    exact wpAny_pure (h3 _ h1' h2)
  | n + 1, turns + 1, m, hn, h1, h2, h3 => by
    have e : m.runFor (4 * (n + 1)) = (m.runFor reTurnSteps).runFor (4 * n) := by
      rw [show 4 * (n + 1) = 4 + 4 * n by omega, runFor_add]; rfl
    rw [e] at h1 h2
    show wpAny _ _ (if (m.runFor reTurnSteps).outcome.isSome = true then pure (m.runFor reTurnSteps) else (do rule "sre.turn"; reDrive turns (m.runFor reTurnSteps))) Q E s
    by_cases h : (m.runFor reTurnSteps).outcome.isSome = true
    · rw [if_pos h]
      rw [runFor_out h] at h2
      exact wpAny_pure (h3 _ h h2)
    · rw [if_neg h]
      exact wpAny_bind (wpAny_rule (drive n turns _ (Nat.lt_of_succ_lt_succ hn) h1 h2 h3))
theorem runToEnd {m : Sre.M} {n : Nat} {P : Sre.M → Prop} {Q : Option Sre.M → Shared → Prop} (hm : Ends m n P) (hn : n < 2 ^ 60) (hM : ∀ m', m'.outcome = some .matched → P m' → Q (some m') s) (hF : ∀ m', m'.outcome = some .failed → P m' → Q none s)
    (hS : ∀ m', P m' → m'.outcome = some .matched ∨ m'.outcome = some .failed) : wpAny (model prog w) A (reRunToEnd m) Q E s := by
  obtain ⟨k, hk, h1, h2⟩ := hm
  unfold reRunToEnd
  have e : m.runFor (4 * k) = m.runFor k := by
    rw [show 4 * k = k + 3 * k by omega, runFor_add, runFor_out h1]
  refine wpAny_bind (drive (P := P) k (2 ^ 64) m (by omega) (by rw [e]; exact h1) (by rw [e]; exact h2) fun m' ho hp => ?_)
  refine wpAny_bind (forRules (fun i u Q hQ => ?_) _ _ ?_)
  · split
    · exact wpAny_bind (wpAny_rule (wpAny_pure hQ))
    · exact wpAny_pure hQ
  · rcases hS m' hp with h | h
    · rw [h]; exact wpAny_pure (hM m' h hp)
    · rw [h]; exact wpAny_pure (hF m' h hp)
end

structure Finder (cd : Array Nat) (F : Array Nat → Nat → Option (Nat × Nat)) : Prop where
  ok : ∀ text s, s ≤ text.size → Ends (Sre.forSearch cd text 0 s text.size false) (3 * text.size + 20) (fun m => match F text s with | some q => Matched q.1 q.2 m | none => Failed m)
  pos : ∀ text s q, s ≤ text.size → F text s = some q → s ≤ q.1 ∧ q.1 < q.2 ∧ q.2 ≤ text.size
def subOut (F : Array Nat → Nat → Option (Nat × Nat)) (z : List Nat) (text : Array Nat) : Nat → Nat → List Nat
  | 0, s => text.toList.drop s
  | n + 1, s => match F text s with
    | some q => (text.toList.drop s).take (q.1 - s) ++ z ++ subOut F z text n q.2
    | none => text.toList.drop s
def loopArgs (pat : Addr) (x : Str) (tx : Tok) (z : Str) (tz : Tok) (k : Int) (s : Nat) (pl : Addr) : Args := ⟨[.ref pat, .str x tx, .str z tz, rawInt 0, rawInt 0, rawInt k, rawInt s, rawInt s, .bool false, .ref pl, .bool false], []⟩
section
variable {prog : Program} {w : World} {A : Around} {E : Value → Shared → Prop} {s : Shared} {pat ct : Addr} {cd : Array Nat} {x : Str} {t : Tok} {F : Array Nat → Nat → Option (Nat × Nat)}
theorem nextFound {k : Nat} {Q : Option Sre.M → Shared → Prop} (hF : Finder cd F) (hx : x.length ≤ 1000000) (hk : k ≤ x.cps.size)
    (hQ : match F x.cps k with | some q => ∀ m, m.start = q.1 → m.handed = q.2 → Q (some m) s | none => Q none s) :
    wpAny (model prog w) A (reNextFound (tgt pat x t cd) k false) Q E s := by
  have h := hF.ok x.cps k hk
  have hx' : x.cps.size ≤ 1000000 := hx
  unfold reNextFound
  refine runToEnd h (by omega) (fun m' ho hp => ?_) (fun m' ho hp => ?_) (fun m' hp => ?_)
  · cases hf : F x.cps k with
    | none => rw [hf] at hp; have hp' : m'.outcome = some .failed := hp; rw [hp'] at ho; cases ho
    | some q => rw [hf] at hp hQ; exact hQ m' hp.2.1 hp.2.2
  · cases hf : F x.cps k with
    | none => rw [hf] at hQ; exact hQ
    | some q => rw [hf] at hp; have hp' : m'.outcome = some .matched := hp.1; rw [hp'] at ho; cases ho
  · cases hf : F x.cps k with
    | none => rw [hf] at hp; exact .inr hp
    | some q => rw [hf] at hp; exact .inl hp.1
theorem slice0 {b e : Nat} {Q : Value → Shared → Prop} (hx : x.length ≤ 1000000) (h : Q (.str (ofL ((x.cps.toList.drop b).take (e - b))) s.toks) { s with toks := s.toks + 1 }) : wpAny (model prog w) A (reSlice x.cps 0 b e) Q E s := by
  have hx' : x.cps.size ≤ 1000000 := hx
  have e1 : (⟨x.cps.extract b e⟩ : Str) = ofL ((x.cps.toList.drop b).take (e - b)) := PySem.Str.ext' (Array.toList_inj.mp (by simp [ofL]))
  show wpAny _ _ (mkStr ⟨x.cps.extract b e⟩) _ _ _
  rw [e1]
  refine wpAny_mkStr h ?_
  rw [ofL_length, sizeLine_eq, List.length_take, List.length_drop]
  simp
  omega
theorem pushPiece {pl : Addr} {l : List (Str × Tok)} {ep : Nat} {y : Str} {ty : Tok} {Q : Unit → Shared → Prop} (ho : s.heap.get? pl = some { cls := .type "list", data := .seq (strValues l).toArray ep }) (hl : l.length ≤ 3000000)
    (h : ∀ h', h'.get? pl = some { cls := .type "list", data := .seq (strValues (l ++ [(y, ty)])).toArray (ep + 1) } → Heap.SameBut pl s.heap h' → Q () { s with heap := h' }) :
    wpAny (model prog w) A (updateSeq pl (·.push (.str y ty))) Q E s := by
  have hsz : (strValues l).toArray.size ≤ sizeLine := by rw [sizeLine_eq]; simp [strValues]; omega
  refine wpAny_updateSeq ho rfl (h _ ?_ (Heap.SameBut.update ..)) hsz (by rw [Array.size_push]; omega)
  · rw [Heap.get?_update_self _ ho (by rw [mapSeq_push]; rfl), mapSeq_push]
    have e : (strValues l).toArray.push (.str y ty) = (strValues (l ++ [(y, ty)])).toArray := by simp [strValues]
    rw [e]

def flatP (ps : List (Str × Tok)) : List Nat := (ps.map fun p => p.1.cps.toList).flatten
theorem flatP_snoc (ps : List (Str × Tok)) (y : Str) (ty : Tok) : flatP (ps ++ [(y, ty)]) = flatP ps ++ y.cps.toList := by simp [flatP]
theorem joinL_nil : ∀ l : List (List Nat), joinL [] l = l.flatten
  | [] => rfl
  | [a] => by simp [joinL]
  | a :: b :: r => by
    show a ++ [] ++ joinL [] (b :: r) = _
    rw [joinL_nil (b :: r)]; simp
theorem join_flat (ps : List (Str × Tok)) : Str.join (ofL []) (ps.map fun q => q.1) = ofL (flatP ps) := by
  refine eq_ofL ?_
  rw [join_list, List.map_map]
  exact joinL_nil _
theorem flat_len (ps : List (Str × Tok)) : ((ps.map fun q => q.1).map fun y => y.length).sum = (flatP ps).length := by
  unfold flatP
  rw [List.length_flatten, List.map_map, List.map_map]
  refine congrArg List.sum (List.map_congr_left fun q _ => ?_)
  exact (len_eq q.1).symm

theorem subLoop {z : Str} {tz : Tok} {pl : Addr} {R : Result → Shared → Prop} (hF : Finder cd F) (hx : x.length ≤ 1000000) (hne1 : pat ≠ pl) (hne2 : ct ≠ pl) : ∀ (n : Nat) (k : Int) (a : Nat) (ps : List (Str × Tok)) (ep : Nat) (s : Shared), x.cps.size - a ≤ n → a ≤ x.cps.size →
    s.heap.get? pl = some { cls := .type "list", data := .seq (strValues ps).toArray ep } → PatAt s.heap pat ct cd → ps.length + 2 * n + 2 ≤ 3000000 → (flatP ps ++ subOut F z.cps.toList x.cps n a).length ≤ 1000000 →
    (∀ h' t' tk', Heap.ExtBut pl s.heap h' → R (.ok (.ret (.str (ofL (flatP ps ++ subOut F z.cps.toList x.cps n a)) t'))) ⟨h', s.gens, s.drawn, tk', s.os⟩) →
    codeAny (model prog w) A (.builtin "re.Pattern.sub.loop" (loopArgs pat x t z tz k a pl)) R s := by
  -- the end of the loop
  have fin : ∀ (a : Nat) (ps : List (Str × Tok)) (ep : Nat) (s : Shared) (A : Around) (R : Fin → Shared → Prop) (E : Value → Shared → Prop), s.heap.get? pl = some { cls := .type "list", data := .seq (strValues ps).toArray ep } → ps.length ≤ 3000000 →
      (flatP ps).length ≤ 1000000 → (∀ t' tk', R (.done (.ret (.str (ofL (flatP ps)) t'))) { s with toks := tk' }) →
      wpAny (model prog w) A (do
        let joiner ← reSlice x.cps 0 0 0
        let text ← if ((← seqItems? (.ref pl)).getD #[]).isEmpty then pure joiner else call (.builtin "str.join") [joiner, .ref pl]
        ret text) R E s := by
    intro a ps ep s A R E ho hl hf hR
    refine wpAny_bind (slice0 hx ?_)
    have e0 : (ofL (List.take (0 - 0) (List.drop 0 x.cps.toList)) : Str) = ofL [] := by simp
    rw [e0]
    refine wpAny_bind (wpAny_seqItems (items := (strValues ps).toArray) ho rfl ?_)
    cases ps with
    | nil => exact wpAny_pure (hR _ _)
    | cons p r =>
      refine wpAny_bind (joinP (l := p :: r) ⟨_, ho, rfl, _, rfl⟩ ?_ fun t' k' => ?_)
      · rw [flat_len]
        have : (ofL ([] : List Nat)).length = 0 := rfl
        rw [this]; omega
      · rw [join_flat]
        exact wpAny_pure (hR t' k')
  -- no more match
  have last : ∀ (a : Nat) (ps : List (Str × Tok)) (ep : Nat) (s : Shared) (A : Around) (R : Fin → Shared → Prop) (E : Value → Shared → Prop), s.heap.get? pl = some { cls := .type "list", data := .seq (strValues ps).toArray ep } → ps.length + 2 ≤ 3000000 →
      (flatP ps ++ x.cps.toList.drop a).length ≤ 1000000 → (∀ h' t' tk', Heap.ExtBut pl s.heap h' → R (.done (.ret (.str (ofL (flatP ps ++ x.cps.toList.drop a)) t'))) ⟨h', s.gens, s.drawn, tk', s.os⟩) →
      wpAny (model prog w) A (if a < x.cps.size then (do
          let v ← reSlice x.cps 0 a x.cps.size
          updateSeq pl (·.push v)
          let joiner ← reSlice x.cps 0 0 0
          let text ← if ((← seqItems? (.ref pl)).getD #[]).isEmpty then pure joiner else call (.builtin "str.join") [joiner, .ref pl]
          ret text) else (do
          let joiner ← reSlice x.cps 0 0 0
          let text ← if ((← seqItems? (.ref pl)).getD #[]).isEmpty then pure joiner else call (.builtin "str.join") [joiner, .ref pl]
          ret text)) R E s := by
    intro a ps ep s A R E ho hl hf hR
    have hsz : x.cps.toList.length = x.cps.size := by simp
    by_cases h : a < x.cps.size
    · rw [if_pos h]
      refine wpAny_bind (slice0 hx ?_)
      refine wpAny_bind (pushPiece ho (by omega) fun h1 ho1 hs1 => ?_)
      have e : flatP (ps ++ [(ofL (List.take (x.cps.size - a) (List.drop a x.cps.toList)), s.toks)]) = flatP ps ++ x.cps.toList.drop a := by
        rw [flatP_snoc, ofL_list, List.take_of_length_le (by rw [List.length_drop]; omega)]
      refine fin a _ (ep + 1) _ _ _ _ ho1 (by rw [List.length_append]; simp; omega) (by rw [e]; rw [List.length_append] at hf ⊢; omega) fun t' tk' => ?_
      rw [e]
      exact hR h1 t' tk' hs1.extBut
    · rw [if_neg h]
      have e : x.cps.toList.drop a = [] := List.drop_eq_nil_of_le (by omega)
      rw [e, List.append_nil] at hf hR
      exact fin a ps ep s _ _ _ ho (by omega) hf fun t' tk' => hR s.heap t' tk' (fun b o _ e => e)
  intro n
  induction n with
  | zero =>
    intro k a ps ep s hn ha ho P hps hfit hR
    refine codeAny_builtin entry_loop ?_
    show wpAny _ _ (reWholeTarget (.ref pat) (.str x t) >>= _) _ _ _
    refine wpAny_bind (wholeTarget P ?_)
    refine wpAny_bind (wpAny_of_eq (a := ()) rfl ?_)
    show wpAny _ _ (reNextFound (tgt pat x t cd) (a : Int).toNat false >>= _) _ _ _
    rw [Int.toNat_natCast]
    refine wpAny_bind (nextFound hF hx ha ?_)
    have hnone : F x.cps a = none := by
      cases h : F x.cps a with
      | none => rfl
      | some q => have := hF.pos _ _ _ ha h; omega
    rw [hnone]
    exact last a ps ep s _ _ _ ho (by omega) hfit fun h' t' tk' hx' => hR h' t' tk' hx'
  | succ n ih =>
    intro k a ps ep s hn ha ho P hps hfit hR
    refine codeAny_builtin entry_loop ?_
    show wpAny _ _ (reWholeTarget (.ref pat) (.str x t) >>= _) _ _ _
    refine wpAny_bind (wholeTarget P ?_)
    refine wpAny_bind (wpAny_of_eq (a := ()) rfl ?_)
    show wpAny _ _ (reNextFound (tgt pat x t cd) (a : Int).toNat false >>= _) _ _ _
    rw [Int.toNat_natCast]
    refine wpAny_bind (nextFound hF hx ha ?_)
    cases hf : F x.cps a with
    | none =>
      have e : subOut F z.cps.toList x.cps (n + 1) a = x.cps.toList.drop a := by unfold subOut; rw [hf]
      rw [e] at hfit hR
      exact last a ps ep s _ _ _ ho (by omega) hfit fun h' t' tk' hx' => hR h' t' tk' hx'
    | some q =>
      obtain ⟨hq1, hq2, hq3⟩ := hF.pos _ _ _ ha hf
      have e : subOut F z.cps.toList x.cps (n + 1) a = (x.cps.toList.drop a).take (q.1 - a) ++ z.cps.toList ++ subOut F z.cps.toList x.cps n q.2 := by
        conv => lhs; unfold subOut
        rw [hf]
      rw [e] at hfit hR
      intro m hm1 hm2
      have hb : (m.handed == m.start) = false := by rw [hm1, hm2]; simp; omega
      -- what stands behind the pieces
      have go : ∀ (ps' : List (Str × Tok)) (ep' : Nat) (s' : Shared) (E' : Value → Shared → Prop), s'.heap.get? pl = some { cls := .type "list", data := .seq (strValues ps').toArray ep' } → PatAt s'.heap pat ct cd → ps'.length ≤ ps.length + 1 →
          flatP ps' = flatP ps ++ (x.cps.toList.drop a).take (q.1 - a) → Heap.ExtBut pl s.heap s'.heap → s'.gens = s.gens → s'.drawn = s.drawn → s'.os = s.os →
          wpAny (model prog w) (A.under (.builtin "re.Pattern.sub.loop" (loopArgs pat x t z tz k a pl))) (do
            updateSeq pl (·.push (.str z tz))
            again (.builtin "re.Pattern.sub.loop" ⟨[.ref pat, .str x t, .str z tz, rawInt 0, rawInt 0, rawInt (k + 1), rawInt m.handed, rawInt m.handed, .bool (m.handed == m.start), .ref pl, .bool false], []⟩))
            (fun fin s' => match fin with | .done f => R (.ok f) s' | .again c' => c'.quiet = true ∧ codeAny (model prog w) A c' R s') E' s' := by
        intro ps' ep' s' E' ho' P' hl' hfl hext hg hd hos
        refine wpAny_bind (pushPiece ho' (by omega) fun h2 ho2 hs2 => ?_)
        refine wpAny_pure ⟨plainId_quiet loop_plain _, ?_⟩
        have e2 : flatP (ps' ++ [(z, tz)]) ++ subOut F z.cps.toList x.cps n q.2 = flatP ps ++ ((x.cps.toList.drop a).take (q.1 - a) ++ z.cps.toList ++ subOut F z.cps.toList x.cps n q.2) := by
          rw [flatP_snoc, hfl]; simp only [List.append_assoc]
        rw [hb, hm2]
        refine ih (k + 1) q.2 (ps' ++ [(z, tz)]) (ep' + 1) _ (by omega) hq3 ho2 ⟨?_, ?_⟩ (by rw [List.length_append]; simp; omega) (by rw [e2]; exact hfit) fun h' t' tk' hx' => ?_
        · obtain ⟨p, fl, e⟩ := P'.o; exact ⟨p, fl, hs2.extBut _ _ hne1 e⟩
        · obtain ⟨i, n, e, r⟩ := P'.c; exact ⟨i, n, hs2.extBut _ _ hne2 e, r⟩
        · rw [e2]
          have h9 := hR h' t' tk' (fun b o hb e => hx' b o hb (hs2.extBut b o hb (hext b o hb e)))
          rw [← hg, ← hd, ← hos] at h9
          exact h9
      show wpAny _ _ (if a < m.start then (do
          let v ← reSlice x.cps 0 a m.start
          updateSeq pl (·.push v)
          updateSeq pl (·.push (.str z tz))
          again (.builtin "re.Pattern.sub.loop" ⟨[.ref pat, .str x t, .str z tz, rawInt 0, rawInt 0, rawInt (k + 1), rawInt m.handed, rawInt m.handed, .bool (m.handed == m.start), .ref pl, .bool false], []⟩)) else (do
          updateSeq pl (·.push (.str z tz))
          again (.builtin "re.Pattern.sub.loop" ⟨[.ref pat, .str x t, .str z tz, rawInt 0, rawInt 0, rawInt (k + 1), rawInt m.handed, rawInt m.handed, .bool (m.handed == m.start), .ref pl, .bool false], []⟩))) _ _ _
      by_cases h : a < m.start
      · rw [if_pos h]
        refine wpAny_bind (slice0 hx ?_)
        refine wpAny_bind (pushPiece ho (by omega) fun h1 ho1 hs1 => ?_)
        refine go _ _ _ _ ho1 ⟨?_, ?_⟩ (by rw [List.length_append]; simp) (by rw [flatP_snoc, ofL_list, hm1]) hs1.extBut rfl rfl rfl
        · obtain ⟨p, fl, e⟩ := P.o; exact ⟨p, fl, hs1.extBut _ _ hne1 e⟩
        · obtain ⟨i, n, e, r⟩ := P.c; exact ⟨i, n, hs1.extBut _ _ hne2 e, r⟩
      · rw [if_neg h]
        refine go ps ep s _ ho P (by omega) ?_ (fun b o _ e => e) rfl rfl rfl
        rw [show q.1 - a = 0 by omega, List.take_zero, List.append_nil]
end
end Mine
end
section
open PySem PySem.W PyProof.Rows
set_option Elab.async false
set_option maxRecDepth 100000
namespace Mine
open PySem.Builtin.Re
section
variable {prog : Program} {w : World} {A : Around} {E : Value → Shared → Prop} {s : Shared} {pat ct : Addr} {cd : Array Nat} {x z : Str} {t tz : Tok} {F : Array Nat → Nat → Option (Nat × Nat)} {Q : Value → Shared → Prop}
theorem named_sub (a b : Value) : reNamed "re.Pattern.sub" "sub" ["repl", "string", "count"] 2 [a, b] [] = pure [some a, some b, none] := by rfl
theorem subCall (hF : Finder cd F) (hx : x.length ≤ 1000000) (P : PatAt s.heap pat ct cd) (hz : z.cps.contains 92 = false) (hfit : (subOut F z.cps.toList x.cps x.cps.size 0).length ≤ 1000000)
    (h : ∀ h' t' tk', (∀ b o, s.heap.get? b = some o → h'.get? b = some o) → Q (.str (ofL (subOut F z.cps.toList x.cps x.cps.size 0)) t') ⟨h', s.gens, s.drawn, tk', s.os⟩) :
    wpAny (model prog w) A (call (.builtin "re.Pattern.sub") [.ref pat, .str z tz, .str x t]) Q E s := by
  have hT : s.TypeIs (.ref pat) "re.Pattern" := by obtain ⟨p, fl, e⟩ := P.o; exact ⟨_, e, rfl⟩
  refine wpAny_call (codeAny_call_builtin slot_sub.plain entry_sub (slot_sub.check _ _ _ _ _ _ _ _ hT (args_sub _ _ _) ?_))
  unfold Builtin.«re.Pattern.sub» reSubstitute
  show wpAny _ _ (reNamed "re.Pattern.sub" "sub" ["repl", "string", "count"] 2 [.str z tz, .str x t] [] >>= _) _ _ _
  rw [named_sub]
  refine wpAny_bind (wpAny_pure ?_)
  refine wpAny_bind (wpAny_pure ?_)
  refine wpAny_bind (wpAny_specialOf (typeIs_str _ _ _) str_nocall ?_)
  show wpAny _ _ (asStr? (.str z tz) >>= _) _ _ _
  refine wpAny_bind (wpAny_of_eq (a := some z) rfl ?_)
  show wpAny _ _ (if (!z.cps.contains 92) = true then _ else _) _ _ _
  rw [hz, if_pos (show (!false) = true from rfl)]
  show wpAny _ _ (holding [.str z tz] (reWholeTarget (.ref pat) (.str x t)) >>= _) _ _ _
  refine wpAny_bind (wpAny_holding (wholeTarget P ?_))
  show wpAny _ _ (newList [] >>= _) _ _ _
  refine wpAny_bind (wpAny_newObj_type ?_ (Nat.zero_le _))
  refine wpAny_pure ⟨plainId_quiet loop_plain _, ?_⟩
  have up : ∀ b o, s.heap.get? b = some o → (s.heap.push { cls := .type "list", data := .seq ([] : List Value).toArray }).get? b = some o := fun b o e => Heap.get?_push_of_some _ e
  have lt : ∀ b o, s.heap.get? b = some o → b ≠ s.heap.objs.size := fun b o e => Nat.ne_of_lt (Heap.lt_size e)
  have P1 : PatAt (s.heap.push { cls := .type "list", data := .seq ([] : List Value).toArray }) pat ct cd := P.keeps up
  have hne1 : pat ≠ s.heap.objs.size := by obtain ⟨p, fl, e⟩ := P.o; exact lt _ _ e
  have hne2 : ct ≠ s.heap.objs.size := by obtain ⟨i, n, e, _⟩ := P.c; exact lt _ _ e
  have hx' : x.cps.size ≤ 1000000 := hx
  refine subLoop (pl := s.heap.objs.size) hF hx hne1 hne2 x.cps.size 0 0 [] 0 _ (by omega) (Nat.zero_le _) (Heap.get?_push_size _ rfl) P1 (by simp; omega) hfit fun h' t' tk' hext => ?_
  exact h h' t' tk' fun b o e => hext b o (lt b o e) (up b o e)
end
end Mine
end
section
open PySem PySem.W PyProof.Rows
set_option Elab.async false
set_option maxRecDepth 100000
namespace Mine
def firstAt (p : Nat → Bool) (s e : Nat) : Option Nat := (List.range' s (e - s)).find? p
theorem firstAt_some {p : Nat → Bool} {s e b : Nat} (h1 : s ≤ b) (h2 : b < e) (h3 : p b = true) (h4 : ∀ j, s ≤ j → j < b → p j = false) : firstAt p s e = some b := by
  unfold firstAt
  rw [List.find?_range'_eq_some]
  exact ⟨h3, by rw [List.mem_range'_1]; omega, fun j a b => by rw [h4 j a b]; rfl⟩
theorem firstAt_none {p : Nat → Bool} {s e : Nat} (h : ∀ j, s ≤ j → j < e → p j = false) : firstAt p s e = none := by
  unfold firstAt
  rw [List.find?_range'_eq_none]
  exact fun j a b => by rw [h j a (by omega)]; rfl
theorem of_firstAt {p : Nat → Bool} {s e b : Nat} (h : firstAt p s e = some b) : s ≤ b ∧ b < e ∧ p b = true ∧ ∀ j, s ≤ j → j < b → p j = false := by
  unfold firstAt at h
  rw [List.find?_range'_eq_some] at h
  obtain ⟨h1, h2, h3⟩ := h
  rw [List.mem_range'_1] at h2
  exact ⟨h2.1, by omega, h1, fun j a b => by have := h3 j a b; simpa using this⟩
theorem of_firstAt_none {p : Nat → Bool} {s e : Nat} (h : firstAt p s e = none) : ∀ j, s ≤ j → j < e → p j = false := by
  unfold firstAt at h
  rw [List.find?_range'_eq_none] at h
  exact fun j a b => by have := h j a (by omega); simpa using this
def FR1 (text : Array Nat) (s : Nat) : Option (Nat × Nat) := (firstAt (R1.hit text) s text.size).map fun b => (b, b + 1)
def FR2 (text : Array Nat) (s : Nat) : Option (Nat × Nat) := (firstAt (R2.nl text) s text.size).map fun b => (b, R2.stop text text.size b)
theorem finder1 : Finder R1.code FR1 where
  ok := fun text s _ => by
    obtain ⟨k, hk, h1, h2⟩ := R1.search text text.size s
    refine ⟨k, by omega, h1, ?_⟩
    rcases h2 with ⟨b, g1, g2, g3, g4, g5⟩ | ⟨g1, g2⟩
    · unfold FR1; rw [firstAt_some g1 g2 g3 g4]; exact g5
    · unfold FR1; rw [firstAt_none g1]; exact g2
  pos := fun text s q _ h => by
    unfold FR1 at h
    obtain ⟨b, hb, rfl⟩ := Option.map_eq_some_iff.mp h
    obtain ⟨h1, h2, _⟩ := of_firstAt hb
    exact ⟨h1, Nat.lt_succ_self _, h2⟩
theorem stop_pos (text : Array Nat) {lim b : Nat} (h : b < lim) : b < R2.stop text lim b ∧ R2.stop text lim b ≤ lim := by
  unfold R2.stop
  split <;> omega
theorem finder2 : Finder R2.code FR2 where
  ok := fun text s _ => by
    obtain ⟨k, hk, h1, h2⟩ := R2.search text text.size s
    refine ⟨k, by omega, h1, ?_⟩
    rcases h2 with ⟨b, g1, g2, g3, g4, g5⟩ | ⟨g1, g2⟩
    · unfold FR2; rw [firstAt_some g1 g2 g3 g4]; exact g5
    · unfold FR2; rw [firstAt_none g1]; exact g2
  pos := fun text s q _ h => by
    unfold FR2 at h
    obtain ⟨b, hb, rfl⟩ := Option.map_eq_some_iff.mp h
    obtain ⟨h1, h2, _⟩ := of_firstAt hb
    exact ⟨h1, (stop_pos text h2).1, (stop_pos text h2).2⟩

/-! what they make of a text -/
def crlf : List Nat → List Nat
  | [] => []
  | c :: r =>
    if c = 13 then 13 :: 10 :: (match r with
      | [] => []
      | d :: r' => if d = 10 then crlf r' else crlf (d :: r'))
    else if c = 10 then 13 :: 10 :: crlf r else c :: crlf r
theorem crlf_nil : crlf [] = [] := by unfold crlf; rfl
theorem crlf_rf (r : List Nat) : crlf (13 :: 10 :: r) = 13 :: 10 :: crlf r := by rw [crlf.eq_def]; simp
theorem crlf_r {d : Nat} (r : List Nat) (h : d ≠ 10) : crlf (13 :: d :: r) = 13 :: 10 :: crlf (d :: r) := by rw [crlf.eq_def]; simp [h]
theorem crlf_r1 : crlf [13] = [13, 10] := by rw [crlf.eq_def]; simp
theorem crlf_f (r : List Nat) : crlf (10 :: r) = 13 :: 10 :: crlf r := by rw [crlf.eq_def]; simp
theorem crlf_c {c : Nat} (r : List Nat) (h1 : c ≠ 13) (h2 : c ≠ 10) : crlf (c :: r) = c :: crlf r := by rw [crlf.eq_def]; simp [h1, h2]
def dots : Bool → List Nat → List Nat
  | _, [] => []
  | b, c :: r => if b = true ∧ c = 46 then 46 :: 46 :: dots false r else c :: dots (c == 10) r
theorem dots_hit (r : List Nat) : dots true (46 :: r) = 46 :: 46 :: dots false r := by rw [dots]; simp
theorem dots_c {b : Bool} {c : Nat} (r : List Nat) (h : ¬ (b = true ∧ c = 46)) : dots b (c :: r) = c :: dots (c == 10) r := by rw [dots]; simp [h]
theorem dots_crlf (l : List Nat) : ∀ b, dots b (crlf l) = sendG b l := by
  refine send_cases (P := fun l => ∀ b, dots b (crlf l) = sendG b l) ?_ ?_ ?_ ?_ ?_ ?_ l
  · intro b; rw [crlf_nil, sendG_nil]; rfl
  · intro r ih b; rw [crlf_rf, sendG_rf, dots_c _ (by simp), dots_c _ (by simp)]; exact congrArg _ (congrArg _ (ih true))
  · intro b; rw [crlf_r1, sendG_r1, dots_c _ (by simp), dots_c _ (by simp)]; rfl
  · intro d r hd ih b; rw [crlf_r r hd, sendG_r b r hd, dots_c _ (by simp), dots_c _ (by simp)]; exact congrArg _ (congrArg _ (ih true))
  · intro r ih b; rw [crlf_f, sendG_f, dots_c _ (by simp), dots_c _ (by simp)]; exact congrArg _ (congrArg _ (ih true))
  · intro c r h1 h2 ih b
    rw [crlf_c r h1 h2]
    by_cases h3 : b = true ∧ c = 46
    · obtain ⟨rfl, rfl⟩ := h3
      rw [dots_hit, sendG_dot, ih false]
    · have e : (c == 10) = false := by simpa using h2
      rw [dots_c _ h3, sendG_c b r h1 h2 h3, e, ih false]
theorem crlf_pre : ∀ (p r : List Nat), (∀ c ∈ p, c ≠ 13 ∧ c ≠ 10) → crlf (p ++ r) = p ++ crlf r
  | [], _, _ => rfl
  | c :: p, r, h => by
    have hc := h c List.mem_cons_self
    rw [List.cons_append, crlf_c _ hc.1 hc.2, crlf_pre p r fun d hd => h d (List.mem_cons_of_mem _ hd)]; rfl
theorem getD_list (text : Array Nat) (k : Nat) : text.getD k 0 = text.toList.getD k 0 := by simp [Array.getD_eq_getD_getElem?, List.getD]
theorem drop_cons (text : Array Nat) {k : Nat} (h : k < text.size) : text.toList.drop k = text.getD k 0 :: text.toList.drop (k + 1) := by
  rw [getD_list, List.drop_eq_getElem_cons (by simpa using h)]
  simp [List.getD, h]
theorem take_drop_cat (l : List Nat) {a b : Nat} (h : a ≤ b) : (l.drop a).take (b - a) ++ l.drop b = l.drop a := by
  have e : l.drop b = (l.drop a).drop (b - a) := by rw [List.drop_drop]; congr 1; omega
  rw [e, List.take_append_drop]
theorem mem_take_drop {text : Array Nat} {a b c : Nat} (h : c ∈ (text.toList.drop a).take (b - a)) (hb : b ≤ text.size) : ∃ j, a ≤ j ∧ j < b ∧ text.getD j 0 = c := by
  obtain ⟨i, hi, e⟩ := List.mem_iff_getElem.mp h
  rw [List.length_take, List.length_drop] at hi
  refine ⟨a + i, by omega, by omega, ?_⟩
  rw [List.getElem_take, List.getElem_drop] at e
  rw [getD_list, ← e]
  have : a + i < text.toList.length := by simp at hi ⊢; omega
  rw [List.getD_eq_getElem?_getD, List.getElem?_eq_getElem this]; rfl
theorem sub2 (text : Array Nat) : ∀ (n s : Nat), text.size - s ≤ n → s ≤ text.size → subOut FR2 [13, 10] text n s = crlf (text.toList.drop s) := by
  intro n
  induction n with
  | zero =>
    intro s h1 h2
    have e : text.toList.drop s = [] := List.drop_eq_nil_of_le (by simp; omega)
    unfold subOut
    rw [e, crlf_nil]
  | succ n ih =>
    intro s h1 h2
    unfold subOut
    cases hf : FR2 text s with
    | none =>
      unfold FR2 at hf
      have hn := of_firstAt_none (Option.map_eq_none_iff.mp hf)
      have := crlf_pre (text.toList.drop s) [] fun c hc => by
        rw [← List.take_of_length_le (l := text.toList.drop s) (i := text.size - s) (by simp)] at hc
        obtain ⟨j, g1, g2, rfl⟩ := mem_take_drop hc (Nat.le_refl _)
        have := hn j g1 g2
        unfold R2.nl at this
        rw [Bool.or_eq_false_iff] at this
        exact ⟨by simpa using this.2, by simpa using this.1⟩
      rw [List.append_nil, crlf_nil, List.append_nil] at this
      exact this.symm
    | some q =>
      unfold FR2 at hf
      obtain ⟨b, hb, rfl⟩ := Option.map_eq_some_iff.mp hf
      obtain ⟨g1, g2, g3, g4⟩ := of_firstAt hb
      have hst := stop_pos text g2
      dsimp only
      rw [ih _ (by omega) hst.2, ← take_drop_cat text.toList g1, crlf_pre]
      · rw [List.take_append_of_le_length (by rw [List.length_take, List.length_drop]; simp; omega), List.take_of_length_le (by rw [List.length_take]; omega), List.append_assoc]
        congr 1
        have hc : text.getD b 0 = 10 ∨ text.getD b 0 = 13 := by unfold R2.nl at g3; simpa using g3
        rw [drop_cons text g2]
        unfold R2.stop
        by_cases h13 : text.getD b 0 = 13
        · rw [h13]
          by_cases hn : b + 1 < text.size
          · rw [drop_cons text hn]
            by_cases h10 : text.getD (b + 1) 0 = 10
            · rw [if_pos ⟨rfl, hn, h10⟩, h10, crlf_rf]; rfl
            · rw [if_neg (fun q => h10 q.2.2), crlf_r _ h10, ← drop_cons text hn]; rfl
          · have e : text.toList.drop (b + 1) = [] := List.drop_eq_nil_of_le (by simp; omega)
            rw [if_neg (fun q => hn q.2.1), e, crlf_r1, crlf_nil]; rfl
        · have h10 := hc.resolve_right h13
          rw [if_neg (fun q => h13 q.1), h10, crlf_f]; rfl
      · intro c hc
        obtain ⟨j, k1, k2, rfl⟩ := mem_take_drop hc (by omega)
        have := g4 j k1 k2
        unfold R2.nl at this
        rw [Bool.or_eq_false_iff] at this
        exact ⟨by simpa using this.2, by simpa using this.1⟩
theorem row_next (text : Array Nat) (s : Nat) : R1.rowAt text (s + 1) = (text.getD s 0 == 10) := by
  unfold R1.rowAt
  simp
theorem dots_pre (text : Array Nat) : ∀ (n s b : Nat), b = s + n → b ≤ text.size → (∀ j, s ≤ j → j < b → R1.hit text j = false) → dots (R1.rowAt text s) (text.toList.drop s) = (text.toList.drop s).take n ++ dots (R1.rowAt text b) (text.toList.drop b)
  | 0, s, b, h, _, _ => by subst h; rfl
  | n + 1, s, b, h, hb, hn => by
    have hs := hn s (Nat.le_refl _) (by omega)
    rw [drop_cons text (show s < text.size by omega), dots_c, ← row_next, dots_pre text n (s + 1) b (by omega) hb fun j a c => hn j (by omega) c, List.take_succ_cons]
    · rfl
    · rintro ⟨a, c⟩
      unfold R1.hit at hs
      rw [a, c] at hs
      exact absurd hs (by decide)
theorem sub1 (text : Array Nat) : ∀ (n s : Nat), text.size - s ≤ n → s ≤ text.size → subOut FR1 [46, 46] text n s = dots (R1.rowAt text s) (text.toList.drop s) := by
  intro n
  induction n with
  | zero =>
    intro s h1 h2
    have e : text.toList.drop s = [] := List.drop_eq_nil_of_le (by simp; omega)
    unfold subOut
    rw [e]; rfl
  | succ n ih =>
    intro s h1 h2
    unfold subOut
    cases hf : FR1 text s with
    | none =>
      unfold FR1 at hf
      have hn := of_firstAt_none (Option.map_eq_none_iff.mp hf)
      have := dots_pre text (text.size - s) s text.size (by omega) (Nat.le_refl _) hn
      have e : text.toList.drop text.size = [] := List.drop_eq_nil_of_le (by simp)
      rw [e, List.take_of_length_le (by simp)] at this
      rw [this]
      show _ = _ ++ []
      rw [List.append_nil]
    | some q =>
      unfold FR1 at hf
      obtain ⟨b, hb, rfl⟩ := Option.map_eq_some_iff.mp hf
      obtain ⟨g1, g2, g3, g4⟩ := of_firstAt hb
      dsimp only
      rw [dots_pre text (b - s) s b (by omega) (by omega) g4, ih (b + 1) (by omega) (by omega), List.append_assoc]
      congr 1
      unfold R1.hit at g3
      rw [Bool.and_eq_true] at g3
      have hc : text.getD b 0 = 46 := by simpa using g3.2
      rw [g3.1, drop_cons text g2, hc, dots_hit, row_next, hc]; rfl
theorem quote_send (x : List Nat) : subOut FR1 [46, 46] (crlf x).toArray (crlf x).length 0 = sendL x := by
  have h := sub1 (crlf x).toArray (crlf x).length 0 (by simp) (Nat.zero_le _)
  rw [h]
  show dots true (crlf x) = _
  exact dots_crlf x true
theorem crlf_len (l : List Nat) : (crlf l).length ≤ 2 * l.length := by
  refine send_cases (P := fun l => (crlf l).length ≤ 2 * l.length) ?_ ?_ ?_ ?_ ?_ ?_ l
  · rw [crlf_nil]; exact Nat.zero_le _
  · intro r ih; rw [crlf_rf]; simp only [List.length_cons]; omega
  · rw [crlf_r1]; simp
  · intro d r hd ih; rw [crlf_r r hd]; simp only [List.length_cons] at ih ⊢; omega
  · intro r ih; rw [crlf_f]; simp only [List.length_cons]; omega
  · intro c r h1 h2 ih; rw [crlf_c r h1 h2]; simp only [List.length_cons]; omega
end Mine
end
section
open PySem PySem.W PyProof.Rows
set_option Elab.async false
namespace Mine
set_option maxRecDepth 100000 in
set_option maxHeartbeats 8000000 in
open_top hd for PySem.Challenge.rw_rw0018_01
end Mine
end
section
open PySem PySem.W PyProof.Rows
set_option Elab.async false
set_option maxRecDepth 100000
namespace Mine
section
variable {prog : Program} {w : World} {A A' : Around} {E : Value → Shared → Prop} {s : Shared} {env env' : Env} {h₀ h : Heap} {L I : Addr} {it : Obj} {tk : Nat} {Q : Flow → Shared → Prop} {c : Sem Flow} {t : Sem Bool} {n : Nat} {st : Shared}
  {J : Nat → Heap → (Str → Option Value) → Prop} {rest : (Str → Option Value) → List (Addr × Obj) → Prop}
/-- the turn of a ledger loop, its end and its world outside named -/
theorem unr_gen (hE : PassesOwn (model prog w) A env E)
    (H : ∀ Q E g d o, PassesOwn (model prog w) A env E → wpAny (model prog w) A c (UnrPost h₀ L ⟨h, g, d, tk, o⟩ I it rest Q) E ⟨h, g, d, tk, o⟩) :
    wpAny (model prog w) A c (UnrPost h₀ L { s with heap := h, toks := tk } I it rest Q) E { s with heap := h, toks := tk } := H Q E _ _ _ hE
/-- what stands in the last else of an if with an elif, proved once -/
def ElseIs (prog : Program) (w : World) (A : Around) (c : Sem Flow) (Q : Flow → Shared → Prop) (E : Value → Shared → Prop) (s : Shared) : Prop := ∀ tk, 0 < tk → wpAny (model prog w) A c Q E ⟨s.heap, s.gens, s.drawn, tk, s.os⟩
theorem elif_once {t1 t2 : Expr} {b1 b2 els : List Stmt} {p1 p2 : Pos} (he : ElseIs prog w A (execs els env) Q E s)
    (H : ElseIs prog w A (execs els env) Q E s → wpAny (model prog w) A (exec (.If t1 b1 [.If t2 b2 els p2] p1) env) Q E s) :
    wpAny (model prog w) A (exec (.If t1 b1 [.If t2 b2 els p2] p1) env) Q E s := H he
theorem else_use {hp : Heap} {g : Array GenState} {d : Drawn} {o : OsState} {tk0 : Nat} (H : ElseIs prog w A c Q E ⟨hp, g, d, tk0, o⟩) (ht : 0 < tk) :
    wpAny (model prog w) A c (fun f s' => PySem.execs_cons.match_1 (fun _ => Prop) f (fun _ => wpAny (model prog w) A (execs [] env) Q E s') (fun f => Q f s')) E ⟨hp, g, d, tk, o⟩ :=
  wpAny_mono (H tk ht) (fun f s' hq => by cases f <;> first | exact wpAny_execs_nil hq | exact hq) fun _ _ e => e
def IfOpen : Prop := True
end
end Mine
end
namespace Mine
/-- the walk lines of this text -/
theorem walk_lines : True := by
  k_with "mine0" => ((k_here; (refine gen_toks ?gpq9 ?_); (case gpq9 => k_dflt (first | assumption | exact Nat.succ_pos _ | exact Nat.add_pos_right _ (Nat.succ_pos _) | (dsimp only; omega))); intro tk0q9 htk0q9; (with_reducible refine wpAny_execs_cons ?_); try dsimp only))
  k_with "mine1" => (k_dflt (refine replaceP ?rsq9 ?ruq9 ?rvq9 ?ruvq9 ?ryzq9 ?rxq9 ?rzq9 ?ryq9 ?_; (case rsq9 => first | assumption | exact Nat.succ_pos _); (case ruq9 => exact Nat.ne_of_gt (by first | assumption | exact Nat.succ_pos _)); (case rvq9 => exact Nat.ne_of_gt (by first | assumption | exact Nat.succ_pos _)); (case ruvq9 => exact Nat.ne_of_lt (Nat.lt_succ_self _)); (case ryzq9 => decide +kernel); (case rxq9 => first | assumption | omega); (case rzq9 => decide +kernel); (case ryq9 => decide +kernel); intro t'q9 k'q9 hk'q9 hl'q9; (first | replace hl'q9 := of_if_t hl'q9 (by decide +kernel) | replace hl'q9 := of_if_f hl'q9 (by decide +kernel)); (try dsimp only)))
  k_with "mine2" => ((k_here; k_dflt (first   | (refine' getMethod_pat ?Fq9 (pat1_K ?Xq9) ?_; (case Fq9 => k_asm); (case Xq9 => k_asm); k_whole)   | (refine' getMethod_pat ?Fq9 (pat2_K ?Xq9) ?_; (case Fq9 => k_asm); (case Xq9 => k_asm); k_whole))))
  k_with "mine3" => ((k_here; k_dflt (first   | (refine' call_pat2 ?Fq9 ?Nq9 (pat2_K ?Xq9) ?hxq9 ?_; (case Fq9 => k_asm); (case Nq9 => k_asm); (case Xq9 => k_asm); (case hxq9 => omega); k_whole)   | (refine' call_pat1 ?Fq9 ?Nq9 (pat1_K ?Xq9) ?hxq9 ?_; (case Fq9 => k_asm); (case Nq9 => k_asm); (case Xq9 => k_asm); (case hxq9 => omega); k_whole)); intro h'q9 t'q9 tk'q9 F'q9 N'q9; (try dsimp only)))
  k_with "mine4" => ((k_here; k_dflt (refine' callWith_F ?k1q9 ?_; (case k1q9 => exact FnAt.of (by k_asm) (by k_mem)); k_whole)))
  k_with "mine5" => (((with_reducible rename QOpen => qo); clear qo; refine hold_intro ?_))
  k_with "mine6" => ((k_here; k_dflt (refine' UnrEnd.intro ?uFq9 ?uNq9 _ (fun p hp => hp) ?uoq9 ?_; (case uFq9 => k_asm); (case uNq9 => k_asm); (case uoq9 => exact off_of_lt (by assumption)))))
  k_with "mine7" => ((k_here; k_dflt (refine' fn_use (quotedata_fn _ _ ?kpq9) ?k1q9 ?k2q9 ?k3q9 ?k4q9 ?k5q9 ?kKq9 ?kdq9 ?kuq9 ?_; (case k1q9 => k_asm); (case k2q9 => k_asm); (case k3q9 => k_asm); (case k4q9 => k_asm); (case k5q9 => k_asm); (case kKq9 => first | exact rfl | assumption); (case kdq9 => ktr_room); (case kuq9 => ktr_units); k_whole; (case kpq9 => first | with_reducible assumption | omega)); k_dflt (rintro v'q9 h'q9 tk'q9 ⟨t'q9, rv'q9, rl'q9⟩ F'q9 N'q9; subst rv'q9); (try dsimp only); (try k_fold)))
  k_with "mine8" => ((first | with_reducible assumption | k_dflt (refine' tail_ne ?aq9 ?bq9; (case aq9 => assumption); (case bq9 => (refine leN ?_; (try dsimp only); omega)))))
  k_with "mine9" => ((k_here; (with_reducible show wpAny _ _ (storeName _ (PySem.Str.ofString "rows") _) _ _ _); (with_reducible rename QOpen => qo); clear qo; refine hold_intro ?_))
  k_with "mine10" => ((k_here; k_dflt (refine' strs_item ?lq9 ?aq9 ?bq9 ?cq9 ?dq9 ?_; (case lq9 => exact News.isList (by k_asm) (by k_mem)); (case aq9 => omega); (case bq9 => first | omega | (simp only [List.length_cons]; omega)); (case cq9 => first | omega | (simp only [List.length_cons]; omega)); (case dq9 => assumption); k_whole); intro z'q9 t'q9 hz'q9 hzl'q9))
  k_with "mine11" => ((k_here; k_dflt (refine' strs_lenC ?lq9 ?aq9 ?_; (case lq9 => exact News.isList (by k_asm) (by k_mem)); (case aq9 => omega); k_whole)))
  k_with "mine12" => (((with_reducible rename QOpen => qo); clear qo; refine hold_intro ?_))
  k_with "mine13" => (((with_reducible rename QOpen => qo); clear qo; refine hold_intro ?_))
  k_with "mine14" => (((with_reducible rename TrOpen => lo); clear lo; refine hold_intro ?_))
  k_with "mine15" => (((with_reducible rename LamOpen => lo); k_dflt (refine' nameX_F ?Nq9 ?cq9 ?mq9 ?dq9 ?_ ?aq9 ?bq9; (case aq9 => rfl); (case bq9 => rfl); (case Nq9 => k_asm); (case cq9 => rfl); (case mq9 => k_mem); (case dq9 => k_asm); k_whole); (have lopen : LamOpen := lo)))
  k_with "mine16" => ((k_here; k_dflt (refine' len_rows ?lq9 ?zq9 ?_; (case lq9 => exact News.isList (by k_asm) (by k_mem)); (case zq9 => assumption); k_whole)))
  k_with "mine17" => ((k_here; k_dflt (refine' rows_last ?lq9 ?_; (case lq9 => exact News.isList (by k_asm) (by k_mem)); k_whole)))
  k_with "mine18" => ((k_here; k_dflt (refine' item_two ?lq9 ?_; (case lq9 => exact News.isList (by k_asm) (by k_mem)); k_whole)))
  k_with "mine19" => (((with_reducible rename IfOpen => lo); clear lo; refine hold_intro ?_))
  k_with "mine20" => ((with_reducible (refine else_use (by assumption) ?_); first | assumption | exact Nat.succ_pos _ | exact Nat.add_pos_right _ (Nat.succ_pos _) | (dsimp only; omega)))
  k_with "mine21" => ((k_here; (refine gen_toks ?gpq9 ?_); (case gpq9 => with_reducible first | assumption | exact Nat.succ_pos _); intro tk0q9 htk0q9; (with_reducible refine wpAny_execs_cons ?_); try dsimp only))
  exact trivial
end Mine
section
open PySem PySem.W PyProof.Rows Mine
local macro_rules | `(tactic| walk_at "execs cons") => `(tactic| k_extra "mine0")
local macro_rules | `(tactic| walk_at "WTurn") => `(tactic| first | refine wturn_brk ?_ | refine wturn_ret ?_)
local macro_rules | `(tactic| walk_at "call builtin:str.replace") => `(tactic| k_extra "mine1")
section
open PySem PySem.W PyProof.Rows
set_option Elab.async false
set_option maxRecDepth 100000
namespace Mine
section
theorem pat1_K {w : World} {h : Heap} (X : ((Mine.hd.heap_39 w.params)).In h) : PatAt h 117 116 R1.code := ⟨⟨_, _, X _ _ (by rfl)⟩, ⟨_, _, X _ _ (by rfl), by decide +kernel⟩⟩
theorem pat2_K {w : World} {h : Heap} (X : ((Mine.hd.heap_39 w.params)).In h) : PatAt h 122 121 R2.code := ⟨⟨_, _, X _ _ (by rfl)⟩, ⟨_, _, X _ _ (by rfl), by decide +kernel⟩⟩
theorem getMethod_pat {M : Model} {A : Around} {E : Value → Shared → Prop} {s : Shared} {h₀ : Heap} {L : Addr} {m : Str → Option Value} {pat ct : Addr} {cd : Array Nat} {pl : Sem Bool} {Q : Value × List Value → Shared → Prop} (F : Fr h₀ L s.heap m) (P : PatAt h₀ pat ct cd)
    (h : Q (.builtin "re.Pattern.sub", [.ref pat]) s) : wpAny M A (getMethod (.ref pat) (PySem.Str.ofString "sub") pl) Q E s := by
  obtain ⟨p, fl, e⟩ := P.o
  exact getMethod_builtin ⟨_, F.keep _ _ e, rfl⟩ plainAttrs_pat slot_sub type_sub (fun a ha => by cases ha; exact ⟨_, F.keep _ _ e, rfl⟩) h
theorem call_pat {prog : Program} {w : World} {A : Around} {E : Value → Shared → Prop} {s : Shared} {h₀ : Heap} {L : Addr} {m : Str → Option Value} {news : List (Addr × Obj)} {pat ct : Addr} {cd : Array Nat} {Fd : Array Nat → Nat → Option (Nat × Nat)} {x z : Str} {t tz : Tok} {Q : Value → Shared → Prop}
    (F : Fr h₀ L s.heap m) (N : News h₀ L s.heap news) (P : PatAt h₀ pat ct cd) (hF : Finder cd Fd) (hx : x.length ≤ 1000000) (hz : z.cps.contains 92 = false) (hfit : (subOut Fd z.cps.toList x.cps x.cps.size 0).length ≤ 1000000)
    (h : ∀ h' t' tk', Fr h₀ L h' m → News h₀ L h' news → Q (.str (ofL (subOut Fd z.cps.toList x.cps x.cps.size 0)) t') ⟨h', s.gens, s.drawn, tk', s.os⟩) :
    wpAny (model prog w) A (call (.builtin "re.Pattern.sub") [.ref pat, .str z tz, .str x t]) Q E s :=
  subCall hF hx (P.keeps F.keep) hz hfit fun h' t' tk' k => h h' t' tk' (F.keeps k) (N.grown k)
theorem call_pat2 {prog : Program} {w : World} {A : Around} {E : Value → Shared → Prop} {s : Shared} {h₀ : Heap} {L : Addr} {m : Str → Option Value} {news : List (Addr × Obj)} {pat ct : Addr} {x : Str} {t tz : Tok} {Q : Value → Shared → Prop}
    (F : Fr h₀ L s.heap m) (N : News h₀ L s.heap news) (P : PatAt h₀ pat ct R2.code) (hx : x.length ≤ 400000)
    (h : ∀ h' t' tk', Fr h₀ L h' m → News h₀ L h' news → Q (.str (ofL (crlf x.cps.toList)) t') ⟨h', s.gens, s.drawn, tk', s.os⟩) :
    wpAny (model prog w) A (call (.builtin "re.Pattern.sub") [.ref pat, .str (Str.ofString "\r\n") tz, .str x t]) Q E s := by
  have e : subOut FR2 (Str.ofString "\r\n").cps.toList x.cps x.cps.size 0 = crlf x.cps.toList := by
    rw [lit_rf]
    exact sub2 x.cps x.cps.size 0 (by omega) (Nat.zero_le _)
  have hl := crlf_len x.cps.toList
  rw [len_eq] at hl
  exact call_pat F N P finder2 (by omega) (by decide +kernel) (by rw [e]; omega) (by rw [e]; exact h)
theorem call_pat1 {prog : Program} {w : World} {A : Around} {E : Value → Shared → Prop} {s : Shared} {h₀ : Heap} {L : Addr} {m : Str → Option Value} {news : List (Addr × Obj)} {pat ct : Addr} {x : Str} {t tz : Tok} {Q : Value → Shared → Prop}
    (F : Fr h₀ L s.heap m) (N : News h₀ L s.heap news) (P : PatAt h₀ pat ct R1.code) (hx : x.length ≤ 400000)
    (h : ∀ h' t' tk', Fr h₀ L h' m → News h₀ L h' news → Q (.str (sendS x) t') ⟨h', s.gens, s.drawn, tk', s.os⟩) :
    wpAny (model prog w) A (call (.builtin "re.Pattern.sub") [.ref pat, .str (Str.ofString "..") tz, .str (ofL (crlf x.cps.toList)) t]) Q E s := by
  have hl := crlf_len x.cps.toList
  rw [len_eq] at hl
  have e : subOut FR1 (Str.ofString "..").cps.toList (ofL (crlf x.cps.toList)).cps (ofL (crlf x.cps.toList)).cps.size 0 = sendL x.cps.toList := by
    rw [show Str.ofString ".." = ofL [46, 46] by decide +kernel]
    have e2 : (ofL (crlf x.cps.toList)).cps.size = (crlf x.cps.toList).length := by simp [ofL]
    rw [e2]
    exact quote_send x.cps.toList
  have hs := sendS_len x
  unfold sendS at hs
  rw [ofL_length] at hs
  exact call_pat F N P finder1 (by rw [ofL_length]; omega) (by decide +kernel) (by rw [e]; omega) (by rw [e]; exact h)
local macro_rules | `(tactic| walk_at "getMethod ref") => `(tactic| k_extra "mine2")
local macro_rules | `(tactic| walk_at "call builtin:re.Pattern.sub") => `(tactic| k_extra "mine3")
variable {prog : Program} {w : World} {p : Program} {loose : List Str} {mean : ExcName → Option Value} {mg mb : Str → Option Value} {news : List (Addr × Obj)}

set_option maxHeartbeats 4000000 in
theorem quotedata_fn (y : Str) (t : Tok) (hx : y.length ≤ 400000) :
    FnOk prog w (Mine.hd.heap_39 w.params) p loose mean mg mb 129 1 news [.str y t] (StrIs (sendS y) (2 * y.length)) := by
  w_on
  intro dp un gd cn cs a ccd cl outer A₀ base h₀ L m s Q E B F X N T hk hd hu hret
  refine wpAny_call ?_
  k_dflt cell_enter
  k_steps
  all_goals exact hret _ _ _ ⟨_, rfl, sendS_len y⟩ (by assumption) (by assumption)
end
end Mine
end
section
open PySem PySem.W PyProof.Rows
set_option Elab.async false
set_option maxRecDepth 100000
namespace Mine
section
local macro_rules | `(tactic| walk_at "exec While Compare cons nil") => `(tactic| refine hold_intro ?_)
variable {prog : Program} {w : World} {p : Program} {loose : List Str} {mean : ExcName → Option Value} {mg mb : Str → Option Value} {news : List (Addr × Obj)}

set_option maxHeartbeats 4000000 in
theorem parse257_fn (x : Str) (t : Tok) (hx : x.length ≤ 400000) (h3 : Txt.slice x none (some 3) = Str.ofString "257") (h5 : Txt.slice x (some 3) (some 5) = Str.ofString " \"") (h55 : 5 ≤ x.length) :
    FnOk prog w (Mine.hd.heap_39 w.params) p loose mean mg mb 70 1 news [.str x t] (fun v => ∃ t, v = .str (ofL (tellL (x.cps.toList.drop 5))) t) := by
  w_on
  intro dp un gd cn cs a ccd cl outer A₀ base h₀ L m s Q E B F X N T hk hd hu hret
  refine wpAny_call ?_
  k_dflt cell_enter
  k_steps
  all_goals try (exfalso; rename (Txt.slice _ _ _ != _) = true => hq; first | (rw [h3] at hq; exact absurd hq (by decide)) | (rw [h5] at hq; exact absurd hq (by decide)))
  refine hold_out ?_
  rename Fr _ _ _ _ => F1
  rename News _ _ _ _ => N1
  rename (0 < _) => htk1
  refine while_inv (fun n m₁ => ∃ (k : Nat) (d : List Nat) (ti td tn0 : Tok), 5 ≤ k ∧ k ≤ x.length ∧ n = x.length - k ∧ (ofL d).length ≤ k ∧ d ++ tellL (x.cps.toList.drop k) = tellL (x.cps.toList.drop 5) ∧
    AllAt m₁ [(Str.ofString "i", .int k ti), (Str.ofString "dirname", .str (ofL d) td), (Str.ofString "n", .int x.length tn0), (Str.ofString "resp", .str x t)]) (x.length - 5) F1 N1 htk1 ?init ?turn
  case init => exact ⟨5, [], _, _, _, Nat.le_refl _, h55, rfl, Nat.zero_le _, rfl, rfl, rfl, rfl, rfl, trivial⟩
  case turn =>
    rintro n m₁ h tk htk ⟨k, d, ti, td, tn0, hk5, hkl, hn, hdl, hde, e1⟩ F₁ N₁
    have F2 := Fr_puts F₁ e1
    dsimp only [putAll] at F2
    clear F₁ F1
    k_steps
    all_goals (try dsimp only)
    · rename (_ == Str.ofString "\"") = true => q1
      rename _ ≤ (k : Int) + 1 => q2
      rename (k : Int) < _ => q0
      rw [show ofL d = ofL (tellL (List.drop 5 x.cps.toList)) by rw [← hde, tell_at1 q0 q1 q2, List.append_nil]]
      exact hret _ _ _ ⟨_, rfl⟩ (by assumption) (by assumption)
    · rename (_ == Str.ofString "\"") = true => q1
      rename ¬ _ ≤ (k : Int) + 1 => q2
      rename (k : Int) < _ => q0
      rename (Txt.item x (_ + 1) != _) = true => q3
      rw [show ofL d = ofL (tellL (List.drop 5 x.cps.toList)) by rw [← hde, tell_at2 q0 q1 q2 q3, List.append_nil]]
      exact hret _ _ _ ⟨_, rfl⟩ (by assumption) (by assumption)
    · rename (_ == Str.ofString "\"") = true => q1
      rename ¬ _ ≤ (k : Int) + 1 => q2
      rename (k : Int) < _ => q0
      rename (Txt.item x (_ + 1) != _) = false => q3
      obtain ⟨q4, q5⟩ := tell_at3 q0 q1 q2 q3
      refine wturn_next (by assumption) (by assumption) (k := x.length - (k + 2)) (by omega) ⟨k + 2, d ++ [34], _, _, _, by omega, by omega, rfl, ?_, ?_, Eq.trans (b := some (.int (k + 1 + 1) _)) rfl (int_eq (by omega)), Eq.trans (b := some (.str (ofL d ++ Txt.item x k) _)) rfl (str_eq (by rw [q5, ofL_append])), rfl, rfl, trivial⟩
      · rw [ofL_length] at hdl ⊢; simp only [List.length_append, List.length_cons, List.length_nil]; omega
      · rw [← hde, q4, List.append_assoc]; rfl
    · rename (_ == Str.ofString "\"") = false => q1
      rename (k : Int) < _ => q0
      obtain ⟨q4, q5⟩ := tell_at4 q0 q1
      refine wturn_next (by assumption) (by assumption) (k := x.length - (k + 1)) (by omega) ⟨k + 1, d ++ [x.cps.toList.getD k 0], _, _, _, by omega, by omega, rfl, ?_, ?_, Eq.trans (b := some (.int (k + 1) _)) rfl (int_eq (by omega)), Eq.trans (b := some (.str (ofL d ++ Txt.item x k) _)) rfl (str_eq (by rw [q5, ofL_append])), rfl, rfl, trivial⟩
      · rw [ofL_length] at hdl ⊢; simp only [List.length_append, List.length_cons, List.length_nil]; omega
      · rw [← hde, q4, List.append_assoc]; rfl
    · rename ¬ (k : Int) < _ => q0
      have hl := len_eq x
      rw [show ofL d = ofL (tellL (List.drop 5 x.cps.toList)) by rw [← hde, List.drop_eq_nil_of_le (by omega), tell_nil, List.append_nil]]
      exact hret _ _ _ ⟨_, rfl⟩ (by assumption) (by assumption)
theorem parse257_tell (y : Str) (t : Tok) (hx : y.length ≤ 300000) : FnOk prog w (Mine.hd.heap_39 w.params) p loose mean mg mb 70 1 news [.str (Str.ofString "257 \"" ++ y) t] (StrIs (tellS y) y.length) := by
  have h := parse257_fn (prog := prog) (w := w) (p := p) (loose := loose) (mean := mean) (mg := mg) (mb := mb) (news := news) (Str.ofString "257 \"" ++ y) t (by rw [pre257_len]; omega) (pre257_3 y) (pre257_5 y) (by rw [pre257_len]; omega)
  rw [pre257_drop] at h
  exact fn_mono h fun v ⟨t, e⟩ => ⟨t, e, tellS_len y⟩
end
end Mine
end
section
open PySem PySem.W PyProof.Rows
set_option Elab.async false
set_option maxRecDepth 100000
namespace Mine
section
variable {prog : Program} {w : World} {p : Program} {loose : List Str} {mean : ExcName → Option Value} {mg mb : Str → Option Value} {news : List (Addr × Obj)}

local macro_rules | `(tactic| k_all) => `(tactic| (first | with_reducible assumption | fail "k_all"))
local macro_rules | `(tactic| walk_at "callWith ref") => `(tactic| k_extra "mine4")
local macro_rules | `(tactic| walk_at "call ref") => `(tactic| refine hold_intro ?_)
set_option maxHeartbeats 4000000 in
theorem readchar (l2 x2 d2 f' l1 x1 d1 D : Addr) (fd : FuncData) (kk : Nat → Tok) (rest : List (Addr × Obj)) (hr : Rd.Ok ⟨108, l2, x2, d2, f', l1, x1, d1, D, fd, w.params, kk, rest⟩)
    {rest0 : List (Addr × Obj)} (hsub : ∀ q ∈ rest0, q ∈ rest) (H : LamOk prog w (Mine.hd.heap_39 w.params) p loose mean mg mb ⟨108, l2, x2, d2, f', l1, x1, d1, D, fd, w.params, kk, rest0⟩)
    (u : List (Str × Tok)) (n : Nat) (ln : Int) (tl : Tok) (A A₀ : Around) (env : Env) (outer : List Env) (base h₀ : Heap) (L : Addr) (m : Str → Option Value) (s : Shared) (R : Result → Shared → Prop)
    (B : Below A₀ base outer h₀) (F : Fr h₀ L s.heap m) (X : ((Mine.hd.heap_39 w.params)).In h₀) (N : News h₀ L s.heap (Rd.led ⟨108, l2, x2, d2, f', l1, x1, d1, D, fd, w.params, kk, rest⟩ u n ln tl)) (T : Top p loose mean mg mb h₀)
    (hA : A.frames = some (env :: outer)) (hf : env.frame = some L) (hke : env.scope.kind = .function) (hd : A.depth + 2 < recursionLimit) (hu : u.length ≤ 400000)
    (hret : ∀ x tx tl' h' tk', popIs u x → Fr h₀ L h' m → News h₀ L h' (Rd.led ⟨108, l2, x2, d2, f', l1, x1, d1, D, fd, w.params, kk, rest⟩ (popU u) (popN u n) (if (x == Str.ofString "\n") = true then ln + 1 else ln) tl') → R (.ok (.ret (.str x tx))) ⟨h', s.gens, s.drawn, tk', s.os⟩) :
    codeAny (model prog w) A (.call (.ref 91) ⟨[.ref x2], []⟩) R s := by
  w_on
  obtain ⟨a1, a2, a3, a4, a5, a6, ht, ht2⟩ := hr
  dsimp only [Rd.led] at N a1 a2 a3 a4 a5 a6 ht ht2
  k_dflt (refine' code_def ?k1 ?k2 ?k3 ?k4 ?k5 ?kA ?kF ?kK ?k6 ?k7 ?k8 ?k9 ?kB ?_ ?c2 ?c3 ?c4 ?c5; (case kA => assumption); (case kF => assumption); (case kK => assumption); (case k1 => k_asm); (case k2 => k_asm); (case k3 => k_asm); (case k4 => k_asm); (case k5 => k_asm); (case k6 => k_is); (case k7 => k_is); (case k8 => ktr_room); (case k9 => first | exact BindsTo.of_eq rfl | exact binds_K (by k_in) rfl (by k_is) rfl rfl rfl); (case c5 => decide); (case kB => exact locs rfl); (case c2 => exact rfl); (case c3 => exact rfl); (case c4 => exact rfl); k_whole; intro g' L' h' FG' F' N' B' X' T'; (try dsimp only); (try k_lift B'); (try k_fold))
  k_steps
  refine hold_out ?_
  refine wpAny_call ?_
  k_dflt (refine' H rest u n ln tl ?lA ?lA0 ?le ?lo ?lb ?lh ?lL ?lm ?ls ?lt ?lR hsub ht ht2 ?l1 ?l2 ?l3 ?l4 ?l5 ?l6 ?l7 ?l8 ?l9 ?l10 ?_)
  (case l1 => k_asm)
  (case l2 => k_asm)
  (case l3 => k_asm)
  (case l4 => k_asm)
  (case l5 => k_asm)
  (case l6 => exact Around.frames_deeper hA)
  (case l7 => exact rfl)
  (case l8 => exact rfl)
  (case l9 => ktr_room)
  (case l10 => assumption)
  k_whole
  intro x tx h' tk' hp F' N'
  dsimp only [Rd.led] at N'
  (try dsimp only)
  k_steps
  · rename (x == _) = true => hx
    rename News h₀ _ _ _ => hN
    exact hret x tx _ _ _ hp (by assumption) (led_pos hx hN)
  · rename (x == _) = false => hx
    rename News h₀ _ _ _ => hN
    exact hret x tx _ _ _ hp (by assumption) (led_neg hx hN)
end
end Mine
end
section
open PySem PySem.W PyProof.Rows
set_option Elab.async false
set_option maxRecDepth 100000
namespace Mine
section
theorem next_read {prog : Program} {w : World} {p : Program} {loose : List Str} {mean : ExcName → Option Value} {mg mb : Str → Option Value} {l2 x2 d2 f' l1 x1 d1 D : Addr} {fd : FuncData} {kk : Nat → Tok} {rest : List (Addr × Obj)} (hr : Rd.Ok ⟨108, l2, x2, d2, f', l1, x1, d1, D, fd, w.params, kk, rest⟩)
    {rest0 : List (Addr × Obj)} (hsub : ∀ q ∈ rest0, q ∈ rest) (H : LamOk prog w (Mine.hd.heap_39 w.params) p loose mean mg mb ⟨108, l2, x2, d2, f', l1, x1, d1, D, fd, w.params, kk, rest0⟩)
    {it q : Addr} {tq : Tok} (hit : ∀ p ∈ Rd.led ⟨108, l2, x2, d2, f', l1, x1, d1, D, fd, w.params, kk, rest⟩ [] 0 0 0, p.1 < it) (qD : @LT.lt Nat _ D q) (qd2 : @LT.lt Nat _ d2 q) (hqi : q < it)
    {u : List (Str × Tok)} {lr : List Nat} (hS : SgOf lr u) {n : Nat} {ln : Int} {tl : Tok} {A A₀ : Around} {env : Env} {outer : List Env} {base h₀ : Heap} {L : Addr} {m : Str → Option Value} {s : Shared} {Q : Option Value → Shared → Prop} {E : Value → Shared → Prop}
    (B : Below A₀ base outer h₀) (F : Fr h₀ L s.heap m) (X : ((Mine.hd.heap_39 w.params)).In h₀) (N : News h₀ L s.heap ((it, ciObj q tq) :: (q, methodObj (.ref 91) (.ref x2)) :: Rd.led ⟨108, l2, x2, d2, f', l1, x1, d1, D, fd, w.params, kk, rest⟩ u n ln tl)) (T : Top p loose mean mg mb h₀)
    (hA : A.frames = some (env :: outer)) (hf : env.frame = some L) (hke : env.scope.kind = .function) (hd : A.depth + 2 < recursionLimit) (hu : u.length ≤ 400000) (hh : A.handled = none)
    (item : ∀ ch lr' tx u' n' tl' h' tk', lr = ch :: lr' → SgOf lr' u' → u'.length ≤ u.length → Fr h₀ L h' m → News h₀ L h' ((it, ciObj q tq) :: (q, methodObj (.ref 91) (.ref x2)) :: Rd.led ⟨108, l2, x2, d2, f', l1, x1, d1, D, fd, w.params, kk, rest⟩ u' n' (if ch = 10 then ln + 1 else ln) tl') → Q (some (.str (ofL [ch]) tx)) ⟨h', s.gens, s.drawn, tk', s.os⟩)
    (stop : ∀ n' tl' h' tk', lr = [] → Fr h₀ L h' m → News h₀ L h' ((it, ciEnd) :: (q, methodObj (.ref 91) (.ref x2)) :: Rd.led ⟨108, l2, x2, d2, f', l1, x1, d1, D, fd, w.params, kk, rest⟩ [] n' ln tl') → Q none ⟨h', s.gens, s.drawn, tk', s.os⟩) :
    wpAny (model prog w) A (pyNext (.ref it)) Q E s := by
  have hitm : ∀ {o : Obj} {l : List (Addr × Obj)}, (∀ p ∈ l, p.1 < it) → ∀ p ∈ l, p.1 ≠ it := fun h p hp => Nat.ne_of_lt (h p hp)
  have ok' : Rd.Ok ⟨108, l2, x2, d2, f', l1, x1, d1, D, fd, w.params, kk, (it, ciObj q tq) :: (q, methodObj (.ref 91) (.ref x2)) :: rest⟩ := by
    obtain ⟨a1, a2, a3, a4, a5, a6, t, t2⟩ := hr
    have iD : D < it := hit (D, sgObj [] 0) (by dsimp only [Rd.led]; k_mem)
    have id2 : @LT.lt Nat _ d2 it := hit (d2, _) (by dsimp only [Rd.led]; exact .tail _ (.head _))
    refine ⟨a1, a2, a3, a4, a5, a6, ?_, ?_⟩
    · intro p hp
      rcases List.mem_cons.mp hp with rfl | hp
      · exact Nat.ne_of_gt iD
      · rcases List.mem_cons.mp hp with rfl | hp
        · exact Nat.ne_of_gt qD
        · exact t p hp
    · intro p hp
      rcases List.mem_cons.mp hp with rfl | hp
      · exact Nat.ne_of_gt id2
      · rcases List.mem_cons.mp hp with rfl | hp
        · exact Nat.ne_of_gt qd2
        · exact t2 p hp
  have ifn : ∃ o fd', ((Mine.hd.heap_39 w.params)).lookup 91 = some o ∧ o.data = .func fd' := ⟨_, _, by rfl, by rfl⟩
  obtain ⟨ob, fdb, hob, hdb⟩ := ifn
  have hne : ∀ (u' : List (Str × Tok)) (n' : Nat) (ln' : Int) (tl' : Tok), ∀ p ∈ ((q, methodObj (.ref 91) (.ref x2)) :: Rd.led ⟨108, l2, x2, d2, f', l1, x1, d1, D, fd, w.params, kk, rest⟩ u' n' ln' tl' : List (Addr × Obj)), p.1 ≠ it := by
    intro u' n' ln' tl' p hp
    rcases List.mem_cons.mp hp with rfl | hp
    · exact Nat.ne_of_lt hqi
    · have : p.1 ∈ ((Rd.led ⟨108, l2, x2, d2, f', l1, x1, d1, D, fd, w.params, kk, rest⟩ [] 0 0 0).map (·.1)) := by
        have e : (Rd.led ⟨108, l2, x2, d2, f', l1, x1, d1, D, fd, w.params, kk, rest⟩ [] 0 0 0).map (·.1) = (Rd.led ⟨108, l2, x2, d2, f', l1, x1, d1, D, fd, w.params, kk, rest⟩ u' n' ln' tl').map (·.1) := rfl
        rw [e]; exact List.mem_map_of_mem hp
      obtain ⟨p2, hp2, e2⟩ := List.mem_map.mp this
      rw [← e2]; exact Nat.ne_of_lt (hit p2 hp2)
  refine next_ci (fa := 91) (self := .ref x2) hh (N _ (.head _)).1 (N _ (.tail _ (.head _))).1 (X.keeps F.keep _ _ hob) hdb (method_call (N _ (.tail _ (.head _))).1 ?_)
  refine readchar l2 x2 d2 f' l1 x1 d1 D fd kk _ ok' (rest0 := rest0) (fun z hz => .tail _ (.tail _ (hsub z hz))) H u n ln tl A.in1 A₀ env outer base h₀ L m s _ B F X (led_in N) T hA hf hke hd hu ?_
  intro x tx tl' h' tk' hp F' N'
  have N2 := led_out (r := ⟨108, l2, x2, d2, f', l1, x1, d1, D, fd, w.params, kk, rest⟩) N'
  refine ⟨x, tx, rfl, (N2 _ (.head _)).1, (N2 _ (.tail _ (.head _))).1, ⟨ob, fdb, X.keeps F'.keep _ _ hob, hdb⟩, fun hx => ?_, fun hx h2 hext hit2 => ?_⟩
  · cases lr with
    | nil =>
      have := hS.nil_inv
      subst this
      have hp' : x = Str.ofString "" := hp
      rw [hp'] at hx
      exact absurd hx (by decide +kernel)
    | cons ch lr' =>
      obtain ⟨t, r, rfl, hS'⟩ := hS.cons_inv
      have hp' : x = ofL [ch] := hp
      subst hp'
      have e := is_feed ch
      have e3 : (if (ofL [ch] == Str.ofString "\n") = true then ln + 1 else ln) = (if ch = 10 then ln + 1 else ln) := by
        rw [e]; simp
      rw [e3] at N2
      exact item ch lr' tx r _ tl' h' tk' rfl hS' (by simp) F' N2
  · cases lr with
    | nil =>
      have := hS.nil_inv
      subst this
      have hp' : x = Str.ofString "" := hp
      subst hp'
      have e3 : (if (Str.ofString "" == Str.ofString "\n") = true then ln + 1 else ln) = ln := by rw [if_neg (by decide +kernel)]
      rw [e3] at N2
      obtain ⟨F4, N4⟩ := extBut_fr F' N2 hext hit2 (hne _ _ _ _)
      exact stop _ tl' h2 tk' rfl F4 N4
    | cons ch lr' =>
      obtain ⟨t, r, rfl, hS'⟩ := hS.cons_inv
      have hp' : x = ofL [ch] := hp
      subst hp'
      rw [is_empty] at hx
      cases hx
end
end Mine
end
section
open PySem PySem.W PyProof.Rows Mine
local macro_rules | `(tactic| walk_at "exec For Name Call cons nil") => `(tactic| k_extra "mine5")
local macro_rules | `(tactic| walk_at "UnrEnd") => `(tactic| k_extra "mine6")
local macro_rules | `(tactic| walk_at "call ref") => `(tactic| refine hold_intro ?_)
local macro_rules | `(tactic| walk_at "call ref") => `(tactic| k_extra "mine7")
section
open PySem PySem.W PyProof.Rows
set_option Elab.async false
set_option maxRecDepth 100000
namespace Mine
section
variable {prog : Program} {w : World} {p : Program} {loose : List Str} {mean : ExcName → Option Value} {mg mb : Str → Option Value} {news : List (Addr × Obj)}

theorem q_cases {q : Nat} (h : q ≤ 2) : ((q : Int) = 0 ∧ q = 0) ∨ ((q : Int) = 1 ∧ q = 1) ∨ ((q : Int) = 2 ∧ q = 2) := by omega
set_option maxHeartbeats 4000000 in
theorem written_leaf (q : Nat) (qi : Int) (l : List Nat) (a : Addr) (c : Nat) (t0 t1 t2 : Tok) (hq : (qi = 0 ∧ q = 0) ∨ (qi = 1 ∧ q = 1) ∨ (qi = 2 ∧ q = 2)) (hl : (ofL l).length ≤ 5) (hm : (a, listOf #[.int 0 t0, .int qi t1, .str (ofL l) t2] c) ∈ news) :
    FnOk prog w (Mine.hd.heap_39 w.params) p loose mean mg mb 141 2 news [.ref a] (StrIs (ofL (wrT (.leaf q l))) 200000) := by
  w_on
  intro dp un gd cn cs a ccd cl outer A₀ base h₀ L m s Q E B F X N T hk hd hu hret
  refine wpAny_call ?_
  k_dflt cell_enter
  with_reducible rename News _ _ _ _ => Nq
  have Nq2 := news_add Nq hm
  clear Nq hm
  have qopen : QOpen := trivial
  k_steps
  refine hold_out ?_
  rcases hq with ⟨rfl, rfl⟩ | ⟨rfl, rfl⟩ | ⟨rfl, rfl⟩
  · k_steps
    exact hret _ _ _ (strIs_of (wr_leaf_s 0 l) (wr_leaf_len (by decide) hl)) (by assumption) (by first | assumption | exact news_drop (by assumption) | exact news_drop (news_drop (by assumption)) | exact news_drop (news_drop (news_drop (by assumption))) | exact news_drop (news_drop (news_drop (news_drop (by assumption)))))
  · k_steps
    exact hret _ _ _ (strIs_of (by rw [sendS_ofL]; exact wr_leaf_s 1 l) (wr_leaf_len (by decide) hl)) (by assumption) (by first | assumption | exact news_drop (by assumption) | exact news_drop (news_drop (by assumption)) | exact news_drop (news_drop (news_drop (by assumption))) | exact news_drop (news_drop (news_drop (news_drop (by assumption)))))
  · k_steps
    exact hret _ _ _ (strIs_of (by rw [sendS_ofL, sendS_ofL]; exact wr_leaf_s 2 l) (wr_leaf_len (by decide) hl)) (by assumption) (by first | assumption | exact news_drop (by assumption) | exact news_drop (news_drop (by assumption)) | exact news_drop (news_drop (news_drop (by assumption))) | exact news_drop (news_drop (news_drop (news_drop (by assumption)))))
end
end Mine
end
section
open PySem PySem.W PyProof.Rows
set_option Elab.async false
set_option maxRecDepth 100000
namespace Mine
section
local macro_rules | `(tactic| walk_at "CompSrc") => `(tactic| refine hold_intro ?_)
local macro_rules | `(tactic| walk_at "CompEnd") => `(tactic| refine hold_intro ?_)
local macro_rules | `(tactic| walk_at "eval ListComp") => `(tactic| refine hold_intro ?_)
local macro_rules | `(tactic| walk_at "exec Assign cons ListComp") => `(tactic| refine hold_intro ?_)
local macro_rules | `(tactic| walk_at "call builtin:str.join") => `(tactic| refine hold_intro ?_)
variable {prog : Program} {w : World} {p : Program} {loose : List Str} {mean : ExcName → Option Value} {mg mb : Str → Option Value} {news : List (Addr × Obj)}

set_option maxHeartbeats 4000000 in
theorem written_file (n q : Nat) (qi : Int) (ps : List Tr) (a l : Addr) (vs : List Value) (c c' : Nat) (t0 t1 : Tok) (hq : (qi = 0 ∧ q = 0) ∨ (qi = 1 ∧ q = 1) ∨ (qi = 2 ∧ q = 2))
    (hp : ∀ x ∈ ps, (wrT x).length ≤ 20000) (ht : (wrT (.node 1 q ps)).length ≤ 200000) (hm : (a, listOf #[.int 1 t0, .int qi t1, .ref l] c) ∈ news) (hm2 : (l, listOf (List.toArray vs) c') ∈ news) (hf : Fa2 (TAt news n) ps vs)
    (IH : ∀ x ∈ ps, ∀ (v : Value) (news' : List (Addr × Obj)), TAt news' n x v → FnOk prog w (Mine.hd.heap_39 w.params) p loose mean mg mb 141 (n + 2) news' [v] (StrIs (wrS x) (wrS x).length)) :
    FnOk prog w (Mine.hd.heap_39 w.params) p loose mean mg mb 141 (n + 3) news [.ref a] (StrIs (ofL (wrT (.node 1 q ps))) 200000) := by
  w_on
  intro dp un gd cn cs a ccd cl outer A₀ base h₀ L m s Q E B F X N T hk hd hu hret
  refine wpAny_call ?_
  k_dflt cell_enter
  with_reducible rename News _ _ _ _ => Nq
  have Nq2 := news_add (news_add Nq hm2) (.tail _ hm)
  clear Nq hm hm2
  have qopen : QOpen := trivial
  have hcnt := node_count ht
  k_steps
  refine hold_out ?_
  k_dflt (refine LCg.Assign_ListComp_U (F₀ := by k_asm) (by rfl) (by with_unfolding_all rfl) (by with_unfolding_all rfl) (by decide) (by rfl) (by decide) (by rfl) (by rfl) (by rfl) ?_)
  k_steps
  refine hold_out ?_
  refine LCg.CompSrc.ledger (by rfl) (by k_asm) (by k_asm) (by k_mem) ?sz1 ?rest1
  case sz1 => rw [sizeLine_eq, List.size_toArray, hf.length]; omega
  case rest1 =>
    intro g1
    refine comp_parts hf wrS (Or.inr ⟨_, by k_mem, rfl, _, rfl⟩) ?turn1 ?fin1
    case turn1 =>
      intro x v I oI C oC D m₂ ys h tk E' hpp hR hC hx2 F1 N1 off ne
      k_steps
      refine hold_out ?_
      k_dflt (refine' fn_use (IH _ hpp _ _ ?kt) ?k1 ?k2 ?k3 ?k4 ?k5 ?kK ?kd ?ku ?_)
      (case k1 => k_asm)
      (case k2 => k_asm)
      (case k3 => k_asm)
      (case k4 => k_asm)
      (case k5 => k_asm)
      (case kK => first | exact rfl | assumption)
      (case kd => ktr_room)
      (case ku => ktr_units)
      (case kt => exact TAt.mono (by intro p9 hp9; repeat (first | exact hp9 | refine List.Mem.tail _ ?_)) hR)
      rintro v' h' tk' ⟨t', rfl, rl'⟩ F' N'
      exact txEnd F' N' (fun p9 hp9 => hp9) off (Or.inr ⟨_, by k_mem, rfl, _, rfl⟩) rfl
    case fin1 =>
      intro lp e1
      unfold LCg.FinA
      intro D2 h2 tk2 F2 N2 o2
      dsimp only
      k_steps
      refine hold_out ?_
      k_dflt (refine LCg.ListComp_U (F₀ := by k_asm) (by with_unfolding_all rfl) (by decide) (by rfl) (by decide) (by rfl) ?_)
      k_steps
      refine hold_out ?_
      refine LCg.CompSrc.ledger (by rfl) (by k_asm) (by k_asm) (by k_mem) ?sz2 ?rest2
      case sz2 =>
        rw [sizeLine_eq]
        have h9 := congrArg List.length e1
        simp only [List.length_map] at h9
        simp only [strValues, List.size_toArray, List.length_map]
        omega
      case rest2 =>
        intro g2
        refine comp_strs qfS (Or.inr ⟨_, by k_mem, rfl, _, rfl⟩) ?turn2 ?fin2
        case turn2 =>
          intro z tz I oI C oC D m₂ ys h tk E' hz hC hx2 F1 N1 off ne
          have hzl := parts_mem e1 hp hz
          k_steps
          refine hold_out ?_
          exact txEnd (by assumption) (by k_asm) (by first | exact fun p9 hp9 => hp9 | (intro p9 hp9; repeat (first | exact hp9 | refine List.Mem.tail _ ?_))) off (Or.inr ⟨_, by k_mem, rfl, _, rfl⟩) rfl
        case fin2 =>
          intro l2 e2
          have hok := node_fit qfS_eq e1 e2 ht
          have hj := node_join qfS_eq e1 e2
          unfold LCg.FinE
          intro D3 h3 tk3 F3 N3 o3
          dsimp only
          k_steps
          refine hold_out ?_
          refine joinP (News.isList (by k_asm) (by k_mem)) hok ?_
          intro tj kj
          rw [hj]
          have hnl := node_len ht
          clear hok hj e2 e1 hf
          generalize hX : ofL (qL 1 (ps.map wrT)) = X at hnl ⊢
          dsimp only
          k_steps
          refine hold_out ?_
          rcases hq with ⟨rfl, rfl⟩ | ⟨rfl, rfl⟩ | ⟨rfl, rfl⟩
          · k_steps
            subst hX
            exact hret _ _ _ (strIs_of (wr_node_s 1 0 ps) (by rw [ofL_length]; exact ht)) (by assumption) (by intro p9 hp9; exact (by assumption : News _ _ _ _) p9 (by repeat (first | exact hp9 | refine List.Mem.tail _ ?_)))
          · k_steps
            subst hX
            exact hret _ _ _ (strIs_of (by rw [sendS_ofL]; exact wr_node_s 1 1 ps) (by rw [ofL_length]; exact ht)) (by assumption) (by intro p9 hp9; exact (by assumption : News _ _ _ _) p9 (by repeat (first | exact hp9 | refine List.Mem.tail _ ?_)))
          · k_steps
            subst hX
            exact hret _ _ _ (strIs_of (by rw [sendS_ofL, sendS_ofL]; exact wr_node_s 1 2 ps) (by rw [ofL_length]; exact ht)) (by assumption) (by intro p9 hp9; exact (by assumption : News _ _ _ _) p9 (by repeat (first | exact hp9 | refine List.Mem.tail _ ?_)))
end
end Mine
end
section
open PySem PySem.W PyProof.Rows
set_option Elab.async false
set_option maxRecDepth 100000
namespace Mine
section
local macro_rules | `(tactic| walk_at "CompSrc") => `(tactic| refine hold_intro ?_)
local macro_rules | `(tactic| walk_at "CompEnd") => `(tactic| refine hold_intro ?_)
local macro_rules | `(tactic| walk_at "eval ListComp") => `(tactic| refine hold_intro ?_)
local macro_rules | `(tactic| walk_at "exec Assign cons ListComp") => `(tactic| refine hold_intro ?_)
local macro_rules | `(tactic| walk_at "call builtin:str.join") => `(tactic| refine hold_intro ?_)
variable {prog : Program} {w : World} {p : Program} {loose : List Str} {mean : ExcName → Option Value} {mg mb : Str → Option Value} {news : List (Addr × Obj)}

set_option maxHeartbeats 4000000 in
theorem written_talk (n q : Nat) (qi : Int) (ps : List Tr) (a l : Addr) (vs : List Value) (c c' : Nat) (t0 t1 : Tok) (hq : (qi = 0 ∧ q = 0) ∨ (qi = 1 ∧ q = 1) ∨ (qi = 2 ∧ q = 2))
    (hp : ∀ x ∈ ps, (wrT x).length ≤ 20000) (ht : (wrT (.node 2 q ps)).length ≤ 200000) (hm : (a, listOf #[.int 2 t0, .int qi t1, .ref l] c) ∈ news) (hm2 : (l, listOf (List.toArray vs) c') ∈ news) (hf : Fa2 (TAt news n) ps vs)
    (IH : ∀ x ∈ ps, ∀ (v : Value) (news' : List (Addr × Obj)), TAt news' n x v → FnOk prog w (Mine.hd.heap_39 w.params) p loose mean mg mb 141 (n + 2) news' [v] (StrIs (wrS x) (wrS x).length)) :
    FnOk prog w (Mine.hd.heap_39 w.params) p loose mean mg mb 141 (n + 3) news [.ref a] (StrIs (ofL (wrT (.node 2 q ps))) 200000) := by
  w_on
  intro dp un gd cn cs a ccd cl outer A₀ base h₀ L m s Q E B F X N T hk hd hu hret
  refine wpAny_call ?_
  k_dflt cell_enter
  with_reducible rename News _ _ _ _ => Nq
  have Nq2 := news_add (news_add Nq hm2) (.tail _ hm)
  clear Nq hm hm2
  have qopen : QOpen := trivial
  have hcnt := node_count ht
  k_steps
  refine hold_out ?_
  k_dflt (refine LCg.Assign_ListComp_U (F₀ := by k_asm) (by rfl) (by with_unfolding_all rfl) (by with_unfolding_all rfl) (by decide) (by rfl) (by decide) (by rfl) (by rfl) (by rfl) ?_)
  k_steps
  refine hold_out ?_
  refine LCg.CompSrc.ledger (by rfl) (by k_asm) (by k_asm) (by k_mem) ?sz1 ?rest1
  case sz1 => rw [sizeLine_eq, List.size_toArray, hf.length]; omega
  case rest1 =>
    intro g1
    refine comp_parts hf wrS (Or.inr ⟨_, by k_mem, rfl, _, rfl⟩) ?turn1 ?fin1
    case turn1 =>
      intro x v I oI C oC D m₂ ys h tk E' hpp hR hC hx2 F1 N1 off ne
      k_steps
      refine hold_out ?_
      k_dflt (refine' fn_use (IH _ hpp _ _ ?kt) ?k1 ?k2 ?k3 ?k4 ?k5 ?kK ?kd ?ku ?_)
      (case k1 => k_asm)
      (case k2 => k_asm)
      (case k3 => k_asm)
      (case k4 => k_asm)
      (case k5 => k_asm)
      (case kK => first | exact rfl | assumption)
      (case kd => ktr_room)
      (case ku => ktr_units)
      (case kt => exact TAt.mono (by intro p9 hp9; repeat (first | exact hp9 | refine List.Mem.tail _ ?_)) hR)
      rintro v' h' tk' ⟨t', rfl, rl'⟩ F' N'
      exact txEnd F' N' (fun p9 hp9 => hp9) off (Or.inr ⟨_, by k_mem, rfl, _, rfl⟩) rfl
    case fin1 =>
      intro lp e1
      unfold LCg.FinA
      intro D2 h2 tk2 F2 N2 o2
      dsimp only
      k_steps
      refine hold_out ?_
      k_dflt (refine LCg.ListComp_U (F₀ := by k_asm) (by with_unfolding_all rfl) (by decide) (by rfl) (by decide) (by rfl) ?_)
      k_steps
      refine hold_out ?_
      refine LCg.CompSrc.ledger (by rfl) (by k_asm) (by k_asm) (by k_mem) ?sz2 ?rest2
      case sz2 =>
        rw [sizeLine_eq]
        have h9 := congrArg List.length e1
        simp only [List.length_map] at h9
        simp only [strValues, List.size_toArray, List.length_map]
        omega
      case rest2 =>
        intro g2
        refine comp_strs qtS (Or.inr ⟨_, by k_mem, rfl, _, rfl⟩) ?turn2 ?fin2
        case turn2 =>
          intro z tz I oI C oC D m₂ ys h tk E' hz hC hx2 F1 N1 off ne
          have hzl := parts_mem e1 hp hz
          k_steps
          refine hold_out ?_
          exact txEnd (by assumption) (by k_asm) (by first | exact fun p9 hp9 => hp9 | (intro p9 hp9; repeat (first | exact hp9 | refine List.Mem.tail _ ?_))) off (Or.inr ⟨_, by k_mem, rfl, _, rfl⟩) rfl
        case fin2 =>
          intro l2 e2
          have hok := node_fit qtS_eq e1 e2 ht
          have hj := node_join qtS_eq e1 e2
          unfold LCg.FinE
          intro D3 h3 tk3 F3 N3 o3
          dsimp only
          k_steps
          refine hold_out ?_
          refine joinP (News.isList (by k_asm) (by k_mem)) hok ?_
          intro tj kj
          rw [hj]
          have hnl := node_len ht
          clear hok hj e2 e1 hf
          generalize hX : ofL (qL 2 (ps.map wrT)) = X at hnl ⊢
          dsimp only
          k_steps
          refine hold_out ?_
          rcases hq with ⟨rfl, rfl⟩ | ⟨rfl, rfl⟩ | ⟨rfl, rfl⟩
          · k_steps
            subst hX
            exact hret _ _ _ (strIs_of (wr_node_s 2 0 ps) (by rw [ofL_length]; exact ht)) (by assumption) (by intro p9 hp9; exact (by assumption : News _ _ _ _) p9 (by repeat (first | exact hp9 | refine List.Mem.tail _ ?_)))
          · k_steps
            subst hX
            exact hret _ _ _ (strIs_of (by rw [sendS_ofL]; exact wr_node_s 2 1 ps) (by rw [ofL_length]; exact ht)) (by assumption) (by intro p9 hp9; exact (by assumption : News _ _ _ _) p9 (by repeat (first | exact hp9 | refine List.Mem.tail _ ?_)))
          · k_steps
            subst hX
            exact hret _ _ _ (strIs_of (by rw [sendS_ofL, sendS_ofL]; exact wr_node_s 2 2 ps) (by rw [ofL_length]; exact ht)) (by assumption) (by intro p9 hp9; exact (by assumption : News _ _ _ _) p9 (by repeat (first | exact hp9 | refine List.Mem.tail _ ?_)))
end
end Mine
end
end
section
open PySem PySem.W PyProof.Rows Mine
local macro_rules | `(tactic| k_all) => `(tactic| k_extra "mine8")
section
open PySem PySem.W PyProof.Rows
set_option Elab.async false
set_option maxRecDepth 100000
namespace Mine
section
variable {prog : Program} {w : World} {p : Program} {loose : List Str} {mean : ExcName → Option Value} {mg mb : Str → Option Value} {news : List (Addr × Obj)}

theorem fn_deep {K : Frag} {f : Addr} {d d' : Nat} {vs : List Value} {R : Value → Prop} (H : FnOk prog w K p loose mean mg mb f d news vs R) (h : d ≤ d') : FnOk prog w K p loose mean mg mb f d' news vs R :=
  fun dp un gd cn cs a ccd cl outer A₀ base h₀ L m s Q E B F X N T hk hd hu ret => H dp un gd cn cs a ccd cl outer A₀ base h₀ L m s Q E B F X N T hk (by omega) (by omega) ret
theorem strIs_self {X : Str} {b : Nat} {v : Value} (h : StrIs X b v) : StrIs X X.length v := by
  obtain ⟨t, e, _⟩ := h
  exact ⟨t, e, Nat.le_refl _⟩
theorem wr_small {n : Nat} {t : Tr} (hn : n ≤ 2) (h : TOk n t) (hs : szT t ≤ 9) : (wrT t).length ≤ 20000 := by
  have h1 := wr_len n t h
  have h2 : 24 * 9 ^ n ≤ 24 * 9 ^ 2 := Nat.mul_le_mul_left _ (Nat.pow_le_pow_right (by decide) hn)
  have h3 : 24 * 9 ^ n * szT t ≤ 24 * 9 ^ 2 * 9 := Nat.mul_le_mul h2 hs
  have h4 : 24 * 9 ^ 2 * 9 ≤ 20000 := by decide
  omega
theorem wr_big {n : Nat} {t : Tr} (hn : n ≤ 3) (h : TOk n t) (hs : szT t ≤ 9) : (wrT t).length ≤ 200000 := by
  have h1 := wr_len n t h
  have h2 : 24 * 9 ^ n ≤ 24 * 9 ^ 3 := Nat.mul_le_mul_left _ (Nat.pow_le_pow_right (by decide) hn)
  have h3 : 24 * 9 ^ n * szT t ≤ 24 * 9 ^ 3 * 9 := Nat.mul_le_mul h2 hs
  have h4 : 24 * 9 ^ 3 * 9 ≤ 200000 := by decide
  omega
theorem sz_mem {x : Tr} : ∀ {ps : List Tr}, x ∈ ps → szT x ≤ szTs ps
  | p :: r, h => by
    rw [szTs_cons]
    rcases List.mem_cons.mp h with rfl | h
    · omega
    · have := sz_mem h; omega
theorem written_leaf' (n q : Nat) (l : List Nat) (h : q ≤ 2 ∧ l.length ≤ 5) (v : Value) (S : List (Addr × Obj)) (hv : ∃ a c t0 t1 t2, v = .ref a ∧ (a, listOf #[.int 0 t0, .int (q : Int) t1, .str (ofL l) t2] c) ∈ S) :
    FnOk prog w (Mine.hd.heap_39 w.params) p loose mean mg mb 141 (n + 2) S [v] (StrIs (wrS (.leaf q l)) (wrS (.leaf q l)).length) := by
  obtain ⟨a, c, t0, t1, t2, rfl, hm⟩ := hv
  exact fn_deep (fn_mono (written_leaf q (q : Int) l a c t0 t1 t2 (q_cases h.1) (by rw [ofL_length]; exact h.2) hm) fun v => strIs_self) (by omega)
theorem written_fn : ∀ (n : Nat), n ≤ 3 → ∀ (t : Tr), TOk n t → szT t ≤ 9 → ∀ (v : Value) (S : List (Addr × Obj)), TAt S n t v →
    FnOk prog w (Mine.hd.heap_39 w.params) p loose mean mg mb 141 (n + 2) S [v] (StrIs (wrS t) (wrS t).length) := by
  intro n
  induction n with
  | zero =>
    intro hn t h hs v S hv
    cases t with
    | leaf q l => exact written_leaf' 0 q l ⟨h.1, h.2.1⟩ v S hv
    | node k q ps => exact h.elim
  | succ n ih =>
    intro hn t h hs v S hv
    cases t with
    | leaf q l => exact written_leaf' (n + 1) q l ⟨h.1, h.2.1⟩ v S hv
    | node k q ps =>
      have hbig := wr_big hn h hs
      obtain ⟨hk, hq, hp⟩ := h
      obtain ⟨a, c, l, vs, c', t0, t1, rfl, hm, hm2, hf⟩ := hv
      rw [szT_node] at hs
      have hsz : ∀ x ∈ ps, szT x ≤ 9 := fun x hx => by have := sz_mem hx; omega
      have hsm : ∀ x ∈ ps, (wrT x).length ≤ 20000 := fun x hx => wr_small (by omega) (hp x hx) (hsz x hx)
      rcases hk with rfl | rfl
      · exact fn_mono (written_file n q (q : Int) ps a l vs c c' t0 t1 (q_cases hq) hsm hbig hm hm2 hf fun x hx v S' hv' => ih (by omega) x (hp x hx) (hsz x hx) v S' hv') fun v => strIs_self
      · exact fn_mono (written_talk n q (q : Int) ps a l vs c c' t0 t1 (q_cases hq) hsm hbig hm hm2 hf fun x hx v S' hv' => ih (by omega) x (hp x hx) (hsz x hx) v S' hv') fun v => strIs_self
end
end Mine
end
section
open PySem PySem.W PyProof.Rows
set_option Elab.async false
set_option maxRecDepth 100000
namespace Mine
section
local macro_rules | `(tactic| walk_at "CompSrc") => `(tactic| refine hold_intro ?_)
local macro_rules | `(tactic| walk_at "CompEnd") => `(tactic| refine hold_intro ?_)
local macro_rules | `(tactic| walk_at "eval ListComp") => `(tactic| refine hold_intro ?_)
local macro_rules | `(tactic| walk_at "exec Assign cons ListComp") => `(tactic| refine hold_intro ?_)
local macro_rules | `(tactic| walk_at "call builtin:str.join") => `(tactic| refine hold_intro ?_)
local macro_rules | `(tactic| walk_at "storeName") => `(tactic| k_extra "mine9")
local macro_rules | `(tactic| walk_at "subscriptTail Name Slice ref ref") => `(tactic| refine hold_intro ?_)
local macro_rules | `(tactic| walk_at "binaryOp Add ref ref") => `(tactic| refine hold_intro ?_)
local macro_rules | `(tactic| walk_at "subscriptTail Name Name ref int") => `(tactic| k_extra "mine10")
local macro_rules | `(tactic| walk_at "call builtin:len") => `(tactic| k_extra "mine11")
variable {prog : Program} {w : World} {p : Program} {loose : List Str} {mean : ExcName → Option Value} {mg mb : Str → Option Value} {news : List (Addr × Obj)}

set_option maxHeartbeats 4000000 in
theorem due_leaf (q ar : Nat) (l : List Nat) (a : Addr) (c : Nat) (t0 t1 t2 t3 : Tok) (hq : (q : Int) ≤ 2) (har : (ar : Int) ≤ 6) (hl : (ofL l).length ≤ 5) (hm : (a, listOf #[.int 0 t0, .int (q : Int) t1, .str (ofL l) t2] c) ∈ news) :
    FnMk prog w (Mine.hd.heap_39 w.params) p loose mean mg mb 151 1 news [.ref a, .int (ar : Int) t3] (fun ext v => ∃ (r : Addr) (c' : Nat) (x : Str) (k : Int) (t4 t5 : Tok), v = .ref r ∧ x = ofL (leafL q ar l) ∧ k = ((feT (.leaf q l) ar : Nat) : Int) ∧ (r, ({ cls := .type "tuple", data := .seq #[.str x t4, .int k t5] c' } : Obj)) ∈ ext) := by
  w_on
  intro dp un gd cn cs a ccd cl outer A₀ base h₀ L m s Q E B F X N T hk hd hu hret
  refine wpAny_call ?_
  k_dflt (refine' code_defC ?k1 ?k2 ?k3 ?k4 ?k5 ?kA ?kF ?kK ?k6 ?k7 ?k8 ?k9 ?kB ?kD ?_ ?c2 ?c3 ?c4; (case kA => exact rfl); (case kF => exact rfl); (case kK => assumption); (case k1 => k_asm); (case k2 => k_asm); (case k3 => k_asm); (case k4 => k_asm); (case k5 => k_asm); (case k6 => k_is); (case k7 => k_is); (case k8 => ktr_room); (case k9 => exact BindsTo.of_eq rfl); (case kB => exact rfl); (case kD => decide +kernel); (case c2 => exact rfl); (case c3 => exact rfl); (case c4 => exact rfl); k_whole; intro g' L' h' tk' cells' FG' F' N' Y' B' X' T' l1; (have hNL := l1); (try k_lt l1); k_cells Y'; (try simp only [List.cons_append, List.nil_append] at N'); (try dsimp only); (try k_lift B'); (try k_fold))
  with_reducible rename News _ _ _ _ => Nq
  have hla := ltN (hNL _ hm)
  (try dsimp only at hla)
  have Nq2 := news_add Nq (.tail _ (.tail _ (.tail _ hm)))
  clear Nq
  have qopen : QOpen := trivial
  k_steps
  · refine hold_out ?_
    with_reducible rename News _ _ _ _ => Nr
    have hr1 := ne_cell (y := L' + 1) Nr (List.Mem.head _) (by k_mem) rfl (by assumption)
    have hr2 := ne_cell (y := L' + 1 + 1) Nr (List.Mem.head _) (by k_mem) rfl (by assumption)
    have hr3 := ne_cell (y := L' + 1 + 1 + 1) Nr (List.Mem.head _) (by k_mem) rfl (by assumption)
    k_steps
    refine hold_out ?_
    have hs1 := hr1
    have hs2 := hr2
    have hs3 := hr3
    (try dsimp only at hs1 hs2 hs3)
    rename List.map _ _ = Txt.split _ _ => q1
    with_reducible rename (∀ a : Str, a ∈ _ → _ ≤ _) => q3
    rename List (Str × Tok) => lr
    have q5 := strs_lenF q1
    k_dflt (refine LCg.ListComp_U (F₀ := by k_asm) (by with_unfolding_all rfl) (by decide) (by rfl) (by decide) (by rfl) ?_)
    k_steps
    refine hold_out ?_
    k_dflt (refine' kmk_slice_lit ?zF ?zN ?zl ?zp ?zq (strs_drop _) ?_ ?zs ?zt ?zz)
    (case zF => k_asm)
    (case zN => k_asm)
    (case zl => exact News.isList (by k_asm) (by k_mem))
    (case zp => exact IsPart.int _ _)
    (case zq => exact IsPart.none)
    (case zs => with_unfolding_all rfl)
    (case zt => kmk_pure)
    (case zz => rw [sizeLine_eq]; simp only [strValues, List.size_toArray, List.length_map]; omega)
    intro D4 h4 F4 N4 l4
    (try k_lt l4)
    k_steps
    refine hold_out ?_
    refine LCg.CompSrc.ledger (by rfl) (by k_asm) (by k_asm) (by k_mem) ?sz5 ?rest5
    case sz5 =>
      rw [sizeLine_eq]
      simp only [strValues, List.size_toArray, List.length_map, List.length_drop]
      omega
    case rest5 =>
      intro g5
      refine comp_strs (fun _ => Txt.mul (Str.ofString ".") ((q : Int) + ar)) (Or.inr ⟨_, by k_mem, rfl, _, rfl⟩) ?turn5 ?fin5
      case turn5 =>
        intro z tz I oI C oC D m₂ ys h tk E' hz hC hx2 F1 N1 off ne
        k_steps
        all_goals refine hold_out ?_
        all_goals exact txEnd (by assumption) (by k_asm) (by first | exact fun p9 hp9 => hp9 | kcf_all | (intro p9 hp9; repeat (first | exact hp9 | refine List.Mem.tail _ ?_))) off (Or.inr ⟨_, by k_mem, rfl, _, rfl⟩) rfl
      case fin5 =>
        intro l5 e5
        unfold LCg.FinE
        intro D5 h5 tk5 F5 N5 o5
        dsimp only
        k_steps
        refine hold_out ?_
        have n5 := congrArg List.length e5
        simp only [List.length_map, List.length_drop] at n5
        k_dflt (refine' add_strs ?aF ?aN ?al ?ab ?az ?_)
        (case aF => k_asm)
        (case aN => k_asm)
        (case al => exact News.isList (by k_asm) (by k_mem))
        (case ab => exact News.isList (by k_asm) (by k_mem))
        (case az => omega)
        intro D6 h6 F6 N6 l6
        have hr4 := ne_cell (y := L' + 1) N6 (.tail _ (List.Mem.head _)) (by k_mem) rfl (by assumption)
        have hr5 := ne_cell (y := L' + 1 + 1) N6 (.tail _ (List.Mem.head _)) (by k_mem) rfl (by assumption)
        have hr6 := ne_cell (y := L' + 1 + 1 + 1) N6 (.tail _ (List.Mem.head _)) (by k_mem) rfl (by assumption)
        have hdb := dots_bound (k := 10) e5 (mul_dot_len (n := (q : Int)) (by omega)) (mul_dot_len (by omega))
        (try k_lt l6)
        k_steps
        refine hold_out ?_
        k_dflt (refine LCg.ListComp_U (F₀ := by k_asm) (by with_unfolding_all rfl) (by decide) (by rfl) (by decide) (by rfl) ?_)
        k_steps
        refine hold_out ?_
        refine LCg.CompSrc.range (by rfl) (by k_asm) (by k_asm) (by assumption) ?rsm (rangeSize_nat _ _) ?rsz ?rest7
        case rsm => exact small_one (by omega) (by omega) (by omega) (by omega)
        case rsz => (rw [sizeLine_eq]; omega)
        case rest7 =>
          intro g7
          refine comp_texts (rowAt (q : Int) ((q + ar : Nat) : Int) (lr.map fun x => x.1)) trivial ?turn7 ?fin7
          case turn7 =>
            intro i v I oI C oC D m₂ ys h tk E' hi hv hC hx2 F1 N1 off ne
            obtain ⟨tv, rfl⟩ := hv
            k_steps
            · refine hold_out ?_
              rename (_ == _) = true => hp
              exact txEnd (by assumption) (by k_asm) (by first | exact fun p9 hp9 => hp9 | kcf_all | (intro p9 hp9; repeat (first | exact hp9 | refine List.Mem.tail _ ?_))) off trivial (row_dot e5 (by assumption) (by assumption) (by assumption) hp)
            · refine hold_out ?_
              rename (_ == _) = false => hp
              exact txEnd (by assumption) (by k_asm) (by first | exact fun p9 hp9 => hp9 | kcf_all | (intro p9 hp9; repeat (first | exact hp9 | refine List.Mem.tail _ ?_))) off trivial (row_plain (by assumption) (by assumption) hp)
          case fin7 =>
            intro l7 e7
            have hn7 : ((lr.length : Int) - 0).toNat = lr.length := by omega
            rw [hn7] at e7
            have hj := leaf_join q1 (by omega) e7
            have hok : ((l7.map fun x => x.1).map fun y => y.length).sum + (l7.map fun x => x.1).length * (Str.ofString "\r\n").length ≤ 1000000 := by
              refine join_ok ?_ ?_ (by decide +kernel)
              · rw [e7, List.length_map, List.length_range]; omega
              · intro z hz
                rw [e7] at hz
                obtain ⟨i, _, rfl⟩ := List.mem_map.mp hz
                have := row_len (q := (q : Int)) (s := ((q + ar : Nat) : Int)) (by omega) (by omega) (fun z hz => Nat.le_trans (q3 z hz) (by omega)) i
                omega
            unfold LCg.FinE
            intro D7 h7 tk7 F7 N7 o7
            dsimp only
            k_steps
            refine hold_out ?_
            refine joinP (News.isList (by k_asm) (by k_mem)) hok ?_
            intro tj kj
            rw [hj]
            dsimp only
            k_steps
            exact hret _ _ _ [(_, _)] ⟨_, 0, _, _, _, _, rfl, rfl, due_count rfl, List.Mem.head _⟩ (fresh_of hNL (by refine ltN ?_; omega)) (by assumption) (by intro p9 hp9; exact (by assumption : News h₀ L _ _) p9 (by (rcases List.mem_cons.mp hp9 with rfl | hp9) <;> first | k_mem | (repeat (first | exact hp9 | refine List.Mem.tail _ ?_))))
  · have hz0 : leafL q ar l = l := leaf_zero (by omega)
    exact hret _ _ _ [(_, _)] ⟨_, 0, _, _, _, _, rfl, (congrArg ofL hz0).symm, due_count hz0, List.Mem.head _⟩ (fresh_of hNL (by refine ltN ?_; omega)) (by assumption) (by intro p9 hp9; exact (by assumption : News h₀ L _ _) p9 (by (rcases List.mem_cons.mp hp9 with rfl | hp9) <;> first | k_mem | (repeat (first | exact hp9 | refine List.Mem.tail _ ?_))))
end
end Mine
end
section
open PySem PySem.W PyProof.Rows
set_option Elab.async false
set_option maxRecDepth 100000
namespace Mine
section
local macro_rules | `(tactic| walk_at "CompSrc") => `(tactic| refine hold_intro ?_)
local macro_rules | `(tactic| walk_at "CompEnd") => `(tactic| refine hold_intro ?_)
local macro_rules | `(tactic| walk_at "eval ListComp") => `(tactic| refine hold_intro ?_)
local macro_rules | `(tactic| walk_at "exec Assign cons ListComp") => `(tactic| refine hold_intro ?_)
local macro_rules | `(tactic| walk_at "call ref") => `(tactic| refine hold_intro ?_)
local macro_rules | `(tactic| walk_at "compareOp NotEq ref ref") => `(tactic| refine hold_intro ?_)
local macro_rules | `(tactic| walk_at "binaryOp Add ref ref") => `(tactic| refine hold_intro ?_)
variable {prog : Program} {w : World} {p : Program} {loose : List Str} {mean : ExcName → Option Value} {mg mb : Str → Option Value} {news : List (Addr × Obj)}

set_option maxHeartbeats 4000000 in
theorem due_file (n q ar : Nat) (ps : List Tr) (ra rl : Addr) (vs : List Value) (c c' : Nat) (t0 t1 t3 : Tok) (hq : (q : Int) ≤ 2) (har : (ar : Int) ≤ 6) (hn : ps.length ≤ 100)
    (hok : ∀ x ∈ ps, TOk n x) (hnn : n ≤ 3) (hm : (ra, listOf #[.int 1 t0, .int (q : Int) t1, .ref rl] c) ∈ news) (hm2 : (rl, listOf (List.toArray vs) c') ∈ news) (hf : Fa2 (TAt news n) ps vs) (hsum : (dueF ps (q + ar) : Int) ≤ 300000)
    (IH : ∀ x ∈ ps, ∀ (v : Value) (news' : List (Addr × Obj)) (t : Tok), TAt news' n x v → FnMk prog w (Mine.hd.heap_39 w.params) p loose mean mg mb 151 (n + 11) news' [v, .int ((q : Int) + ar) t] (fun ext v => PairAt (q + ar) ext x v)) :
    FnMk prog w (Mine.hd.heap_39 w.params) p loose mean mg mb 151 (n + 12) news [.ref ra, .int (ar : Int) t3] (fun ext v => PairAt ar ext (.node 1 q ps) v) := by
  w_on
  intro dp un gd cn cs a ccd cl outer A₀ base h₀ L m s Q E B F X N T hk hd hu hret
  refine wpAny_call ?_
  k_dflt (refine' code_defC ?k1 ?k2 ?k3 ?k4 ?k5 ?kA ?kF ?kK ?k6 ?k7 ?k8 ?k9 ?kB ?kD ?_ ?c2 ?c3 ?c4; (case kA => exact rfl); (case kF => exact rfl); (case kK => assumption); (case k1 => k_asm); (case k2 => k_asm); (case k3 => k_asm); (case k4 => k_asm); (case k5 => k_asm); (case k6 => k_is); (case k7 => k_is); (case k8 => ktr_room); (case k9 => exact BindsTo.of_eq rfl); (case kB => exact rfl); (case kD => decide +kernel); (case c2 => exact rfl); (case c3 => exact rfl); (case c4 => exact rfl); k_whole; intro g' L' h' tk' cells' FG' F' N' Y' B' X' T' l1; (have hNL := l1); (try k_lt l1); k_cells Y'; (try simp only [List.cons_append, List.nil_append] at N'); (try dsimp only); (try k_lift B'); (try k_fold))
  with_reducible rename News _ _ _ _ => Nq
  have hla := ltN (hNL _ hm)
  have hlb := ltN (hNL _ hm2)
  (try dsimp only at hla hlb)
  have Nq2 := news_add (news_add Nq (.tail _ (.tail _ (.tail _ hm2)))) (.tail _ (.tail _ (.tail _ (.tail _ hm))))
  clear Nq
  k_steps
  refine hold_out ?_
  k_dflt (refine LCg.Assign_ListComp_U (F₀ := by k_asm) (by rfl) (by with_unfolding_all rfl) (by with_unfolding_all rfl) (by decide) (by rfl) (by decide) (by rfl) (by rfl) (by rfl) ?_)
  k_steps
  refine hold_out ?_
  refine LCg.CompSrc.ledger (by rfl) (by k_asm) (by k_asm) (by k_mem) ?sz1 ?rest1
  case sz1 => rw [sizeLine_eq, List.size_toArray, hf.length]; omega
  case rest1 =>
    intro g1
    refine comp_mk2 hf (PairAt (q + ar)) PairAt.mono ?turn1 ?fin1
    case turn1 =>
      intro x v made I oI C oC D m₂ ys h tk E' hpp hR hC hx2 F1 N1 off ne
      have N1b := news_add (p := (L' + 1, _)) N1 (.tail _ (.tail _ (.tail _ (List.mem_append_right _ (by k_mem)))))
      clear N1
      k_steps
      refine hold_out ?_
      k_dflt (refine' mk_use (IH _ hpp _ _ _ ?kt) ?k1 ?k2 ?k3 ?k4 ?k5 ?kK ?kd ?ku ?_)
      (case k1 => k_asm)
      (case k2 => k_asm)
      (case k3 => k_asm)
      (case k4 => exact N1b)
      (case k5 => k_asm)
      (case kK => first | exact rfl | assumption)
      (case kd => ktr_room)
      (case ku => ktr_units)
      (case kt => exact TAt.mono (fun p9 hp9 => .tail _ (.tail _ (.tail _ (.tail _ (List.mem_append_right _ (by repeat (first | exact hp9 | refine List.Mem.tail _ ?_)))))) ) hR)
      intro v' h' tk' ext hE hfr F' N'
      exact mkEnd2 F' N' hfr off (Or.inr ⟨_, List.mem_append_right _ (List.mem_append_right _ (by k_mem)), rfl, _, rfl⟩) hE
    case fin1 =>
      intro ys2 made hfr2 hE
      unfold LCg.FinA
      intro D2 h2 tk2 F2 N2 o2
      have N2b := news_add (p := (ra, _)) N2 (.tail _ (List.mem_append_right _ (by k_mem)))
      clear N2
      dsimp only
      k_steps
      refine hold_out ?_
      k_dflt (refine LCg.ListComp_U (F₀ := by k_asm) (by with_unfolding_all rfl) (by decide) (by rfl) (by decide) (by rfl) ?_)
      k_steps
      refine hold_out ?_
      refine LCg.CompSrc.ledger (by rfl) (by k_asm) (by k_asm) (by k_mem) ?sz3 ?rest3
      case sz3 => rw [sizeLine_eq, List.size_toArray, hE.length]; omega
      case rest3 =>
        intro g3
        refine comp_fa hE (IntAt fun x => feT x (q + ar)) ?turn3 ?fin3
        case turn3 =>
          intro x v I oI C oC D m₂ ys h tk E' hpp hR hC hx2 F1 N1 off ne
          obtain ⟨r9, c9, v9, k9, t9, rfl, rfl, hrd, hm9⟩ := hR
          have N1b := news_add (p := (r9, tupObj #[v9, .int _ t9] c9)) N1 (by repeat (first | exact List.mem_append_left _ hm9 | refine List.Mem.tail _ ?_))
          clear N1
          k_steps
          refine hold_out ?_
          exact faEnd (by assumption) (by k_asm) (fun p9 hp9 => .tail _ hp9) off (Or.inr ⟨_, by k_mem, rfl, _, rfl⟩) ⟨_, rfl⟩
        case fin3 =>
          intro ys6 hI6
          have hI := intsAt hI6
          have hs6 := sum_fe ps (q + ar)
          unfold LCg.FinE
          intro D6 h6 tk6 F6 N6 o6
          dsimp only
          k_steps
          refine hold_out ?_
          k_dflt (refine' ne_nil_pairs ?nN ?nD hE ?ns ?nb hok hnn ?nu ?_)
          (case nN => k_asm)
          (case nD => k_mem)
          (case ns => exact fun p9 hp9 => by repeat (first | exact List.mem_append_left _ hp9 | refine List.Mem.tail _ ?_))
          (case nb => exact News.isList (by k_asm) (by k_mem))
          (case nu => ktr_units)
          k_steps
          · refine hold_out ?_
            k_dflt (refine LCg.ListComp_U (F₀ := by k_asm) (by with_unfolding_all rfl) (by decide) (by rfl) (by decide) (by rfl) ?_)
            k_steps
            refine hold_out ?_
            refine LCg.CompSrc.ledger (by rfl) (by k_asm) (by k_asm) (by k_mem) ?sz8a ?rest8a
            case sz8a => rw [sizeLine_eq, List.size_toArray, hE.length]; omega
            case rest8a =>
              intro g8
              refine comp_fa hE (fun x y => RdAt made y (dueD x (q + ar))) ?turn8a ?fin8a
              case turn8a =>
                intro x v I oI C oC D m₂ ys h tk E' hpp hR hC hx2 F1 N1 off ne
                obtain ⟨r9, c9, v9, k9, t9, rfl, rfl, hrd, hm9⟩ := hR
                have N1b := news_add (p := (r9, tupObj #[v9, .int _ t9] c9)) N1 (by repeat (first | exact List.mem_append_left _ hm9 | refine List.Mem.tail _ ?_))
                clear N1
                k_steps
                refine hold_out ?_
                exact faEnd (El := fun x y => RdAt made y (dueD x (q + ar))) (by assumption) (by k_asm) (fun p9 hp9 => .tail _ hp9) off (Or.inr ⟨_, by k_mem, rfl, _, rfl⟩) hrd
              case fin8a =>
                intro ys8 hR8
                have n8 := hR8.length
                unfold LCg.FinE
                intro D8 h8 tk8 F8 N8 o8
                dsimp only
                k_steps
                refine hold_out ?_
                k_dflt (refine' add_lst ?aFa ?aNa ?ala ?aba ?aza ?_)
                (case aFa => k_asm)
                (case aNa => k_asm)
                (case ala => exact News.isList (by k_asm) (by k_mem))
                (case aba => exact News.isList (by k_asm) (by k_mem))
                (case aza => simp only [List.length_cons, List.length_nil]; omega)
                intro D9 h9 F9 N9 l9
                have hL9 : ∀ y ∈ news, @LT.lt Nat _ y.1 D9 := fun y hy => l9 y (by repeat (first | exact List.mem_append_right _ (by repeat (first | exact hy | refine List.Mem.tail _ ?_)) | refine List.Mem.tail _ ?_))
                (try k_lt l9)
                k_steps
                with_reducible rename News h₀ L _ _ => Nk
                exact hret _ _ _ ((_, tupObj #[.ref D9, .int _ _] 0) :: (D9, listOf (List.toArray ([.int _ _] ++ ys8)) 0) :: made) ⟨_, 0, _, _, _, rfl, hs6.trans (by rw [feT_node]), due_rd (.tail _ (List.Mem.head _)) hR8 (fun q hq => .tail _ (.tail _ hq)) (by rw [if_neg (fun q => q.2 (by assumption))]), List.Mem.head _⟩
                  (fresh3 (by refine ltN ?_; omega) hL9 hfr2 (fun y hy => by repeat (first | exact hy | refine List.Mem.tail _ ?_))) (by assumption)
                  (news3 Nk (by k_mem) (by k_mem) (fun y hy => by repeat (first | exact List.mem_append_left _ hy | refine List.Mem.tail _ ?_)) (fun y hy => by repeat (first | exact List.mem_append_right _ (by repeat (first | exact hy | refine List.Mem.tail _ ?_)) | refine List.Mem.tail _ ?_)))
          · refine hold_out ?_
            k_dflt (refine LCg.ListComp_U (F₀ := by k_asm) (by with_unfolding_all rfl) (by decide) (by rfl) (by decide) (by rfl) ?_)
            k_steps
            refine hold_out ?_
            refine LCg.CompSrc.ledger (by rfl) (by k_asm) (by k_asm) (by k_mem) ?sz8b ?rest8b
            case sz8b => rw [sizeLine_eq, List.size_toArray, hE.length]; omega
            case rest8b =>
              intro g8
              refine comp_fa hE (fun x y => RdAt made y (dueD x (q + ar))) ?turn8b ?fin8b
              case turn8b =>
                intro x v I oI C oC D m₂ ys h tk E' hpp hR hC hx2 F1 N1 off ne
                obtain ⟨r9, c9, v9, k9, t9, rfl, rfl, hrd, hm9⟩ := hR
                have N1b := news_add (p := (r9, tupObj #[v9, .int _ t9] c9)) N1 (by repeat (first | exact List.mem_append_left _ hm9 | refine List.Mem.tail _ ?_))
                clear N1
                k_steps
                refine hold_out ?_
                exact faEnd (El := fun x y => RdAt made y (dueD x (q + ar))) (by assumption) (by k_asm) (fun p9 hp9 => .tail _ hp9) off (Or.inr ⟨_, by k_mem, rfl, _, rfl⟩) hrd
              case fin8b =>
                intro ys8 hR8
                have n8 := hR8.length
                unfold LCg.FinE
                intro D8 h8 tk8 F8 N8 o8
                dsimp only
                k_steps
                refine hold_out ?_
                k_dflt (refine' add_lst ?aFb ?aNb ?alb ?abb ?azb ?_)
                (case aFb => k_asm)
                (case aNb => k_asm)
                (case alb => exact News.isList (by k_asm) (by k_mem))
                (case abb => exact News.isList (by k_asm) (by k_mem))
                (case azb => simp only [List.length_cons, List.length_nil]; omega)
                intro D9 h9 F9 N9 l9
                have hL9 : ∀ y ∈ news, @LT.lt Nat _ y.1 D9 := fun y hy => l9 y (by repeat (first | exact List.mem_append_right _ (by repeat (first | exact hy | refine List.Mem.tail _ ?_)) | refine List.Mem.tail _ ?_))
                (try k_lt l9)
                k_steps
                with_reducible rename News h₀ L _ _ => Nk
                exact hret _ _ _ ((_, tupObj #[.ref D9, .int _ _] 0) :: (D9, listOf (List.toArray ([.int _ _] ++ ys8)) 0) :: made) ⟨_, 0, _, _, _, rfl, hs6.trans (by rw [feT_node]), due_rd (.tail _ (List.Mem.head _)) hR8 (fun q hq => .tail _ (.tail _ hq)) ((congrArg (fun z => 1 + z) hs6).trans (if_pos ⟨rfl, by assumption⟩).symm), List.Mem.head _⟩
                  (fresh3 (by refine ltN ?_; omega) hL9 hfr2 (fun y hy => by repeat (first | exact hy | refine List.Mem.tail _ ?_))) (by assumption)
                  (news3 Nk (by k_mem) (by k_mem) (fun y hy => by repeat (first | exact List.mem_append_left _ hy | refine List.Mem.tail _ ?_)) (fun y hy => by repeat (first | exact List.mem_append_right _ (by repeat (first | exact hy | refine List.Mem.tail _ ?_)) | refine List.Mem.tail _ ?_)))
end
end Mine
end
section
open PySem PySem.W PyProof.Rows
set_option Elab.async false
set_option maxRecDepth 100000
namespace Mine
section
local macro_rules | `(tactic| walk_at "CompSrc") => `(tactic| refine hold_intro ?_)
local macro_rules | `(tactic| walk_at "CompEnd") => `(tactic| refine hold_intro ?_)
local macro_rules | `(tactic| walk_at "eval ListComp") => `(tactic| refine hold_intro ?_)
local macro_rules | `(tactic| walk_at "exec Assign cons ListComp") => `(tactic| refine hold_intro ?_)
local macro_rules | `(tactic| walk_at "call ref") => `(tactic| refine hold_intro ?_)
local macro_rules | `(tactic| walk_at "compareOp NotEq ref ref") => `(tactic| refine hold_intro ?_)
local macro_rules | `(tactic| walk_at "binaryOp Add ref ref") => `(tactic| refine hold_intro ?_)
variable {prog : Program} {w : World} {p : Program} {loose : List Str} {mean : ExcName → Option Value} {mg mb : Str → Option Value} {news : List (Addr × Obj)}

set_option maxHeartbeats 4000000 in
theorem due_talk (n q ar : Nat) (ps : List Tr) (ra rl : Addr) (vs : List Value) (c c' : Nat) (t0 t1 t3 : Tok) (hq : (q : Int) ≤ 2) (har : (ar : Int) ≤ 6) (hn : ps.length ≤ 100)
    (hok : ∀ x ∈ ps, TOk n x) (hnn : n ≤ 3) (hm : (ra, listOf #[.int 2 t0, .int (q : Int) t1, .ref rl] c) ∈ news) (hm2 : (rl, listOf (List.toArray vs) c') ∈ news) (hf : Fa2 (TAt news n) ps vs) (hsum : (dueF ps (q + ar) : Int) ≤ 300000)
    (IH : ∀ x ∈ ps, ∀ (v : Value) (news' : List (Addr × Obj)) (t : Tok), TAt news' n x v → FnMk prog w (Mine.hd.heap_39 w.params) p loose mean mg mb 151 (n + 11) news' [v, .int ((q : Int) + ar) t] (fun ext v => PairAt (q + ar) ext x v)) :
    FnMk prog w (Mine.hd.heap_39 w.params) p loose mean mg mb 151 (n + 12) news [.ref ra, .int (ar : Int) t3] (fun ext v => PairAt ar ext (.node 2 q ps) v) := by
  w_on
  intro dp un gd cn cs a ccd cl outer A₀ base h₀ L m s Q E B F X N T hk hd hu hret
  refine wpAny_call ?_
  k_dflt (refine' code_defC ?k1 ?k2 ?k3 ?k4 ?k5 ?kA ?kF ?kK ?k6 ?k7 ?k8 ?k9 ?kB ?kD ?_ ?c2 ?c3 ?c4; (case kA => exact rfl); (case kF => exact rfl); (case kK => assumption); (case k1 => k_asm); (case k2 => k_asm); (case k3 => k_asm); (case k4 => k_asm); (case k5 => k_asm); (case k6 => k_is); (case k7 => k_is); (case k8 => ktr_room); (case k9 => exact BindsTo.of_eq rfl); (case kB => exact rfl); (case kD => decide +kernel); (case c2 => exact rfl); (case c3 => exact rfl); (case c4 => exact rfl); k_whole; intro g' L' h' tk' cells' FG' F' N' Y' B' X' T' l1; (have hNL := l1); (try k_lt l1); k_cells Y'; (try simp only [List.cons_append, List.nil_append] at N'); (try dsimp only); (try k_lift B'); (try k_fold))
  with_reducible rename News _ _ _ _ => Nq
  have hla := ltN (hNL _ hm)
  have hlb := ltN (hNL _ hm2)
  (try dsimp only at hla hlb)
  have Nq2 := news_add (news_add Nq (.tail _ (.tail _ (.tail _ hm2)))) (.tail _ (.tail _ (.tail _ (.tail _ hm))))
  clear Nq
  k_steps
  refine hold_out ?_
  k_dflt (refine LCg.Assign_ListComp_U (F₀ := by k_asm) (by rfl) (by with_unfolding_all rfl) (by with_unfolding_all rfl) (by decide) (by rfl) (by decide) (by rfl) (by rfl) (by rfl) ?_)
  k_steps
  refine hold_out ?_
  refine LCg.CompSrc.ledger (by rfl) (by k_asm) (by k_asm) (by k_mem) ?sz1 ?rest1
  case sz1 => rw [sizeLine_eq, List.size_toArray, hf.length]; omega
  case rest1 =>
    intro g1
    refine comp_mk2 hf (PairAt (q + ar)) PairAt.mono ?turn1 ?fin1
    case turn1 =>
      intro x v made I oI C oC D m₂ ys h tk E' hpp hR hC hx2 F1 N1 off ne
      have N1b := news_add (p := (L' + 1, _)) N1 (.tail _ (.tail _ (.tail _ (List.mem_append_right _ (by k_mem)))))
      clear N1
      k_steps
      refine hold_out ?_
      k_dflt (refine' mk_use (IH _ hpp _ _ _ ?kt) ?k1 ?k2 ?k3 ?k4 ?k5 ?kK ?kd ?ku ?_)
      (case k1 => k_asm)
      (case k2 => k_asm)
      (case k3 => k_asm)
      (case k4 => exact N1b)
      (case k5 => k_asm)
      (case kK => first | exact rfl | assumption)
      (case kd => ktr_room)
      (case ku => ktr_units)
      (case kt => exact TAt.mono (fun p9 hp9 => .tail _ (.tail _ (.tail _ (.tail _ (List.mem_append_right _ (by repeat (first | exact hp9 | refine List.Mem.tail _ ?_)))))) ) hR)
      intro v' h' tk' ext hE hfr F' N'
      exact mkEnd2 F' N' hfr off (Or.inr ⟨_, List.mem_append_right _ (List.mem_append_right _ (by k_mem)), rfl, _, rfl⟩) hE
    case fin1 =>
      intro ys2 made hfr2 hE
      unfold LCg.FinA
      intro D2 h2 tk2 F2 N2 o2
      have N2b := news_add (p := (ra, _)) N2 (.tail _ (List.mem_append_right _ (by k_mem)))
      clear N2
      dsimp only
      k_steps
      refine hold_out ?_
      k_dflt (refine LCg.ListComp_U (F₀ := by k_asm) (by with_unfolding_all rfl) (by decide) (by rfl) (by decide) (by rfl) ?_)
      k_steps
      refine hold_out ?_
      refine LCg.CompSrc.ledger (by rfl) (by k_asm) (by k_asm) (by k_mem) ?sz3 ?rest3
      case sz3 => rw [sizeLine_eq, List.size_toArray, hE.length]; omega
      case rest3 =>
        intro g3
        refine comp_fa hE (IntAt fun x => feT x (q + ar)) ?turn3 ?fin3
        case turn3 =>
          intro x v I oI C oC D m₂ ys h tk E' hpp hR hC hx2 F1 N1 off ne
          obtain ⟨r9, c9, v9, k9, t9, rfl, rfl, hrd, hm9⟩ := hR
          have N1b := news_add (p := (r9, tupObj #[v9, .int _ t9] c9)) N1 (by repeat (first | exact List.mem_append_left _ hm9 | refine List.Mem.tail _ ?_))
          clear N1
          k_steps
          refine hold_out ?_
          exact faEnd (by assumption) (by k_asm) (fun p9 hp9 => .tail _ hp9) off (Or.inr ⟨_, by k_mem, rfl, _, rfl⟩) ⟨_, rfl⟩
        case fin3 =>
          intro ys6 hI6
          have hI := intsAt hI6
          have hs6 := sum_fe ps (q + ar)
          unfold LCg.FinE
          intro D6 h6 tk6 F6 N6 o6
          dsimp only
          k_steps
          refine hold_out ?_
          k_dflt (refine LCg.ListComp_U (F₀ := by k_asm) (by with_unfolding_all rfl) (by decide) (by rfl) (by decide) (by rfl) ?_)
          k_steps
          refine hold_out ?_
          refine LCg.CompSrc.ledger (by rfl) (by k_asm) (by k_asm) (by k_mem) ?sz8a ?rest8a
          case sz8a => rw [sizeLine_eq, List.size_toArray, hE.length]; omega
          case rest8a =>
            intro g8
            refine comp_fa hE (fun x y => RdAt made y (dueD x (q + ar))) ?turn8a ?fin8a
            case turn8a =>
              intro x v I oI C oC D m₂ ys h tk E' hpp hR hC hx2 F1 N1 off ne
              obtain ⟨r9, c9, v9, k9, t9, rfl, rfl, hrd, hm9⟩ := hR
              have N1b := news_add (p := (r9, tupObj #[v9, .int _ t9] c9)) N1 (by repeat (first | exact List.mem_append_left _ hm9 | refine List.Mem.tail _ ?_))
              clear N1
              k_steps
              refine hold_out ?_
              exact faEnd (El := fun x y => RdAt made y (dueD x (q + ar))) (by assumption) (by k_asm) (fun p9 hp9 => .tail _ hp9) off (Or.inr ⟨_, by k_mem, rfl, _, rfl⟩) hrd
            case fin8a =>
              intro ys8 hR8
              have n8 := hR8.length
              unfold LCg.FinE
              intro D8 h8 tk8 F8 N8 o8
              dsimp only
              k_steps
              refine hold_out ?_
              k_dflt (refine' add_lst ?aFa ?aNa ?ala ?aba ?aza ?_)
              (case aFa => k_asm)
              (case aNa => k_asm)
              (case ala => exact News.isList (by k_asm) (by k_mem))
              (case aba => exact News.isList (by k_asm) (by k_mem))
              (case aza => simp only [List.length_cons, List.length_nil]; omega)
              intro D9 h9 F9 N9 l9
              have hL9 : ∀ y ∈ news, @LT.lt Nat _ y.1 D9 := fun y hy => l9 y (by repeat (first | exact List.mem_append_right _ (by repeat (first | exact hy | refine List.Mem.tail _ ?_)) | refine List.Mem.tail _ ?_))
              (try k_lt l9)
              k_steps
              with_reducible rename News h₀ L _ _ => Nk
              exact hret _ _ _ ((_, tupObj #[.ref D9, .int _ _] 0) :: (D9, listOf (List.toArray ([.int _ _] ++ ys8)) 0) :: made) ⟨_, 0, _, _, _, rfl, hs6.trans (by rw [feT_node]), due_rd (.tail _ (List.Mem.head _)) hR8 (fun q hq => .tail _ (.tail _ hq)) (by rw [if_neg (fun q => absurd q.1 (by decide))]), List.Mem.head _⟩
                (fresh3 (by refine ltN ?_; omega) hL9 hfr2 (fun y hy => by repeat (first | exact hy | refine List.Mem.tail _ ?_))) (by assumption)
                (news3 Nk (by k_mem) (by k_mem) (fun y hy => by repeat (first | exact List.mem_append_left _ hy | refine List.Mem.tail _ ?_)) (fun y hy => by repeat (first | exact List.mem_append_right _ (by repeat (first | exact hy | refine List.Mem.tail _ ?_)) | refine List.Mem.tail _ ?_)))
end
end Mine
end
section
open PySem PySem.W PyProof.Rows
set_option Elab.async false
set_option maxRecDepth 100000
namespace Mine
section
variable {prog : Program} {w : World} {p : Program} {loose : List Str} {mean : ExcName → Option Value} {mg mb : Str → Option Value} {news : List (Addr × Obj)}

theorem due_leaf' (n q ar : Nat) (l : List Nat) (h : q ≤ 2 ∧ l.length ≤ 5) (har : ar ≤ 6) (v : Value) (S : List (Addr × Obj)) (t3 : Tok) (hv : ∃ a c t0 t1 t2, v = .ref a ∧ (a, listOf #[.int 0 t0, .int (q : Int) t1, .str (ofL l) t2] c) ∈ S) :
    FnMk prog w (Mine.hd.heap_39 w.params) p loose mean mg mb 151 (n + 11) S [v, .int (ar : Int) t3] (fun ext v => PairAt ar ext (.leaf q l) v) := by
  obtain ⟨a, c, t0, t1, t2, rfl, hm⟩ := hv
  refine mk_deep (mk_mono (due_leaf q ar l a c t0 t1 t2 t3 (by omega) (by omega) (by rw [ofL_length]; exact h.2) hm) fun e v hr => ?_) (by omega)
  obtain ⟨r, c', x, k, t4, t5, rfl, hx, hk, hm⟩ := hr
  exact ⟨r, c', .str x t4, k, t5, rfl, hk, by rw [dueD, hx]; exact rdAt_str _ _, hm⟩
theorem szTs_len : ∀ ps : List Tr, ps.length ≤ szTs ps
  | [] => Nat.zero_le _
  | p :: r => by
    rw [szTs_cons]
    have := szT_pos p
    have := szTs_len r
    simp only [List.length_cons]; omega
theorem due_sum {k q ar : Nat} {ps : List Tr} (h : (wrA (.node k q ps) ar).length ≤ 200000) : (dueF ps (q + ar) : Int) ≤ 300000 := by
  rw [← feT_node k]
  unfold feT
  have := List.count_le_length (a := 10) (l := wrA (.node k q ps) ar)
  omega
theorem due_fn : ∀ (n : Nat), n ≤ 3 → ∀ (t : Tr), TOk n t → szT t ≤ 9 → ∀ (ar : Nat), ar + 2 * n ≤ 6 → (wrA t ar).length ≤ 200000 → ∀ (v : Value) (S : List (Addr × Obj)) (t3 : Tok), TAt S n t v →
    FnMk prog w (Mine.hd.heap_39 w.params) p loose mean mg mb 151 (n + 11) S [v, .int (ar : Int) t3] (fun ext v => PairAt ar ext t v) := by
  intro n
  induction n with
  | zero =>
    intro hn t h hs ar har hw v S t3 hv
    cases t with
    | leaf q l => exact due_leaf' 0 q ar l ⟨h.1, h.2.1⟩ (by omega) v S t3 hv
    | node k q ps => exact h.elim
  | succ n ih =>
    intro hn t h hs ar har hw v S t3 hv
    cases t with
    | leaf q l => exact due_leaf' (n + 1) q ar l ⟨h.1, h.2.1⟩ (by omega) v S t3 hv
    | node k q ps =>
      obtain ⟨hk, hq, hp⟩ := h
      obtain ⟨a, c, l, vs, c', t0, t1, rfl, hm, hm2, hf⟩ := hv
      rw [szT_node] at hs
      have hsz : ∀ x ∈ ps, szT x ≤ 9 := fun x hx => by have := sz_mem hx; omega
      have hlen := szTs_len ps
      have hsum := due_sum hw
      have IH : ∀ x ∈ ps, ∀ (v : Value) (news' : List (Addr × Obj)) (t : Tok), TAt news' n x v → FnMk prog w (Mine.hd.heap_39 w.params) p loose mean mg mb 151 (n + 11) news' [v, .int ((q : Int) + ar) t] (fun ext v => PairAt (q + ar) ext x v) := by
        intro x hx v news' t hv'
        have e : ((q : Int) + (ar : Int)) = ((q + ar : Nat) : Int) := by omega
        rw [e]
        have h1 := part_le (k := k) (q := q) (a := ar) hx
        exact ih (by omega) x (hp x hx) (hsz x hx) (q + ar) (by omega) (by omega) v news' t hv'
      rcases hk with rfl | rfl
      · exact due_file n q ar ps a l vs c c' t0 t1 t3 (by omega) (by omega) (by omega) hp (by omega) hm hm2 hf hsum IH
      · exact due_talk n q ar ps a l vs c c' t0 t1 t3 (by omega) (by omega) (by omega) hp (by omega) hm hm2 hf hsum IH
end
end Mine
end
section
open PySem PySem.W PyProof.Rows
set_option Elab.async false
set_option maxRecDepth 100000
namespace Mine
section
local macro_rules | `(tactic| walk_at "eval List") => `(tactic| refine hold_intro ?_)
variable {prog : Program} {w : World} {p : Program} {loose : List Str} {mean : ExcName → Option Value} {mg mb : Str → Option Value} {news : List (Addr × Obj)}

set_option maxHeartbeats 4000000 in
theorem read_leaf (l : List Nat) (t3 : Tok) (hl : l.length ≤ 200000) :
    FnOk prog w (Mine.hd.heap_39 w.params) p loose mean mg mb 146 1 news [.str (ofL (61 :: l)) t3] (StrIs (ofL l) (ofL l).length) := by
  w_on
  intro dp un gd cn cs a ccd cl outer A₀ base h₀ L m s Q E B F X N T hk hd hu hret
  refine wpAny_call ?_
  k_dflt (refine' code_defC ?k1 ?k2 ?k3 ?k4 ?k5 ?kA ?kF ?kK ?k6 ?k7 ?k8 ?k9 ?kB ?kD ?_ ?c2 ?c3 ?c4; (case kA => exact rfl); (case kF => exact rfl); (case kK => assumption); (case k1 => k_asm); (case k2 => k_asm); (case k3 => k_asm); (case k4 => k_asm); (case k5 => k_asm); (case k6 => k_is); (case k7 => k_is); (case k8 => ktr_room); (case k9 => exact BindsTo.of_eq rfl); (case kB => exact rfl); (case kD => decide +kernel); (case c2 => exact rfl); (case c3 => exact rfl); (case c4 => exact rfl); k_whole; intro g' L' h' tk' cells' FG' F' N' Y' B' X' T' l1; (have hNL := l1); (try k_lt l1); k_cells Y'; (try simp only [List.cons_append, List.nil_append] at N'); (try dsimp only); (try k_lift B'); (try k_fold))
  have hlen : (ofL (61 :: l)).length ≤ 300000 := by rw [ofL_length, List.length_cons]; omega
  have e1 : Txt.slice (ofL (61 :: l)) none (some 1) = Str.ofString "=" := by
    rw [show Str.ofString "=" = ofL [61] by decide +kernel]; exact slice_to (61 :: l) 1 (by simp)
  have e2 : Txt.slice (ofL (61 :: l)) (some 1) none = ofL l := slice_from (61 :: l) 1 (by simp)
  k_steps
  · exact hret _ _ _ ⟨_, by rw [e2], Nat.le_refl _⟩ (by assumption) (by intro p9 hp9; exact (by assumption : News _ _ _ _) p9 (by repeat (first | exact hp9 | refine List.Mem.tail _ ?_)))
  · exfalso
    rename (_ == _) = false => hq
    rw [e1] at hq
    exact absurd hq (by decide)
end
end Mine
end
section
open PySem PySem.W PyProof.Rows
set_option Elab.async false
set_option maxRecDepth 100000
namespace Mine
section
local macro_rules | `(tactic| walk_at "call type:list") => `(tactic| refine hold_intro ?_)
local macro_rules | `(tactic| walk_at "call ref") => `(tactic| k_extra "mine12")
local macro_rules | `(tactic| walk_at "CompSrc") => `(tactic| refine hold_intro ?_)
local macro_rules | `(tactic| walk_at "CompEnd") => `(tactic| refine hold_intro ?_)
local macro_rules | `(tactic| walk_at "eval ListComp") => `(tactic| refine hold_intro ?_)
local macro_rules | `(tactic| walk_at "binaryOp Add ref ref") => `(tactic| refine hold_intro ?_)
local macro_rules | `(tactic| walk_at "call builtin:list.append") => `(tactic| refine hold_intro ?_)
local macro_rules | `(tactic| walk_at "leaving ref") => `(tactic| refine hold_intro ?_)
local macro_rules | `(tactic| walk_at "exec While Constant cons nil") => `(tactic| refine hold_intro ?_)
variable {prog : Program} {w : World} {p : Program} {loose : List Str} {mean : ExcName → Option Value} {mg mb : Str → Option Value} {news : List (Addr × Obj)}

theorem qt_len {ws : List (List Nat)} (h : (qL 2 ws).length ≤ 200000) : (ofL (qL 2 ws)).length ≤ 300000 := by rw [ofL_length]; omega
theorem qt_not (ws : List (List Nat)) (y : Str) (c : Nat) (hy : y = ofL [c]) (hc : c ≠ 50) : (Txt.slice (ofL (qL 2 ws)) none (some 1) == y) = false := by
  subst hy
  cases ws with
  | nil =>
    rw [qL_nil]
    have e1 : Txt.slice (ofL []) none (some 1) = ofL [] := by decide +kernel
    rw [e1, ofL_beq]; simp
  | cons w r =>
    have e1 : qL 2 (w :: r) = 50 :: (53 :: 55 :: 32 :: 34 :: (dblL w ++ [34]) ++ qL 2 r) := by
      rw [qL_cons]; unfold quoteL; rw [if_neg (by decide)]; rfl
    rw [e1]
    have e2 : Txt.slice (ofL (50 :: (53 :: 55 :: 32 :: 34 :: (dblL w ++ [34]) ++ qL 2 r))) none (some 1) = ofL [50] := slice_to _ 1 (by simp)
    rw [e2, ofL_beq]
    simpa using fun e : 50 = c => hc e.symm
theorem parse257_q (w1 r : List Nat) (t : Tok) (h : (quoteL 2 w1 ++ r).length ≤ 200000) (hr : r.head? ≠ some 34) : FnOk prog w (Mine.hd.heap_39 w.params) p loose mean mg mb 70 1 news [.str (ofL (quoteL 2 w1 ++ r)) t] (StrIs (ofL w1) 200000) := by
  rw [quote2_eq]
  refine fn_mono (parse257_tell _ t ?_) fun v hv => ?_
  · have := congrArg List.length (congrArg (fun s : Str => s.cps.toList) (quote2_eq w1 r))
    rw [ofL_length]
    simp only [List.length_append, quote2_len, List.length_cons, dbl_len] at h ⊢
    omega
  · obtain ⟨t', e, _⟩ := hv
    refine ⟨t', by rw [e, tell_quote w1 r hr], ?_⟩
    rw [ofL_length]
    simp only [List.length_append, quote2_len] at h
    omega
def TalkJ (g' : Heap) (L' D : Addr) (rest : List (Addr × Obj)) (ps : List Tr) (a' : Nat) (n : Nat) (h : Heap) (m : Str → Option Value) : Prop :=
  ∃ (done rem : List Tr) (us : List (Str × Tok)) (c : Nat) (tr : Tok), n = rem.length + 1 ∧ ps = done ++ rem ∧ (qL 2 (rem.map fun x => wrA x a')).length ≤ 200000 ∧ us.map (fun x => x.1) = done.map (fun x => ofL (wrA x a')) ∧ Fr g' L' h m ∧
    AllAt m [(Str.ofString "rest", .str (ofL (qL 2 (rem.map fun x => wrA x a'))) tr), (Str.ofString "parts", .ref D)] ∧ News g' L' h ((D, listOf (strValues us).toArray c) :: rest)
set_option maxHeartbeats 4000000 in
theorem read_talk (n a' : Nat) (ps : List Tr) (t3 : Tok) (hl : (qL 2 (ps.map fun x => wrA x a')).length ≤ 200000)
    (IH : ∀ x ∈ ps, ∀ (news' : List (Addr × Obj)) (t : Tok), FnRd 143 TKr prog w (Mine.hd.heap_39 w.params) p loose mean mg mb 146 (n + 11) news' [.str (ofL (wrA x a')) t] (fun ext v => RdAt ext v (dueD x a'))) :
    FnRd 143 TKr prog w (Mine.hd.heap_39 w.params) p loose mean mg mb 146 (n + 12) news [.str (ofL (qL 2 (ps.map fun x => wrA x a'))) t3] (fun ext v => RdAt ext v (.list (.int 0 :: ps.map fun x => dueD x a'))) := by
  w_on
  intro arr S₀ dp un gd cn cs a ccd cl outer A₀ base h₀ L m s Q E B F XB TB DD N hTK hS₀ hne hk hd hu hret
  refine wpAny_call ?_
  k_dflt (refine' code_defT ?k1 ?k2 ?k3 ?k5 ?kDD ?k4 ?kA ?kF ?kK ?k6 ?k7 ?k8 ?k9 ?kB ?kD ?_ ?c2 ?c3 ?c4; (case kA => exact rfl); (case kF => exact rfl); (case kK => assumption); (case k1 => exact B); (case k2 => exact F); (case k3 => exact XB); (case k4 => exact N); (case k5 => exact TB); (case kDD => exact DD); (case k6 => k_is); (case k7 => k_is); (case k8 => ktr_room); (case k9 => exact BindsTo.of_eq rfl); (case kB => exact rfl); (case kD => decide +kernel); (case c2 => exact rfl); (case c3 => exact rfl); (case c4 => exact rfl); k_whole; intro g' L' h' tk' cells' FG' F' N' Y' B' X' T' D' l1; (have hNL := drop_lt l1); (try k_lt l1); k_cells Y'; (try simp only [List.cons_append, List.nil_append] at N'); (try dsimp only); (try k_lift B'); (try k_fold))
  have hlen := qt_len hl
  k_steps
  · exfalso
    rename (_ == Str.ofString "=") = true => hq
    rw [qt_not _ _ 61 (by decide +kernel) (by decide)] at hq
    cases hq
  · exfalso
    rename (_ == Str.ofString "\"") = true => hq
    rw [qt_not _ _ 34 (by decide +kernel) (by decide)] at hq
    cases hq
  · refine hold_out ?_
    with_reducible rename Fr _ _ _ _ => F1
    with_reducible rename News _ _ _ _ => N1
    refine' while_invH (TalkJ g' L' _ _ ps a') (ps.length + 1) (by assumption) ⟨_, [], ps, [], 0, _, rfl, rfl, hl, rfl, F1, ⟨rfl, rfl, trivial⟩, N1⟩ ?turn ?hE
    case hE => first | passes_own | with_unfolding_all passes_own
    case turn =>
      clear F1 N1
      rintro k m₁ h₁ tk₁ htk ⟨done, rem, us, c1, tr, hk1, hps, hrl, hus, F₁, e1, N₁⟩
      cases rem with
      | nil =>
        rw [show ofL (qL 2 (List.map (fun x => wrA x a') [])) = Str.ofString "" from by show ofL [] = _; decide +kernel] at e1
        have F2 := Fr_puts F₁ e1
        dsimp only [putAll] at F2
        clear F₁
        have qopen : QOpen := trivial
        k_steps
        refine hold_out ?_
        refine wpAny_call ?_
        k_dflt (refine' code_def ?k1 ?k2 ?k3 ?k4 ?k5 ?kA ?kF ?kK ?k6 ?k7 ?k8 ?k9 ?kB ?_ ?c2 ?c3 ?c4 ?c5; (case kA => exact rfl); (case kF => exact rfl); (case kK => first | exact rfl | assumption); (case k1 => k_asm); (case k2 => k_asm); (case k3 => k_asm); (case k4 => k_asm); (case k5 => k_asm); (case k6 => k_is); (case k7 => k_is); (case k8 => ktr_room); (case k9 => first | exact BindsTo.of_eq rfl | exact binds_K (by k_in) rfl (by k_is) rfl rfl rfl); (case c5 => decide); (case kB => exact locs rfl); (case c2 => exact rfl); (case c3 => exact rfl); (case c4 => exact rfl); k_whole; intro gp Lp hp FGp Fp Np Bp Xp Tp; (try dsimp only); (try k_lift Bp); (try k_fold))
        k_steps
        refine hold_out ?_
        with_reducible rename Heap.MadeExcOf _ _ _ _ _ => hx9
        k_dflt (refine' leave_raiseS Bp hx9 ?rF ?rN ?_; (case rF => k_asm); (case rN => k_asm))
        intro h3 t3' S3 _ U3
        clear hx9
        k_dflt (refine' caughtX S3 FGp B' U3 XB TB D' ?cx ?cq ?_ ?ck ?ckn ?cd ?cE; (case cx => k_is); (case cq => rfl); (case ck => rfl); (case ckn => rfl); (case cd => decide); (case cE => first | passes_own | with_unfolding_all passes_own))
        intro h4 g4 T4 F4 N4 B4 X4 P4 D4
        clear S3 U3 FGp Bp Xp Tp F2 N₁
        rw [List.append_nil] at hps
        subst hps
        obtain ⟨fr, hst, Fh, Nh, Xh, Th⟩ := hid_all (TK := TKr) (S₀ := S₀) (bs := (_, listOf (strValues us).toArray c1) :: news) B4 F4 N4 XB TB (by k_mem) (fun q hq => (List.mem_cons.mp hq).elim (fun e => e ▸ .head _) fun e => .tail _ (.tail _ (.tail _ e))) (List.forall_mem_cons.mpr ⟨by k_ne, hne⟩) hTK
        clear F4 N4
        k_steps
        refine hold_out ?_
        with_reducible rename News (hid _ _) _ _ _ => N5
        have hst2 := RdSt.add hst (by assumption)
        have N6 := news_rot N5
        clear N5
        have hpl : 2 * ps.length ≤ 200000 := by
          have := qL_count_le 2 (ps.map fun x => wrA x a')
          rw [List.length_map] at this
          omega
        k_dflt (refine LCg.ListComp_U (F₀ := by k_asm) (by with_unfolding_all rfl) (by decide) (by rfl) (by decide) (by rfl) ?_)
        k_steps
        refine hold_out ?_
        refine LCg.CompSrc.ledger (by rfl) (by k_asm) (by k_asm) (List.mem_append_right _ (.tail _ (.head _))) ?sz1 ?rest1
        case sz1 => rw [sizeLine_eq, List.size_toArray, (strs_fa hus).length]; omega
        case rest1 =>
          intro gg1
          refine comp_rd (st₀ := (143, tabObj arr) :: fr) (strs_fa hus) (fun e x y => RdAt e y (dueD x a')) (fun l l' x y hs hr => hr.mono hs) (hst2 _) ?turn1 ?fin1
          case turn1 =>
            intro x v made st I oI C oC D m₂ ys h tk E' hpp hR hst' hfr' hC hx2 F1 N1 off ne
            obtain ⟨tv, rfl⟩ := hR
            have qopen : QOpen := trivial
            k_steps
            refine hold_out ?_
            k_dflt (refine' read_elem (El := fun e x y => RdAt e y (dueD x a')) (IH _ hpp _ _) B4 XB TB D4 hst' (fun q hq => .tail _ (.tail _ (hS₀ q hq))) F1 N1 off ?es ?ek ?ed ?eu)
            (case es => exact fun nw hnw => Or.inr ⟨_, hnw _ (.tail _ (.head _)), rfl, _, rfl⟩)
            (case ek => exact rfl)
            (case ed => ktr_room)
            (case eu => ktr_units)
          case fin1 =>
            intro ys made st' hfr2 hst3 hE
            unfold LCg.FinE
            intro D8 h8 tk8 F8 N8 o8
            dsimp only
            k_steps
            refine hold_out ?_
            k_dflt (refine' add_lst ?aF ?aN ?al ?ab ?az ?_)
            (case aF => k_asm)
            (case aN => k_asm)
            (case al => exact News.isList (by k_asm) (.tail _ (List.mem_append_right _ (List.mem_append_right _ (.head _)))))
            (case ab => exact News.isList (by k_asm) (by k_mem))
            (case az => have := hE.length; simp only [List.length_cons, List.length_nil]; omega)
            intro D9 h9 F9 N9 l9
            k_steps
            obtain ⟨g5, arr5, T5, F5, hTK5, N5, hst5⟩ := unhid_all (D := D9) B4 F9 hst3 N9 (fun q hq => .tail _ (.tail _ hq)) (.head _) (fun q hq => l9 q (.tail _ (List.mem_append_left _ hq)))
            refine leaveT_read (news := news) (T4.trans T5) F5 N5 (fun q hq => .tail _ (.tail _ hq)) fun h₀' T0 F0 N0 => ?_
            exact hret _ _ _ _ arr5 h₀' (read_list hE) (read_fresh hfr2 (fun q hq => .tail _ (.tail _ hq)) (fun q hq => l9 q (.tail _ hq)) (hst5.imp fun fr e => ⟨_, e⟩)) (hTK5.mono fun q hq => .tail _ hq) T0 F0 N0
      | cons x r =>
        rw [show qL 2 (List.map (fun x => wrA x a') (x :: r)) = quoteL 2 (wrA x a') ++ qL 2 (r.map fun x => wrA x a') from rfl] at e1 hrl
        have F2 := Fr_puts F₁ e1
        dsimp only [putAll] at F2
        clear F₁
        have qopen : QOpen := trivial
        have hrl2 : (ofL (quoteL 2 (wrA x a') ++ qL 2 (r.map fun x => wrA x a'))).length ≤ 200000 := by rw [ofL_length]; exact hrl
        k_steps
        refine hold_out ?_
        k_dflt (refine' fn_use (parse257_q _ _ _ (by omega) (q2_head _)) ?k1 ?k2 ?k3 ?k4 ?k5 ?kK ?kd ?ku ?_)
        (case k1 => k_asm)
        (case k2 => k_asm)
        (case k3 => exact X')
        (case k4 => k_asm)
        (case k5 => exact T')
        (case kK => first | exact rfl | assumption)
        (case kd => ktr_room)
        (case ku => ktr_units)
        rintro v' h' tk' ⟨t', rfl, rl'⟩ F' N'
        (try dsimp only)
        (try k_fold)
        k_steps
        refine hold_out ?_
        have hul : us.length ≤ 200000 := by
          have h1 := congrArg List.length hus
          have h2 := congrArg List.length hps
          have h3 := qL_count_le 2 (ps.map fun x => wrA x a')
          simp only [List.length_map, List.length_append] at h1 h2 h3
          omega
        k_dflt (refine' append_strs ?pF ?pN ?pU ?pz ?_)
        (case pF => k_asm)
        (case pN => k_asm)
        (case pU => k_upd)
        (case pz => omega)
        intro h5 F5 N5
        (try dsimp only at N5)
        (try dsimp only)
        have hcl : (wrA x a').count 34 ≤ (wrA x a').length := List.count_le_length
        have rl2 := rl'
        rw [ofL_length] at rl2
        k_steps
        refine fturn_next (k := r.length + 1) (by rw [hk1]; simp only [List.length_cons]; omega) ⟨done ++ [x], r, us ++ [(ofL (wrA x a'), t')], c1 + 1, _, rfl, by rw [hps, List.append_assoc]; rfl, ?_, ?_, by assumption, ⟨Eq.trans (b := some (.str (Txt.slice _ _ _) _)) rfl (str_eq (slice_quote _ _ _ (by rw [count_mark, ofL_length]))), rfl, trivial⟩, by assumption⟩
        · simp only [List.length_append] at hrl; omega
        · rw [List.map_append, List.map_append, hus]; rfl
end
end Mine
end
section
open PySem PySem.W PyProof.Rows
set_option Elab.async false
set_option maxRecDepth 100000
namespace Mine
section
variable {prog : Program} {w : World} {p : Program} {loose : List Str} {mean : ExcName → Option Value} {mg mb : Str → Option Value} {news : List (Addr × Obj)}

local macro_rules | `(tactic| walk_at "call ref") => `(tactic| refine hold_intro ?_)
local macro_rules | `(tactic| walk_at "call builtin:iter") => `(tactic| refine hold_intro ?_)
local macro_rules | `(tactic| walk_at "exec For") => `(tactic| refine hold_intro ?_)
local macro_rules | `(tactic| walk_at "pyIter ref") => `(tactic| refine hold_intro ?_)
local macro_rules | `(tactic| walk_at "FTurn") => `(tactic| first | refine fturn_brk ?_ | refine fturn_ret ?_)
def OutJ (r : Rd) (it q : Addr) (tq : Tok) (g : Heap) (L' : Addr) (l0 : List Nat) (ln : Int) (n : Nat) (h : Heap) (m : Str → Option Value) : Prop :=
  ∃ (u : List (Str × Tok)) (c : Nat) (ln1 : Int) (tl1 : Tok) (d : List Nat) (td : Tok), Fr g L' h m ∧ AllAt m [(Str.ofString "token", .str (ofL d) td), (Str.ofString "self", .ref r.x2), (Str.ofString "fiter", .ref it)] ∧
   ((n = 2 ∧ d = [] ∧ SgOf l0 u ∧ ln1 = ln ∧ u.length ≤ 300000 ∧ News g L' h ((it, ciObj q tq) :: (q, methodObj (.ref 91) (.ref r.x2)) :: r.led u c ln1 tl1)) ∨
    (n = 1 ∧ d = hearL l0.tail ∧ u = [] ∧ restL l0.tail = [] ∧ ln1 = ln + (l0.count 10 : Nat) ∧ News g L' h ((it, ciEnd) :: (q, methodObj (.ref 91) (.ref r.x2)) :: r.led [] c ln1 tl1)))
def InJ (r : Rd) (it q : Addr) (tq : Tok) (g : Heap) (L' : Addr) (r0 : List Nat) (ln : Int) (n : Nat) (h : Heap) (m : Str → Option Value) : Prop :=
  ∃ (lr : List Nat) (u : List (Str × Tok)) (c : Nat) (ln1 : Int) (tl1 : Tok) (d : List Nat) (td : Tok), n = lr.length ∧ SgOf lr u ∧ u.length ≤ 300000 ∧ d ++ hearL lr = hearL r0 ∧ restL lr = restL r0 ∧ ln1 + (lr.count 10 : Nat) = ln + (r0.count 10 : Nat) ∧ (ofL d).length + lr.length ≤ 300000 ∧
    Fr g L' h m ∧ AllAt m [(Str.ofString "token", .str (ofL d) td), (Str.ofString "self", .ref r.x2), (Str.ofString "fiter", .ref it)] ∧
    News g L' h ((it, ciObj q tq) :: (q, methodObj (.ref 91) (.ref r.x2)) :: r.led u c ln1 tl1)
set_option maxHeartbeats 4000000 in
theorem gettoken (l2 x2 d2 f' lb x1 d1 D : Addr) (fd : FuncData) (kk : Nat → Tok) (rest : List (Addr × Obj)) (hr : Rd.Ok ⟨108, l2, x2, d2, f', lb, x1, d1, D, fd, w.params, kk, rest⟩)
    {rest0 : List (Addr × Obj)} (hsub : ∀ q ∈ rest0, q ∈ rest) (H : LamOk prog w (Mine.hd.heap_39 w.params) p loose mean mg mb ⟨108, l2, x2, d2, f', lb, x1, d1, D, fd, w.params, kk, rest0⟩)
    (l0 : List Nat) (u : List (Str × Tok)) (hS : SgOf l0 u) (hl0 : l0 = [] ∨ ∃ r, l0 = 34 :: r)
    (n : Nat) (ln : Int) (tl : Tok) (A A₀ : Around) (env : Env) (outer : List Env) (base h₀ : Heap) (L : Addr) (m : Str → Option Value) (s : Shared) (R : Result → Shared → Prop)
    (B : Below A₀ base outer h₀) (F : Fr h₀ L s.heap m) (X : ((Mine.hd.heap_39 w.params)).In h₀) (N : News h₀ L s.heap (Rd.led ⟨108, l2, x2, d2, f', lb, x1, d1, D, fd, w.params, kk, rest⟩ u n ln tl)) (T : Top p loose mean mg mb h₀)
    (hA : A.frames = some (env :: outer)) (hf : env.frame = some L) (hke : env.scope.kind = .function) (hd : A.depth + 5 < recursionLimit) (hu : u.length ≤ 300000) (hh : A.handled = none)
    (hret : ∀ tx u' n' ln' tl' h' tk', SgOf (restL l0.tail) u' → ln' + ((restL l0.tail).count 10 : Nat) = ln + (l0.count 10 : Nat) → Fr h₀ L h' m → News h₀ L h' (Rd.led ⟨108, l2, x2, d2, f', lb, x1, d1, D, fd, w.params, kk, rest⟩ u' n' ln' tl') → R (.ok (.ret (.str (ofL (hearL l0.tail)) tx))) ⟨h', s.gens, s.drawn, tk', s.os⟩) :
    codeAny (model prog w) A (.call (.ref 98) ⟨[.ref x2], []⟩) R s := by
  w_on
  have hr0 := hr
  obtain ⟨a1, a2, a3, a4, a5, a6, ht, ht2⟩ := hr
  dsimp only [Rd.led] at N a1 a2 a3 a4 a5 a6 ht ht2
  k_dflt (refine' code_def ?k1 ?k2 ?k3 ?k4 ?k5 ?kA ?kF ?kK ?k6 ?k7 ?k8 ?k9 ?kB ?_ ?c2 ?c3 ?c4 ?c5; (case kA => assumption); (case kF => assumption); (case kK => assumption); (case k1 => k_asm); (case k2 => k_asm); (case k3 => k_asm); (case k4 => k_asm); (case k5 => k_asm); (case k6 => k_is); (case k7 => k_is); (case k8 => ktr_room); (case k9 => first | exact BindsTo.of_eq rfl | exact binds_K (by k_in) rfl (by k_is) rfl rfl rfl); (case c5 => decide); (case kB => exact locs rfl); (case c2 => exact rfl); (case c3 => exact rfl); (case c4 => exact rfl); k_whole; intro g' L' h' FG' F' N' B' X' T'; (try dsimp only); (try k_lift B'); (try k_fold))
  k_steps
  refine hold_out ?_
  refine iter_named ?_
  intro q tq hq htq
  subst hq
  clear htq
  k_dflt (refine' iterK ?F ?N ?q ?_)
  (case F => k_asm)
  (case N => k_asm)
  (case q => k_mem)
  k_whole
  intro it h2 F2 N2 l1
  have hqi : q < it := l1 (q, methodObj (.ref 91) (.ref x2)) (.head _)
  have hit := led_lt (r := ⟨108, l2, x2, d2, f', lb, x1, d1, D, fd, w.params, kk, rest⟩) (u2 := []) (n2 := 0) (ln2 := 0) (tl2 := 0) l1
  have qD : @LT.lt Nat _ D q := by omega
  have qd2 : @LT.lt Nat _ d2 q := by omega
  k_lt l1
  (try dsimp only)
  k_steps
  refine hold_out ?_
  rename Fr _ _ _ _ => F5
  rename News _ _ _ _ => N5
  refine for_inv (.ref it) (OutJ ⟨108, l2, x2, d2, f', lb, x1, d1, D, fd, w.params, kk, rest⟩ it q tq g' L' l0 ln) 2 ?start ?turn
  case start =>
    k_steps
    refine hold_out ?_
    refine pyIter_ci (N5 _ (.head _)).1 ?_
    exact ⟨rfl, _, _, _, rfl, by assumption, u, _, ln, _, [], _, by assumption, ⟨Eq.trans (b := some (.str _ _)) rfl (str_eq (by decide +kernel)), rfl, rfl, trivial⟩, .inl ⟨rfl, rfl, hS, rfl, hu, N5⟩⟩
  case turn =>
    clear F5 N5
    rintro n m h tk htk ⟨u1, c1, ln1, tl1, d, td, F3, e1, ⟨rfl, rfl, hS1, rfl, hu1, N3⟩ | ⟨rfl, rfl, rfl, hrest, hln, N3⟩⟩
    · have F6 := Fr_puts F3 e1
      dsimp only [putAll] at F6
      refine next_read hr0 hsub H hit qD qd2 hqi hS1 (A := A.deeper _) B' F6 X' N3 T' (Around.frames_deeper hA) rfl rfl (by ktr_room) (by omega) hh ?item ?stop
      case stop =>
        rintro n' tl' h3 tk' rfl F4 N4
        clear F3 F6 N3
        dsimp only
        k_steps
        exact hret _ [] _ ln1 _ _ _ rfl (by simp [restL]) (by assumption) (news_drop (news_drop (by assumption)))
      case item =>
        rintro ch lr' tx u' n' tl' h3 tk' hlr hS' hu' F4 N4
        rcases hl0 with rfl | ⟨r0, rfl⟩
        · cases hlr
        · cases hlr
          clear F3 F6 N3
          dsimp only
          rw [show ofL [34] = Str.ofString "\"" by decide +kernel]
          rw [if_neg (by decide)] at N4
          dsimp only [Rd.led] at N4
          k_steps
          all_goals try (exfalso; rename List.isEmpty _ = false => hw; exact absurd hw (by decide +kernel))
          refine hold_out ?_
          rename Fr _ _ _ _ => F7
          rename News _ _ _ _ => N7
          refine for_inv (.ref it) (InJ ⟨108, l2, x2, d2, f', lb, x1, d1, D, fd, w.params, kk, rest⟩ it q tq g' L' lr' ln1) lr'.length ?start ?turn
          case start =>
            k_steps
            refine hold_out ?_
            refine pyIter_ci (N7 _ (.head _)).1 ?_
            refine ⟨rfl, _, _, _, rfl, by assumption, lr', u', _, ln1, _, [], _, rfl, hS', by omega, rfl, rfl, rfl, ?_, by assumption, ⟨rfl, rfl, rfl, trivial⟩, N7⟩
            have := hS'.length
            show 0 + lr'.length ≤ 300000
            omega
          case turn =>
            clear F7 N7 e1
            rintro n m h tk htk ⟨lr, u2, c2, ln2, tl2, d, td2, hn, hS2, hu2, hde, hre, hce, hdl, F3, e1, N3⟩
            have F6 := Fr_puts F3 e1
            dsimp only [putAll] at F6
            refine next_read hr0 hsub H hit qD qd2 hqi hS2 (A := A.deeper _) B' F6 X' N3 T' (Around.frames_deeper hA) rfl rfl (by ktr_room) (by omega) hh ?item ?stop
            case stop =>
              rintro n' tl' h3 tk' rfl F4 N4
              clear F3 F6 N3
              dsimp only
              k_steps
              refine fturn_next (k := 1) (by omega) ⟨[], n', ln2, tl', d, td2, by assumption, ⟨rfl, rfl, rfl, trivial⟩, .inr ⟨rfl, ?_, rfl, ?_, ?_, N4⟩⟩
              · rw [hear_nil, List.append_nil] at hde; exact hde
              · exact hre.symm
              · have e3 := count_cons 34 lr'
                rw [if_neg (by decide)] at e3
                simp only [List.count_nil] at hce
                omega
            case item =>
              rintro ch lr3 tx3 u3 n3 tl3 h3 tk3 rfl hS3 hu3 F4 N4
              have e3 := count_cons ch lr3
              have hd1 := one_len ch
              have e6 : (if ch = 10 then ln2 + 1 else ln2) = ln2 + if ch = 10 then 1 else 0 := by
                by_cases h : ch = 10 <;> simp [h]
              rw [e6] at N4
              clear F3 F6 N3 e6
              dsimp only [Rd.led] at N4
              dsimp only
              k_steps
              · rename (_ == Str.ofString "\"") = true => hm
                rw [is_mark, beq_iff_eq] at hm
                subst hm
                rw [hear_mark, List.append_nil] at hde
                rw [rest_mark] at hre
                have e4 := count_cons 34 lr'
                subst hde
                rename News h₀ _ _ _ => N11
                refine hret _ u3 n3 _ tl3 _ _ ?_ ?_ (by assumption) (news_drop (news_drop N11))
                · rw [List.tail_cons, ← hre]; exact hS3
                · rw [List.tail_cons, ← hre]; omega
              · rename (_ == Str.ofString "\\") = true => hm
                rw [is_back, beq_iff_eq] at hm
                subst hm
                rename Fr _ _ _ _ => F8
                rename News _ _ _ _ => N8
                refine hold_out ?_
                refine wpAny_call (show codeAny _ _ (.call (.ref 91) ⟨[.ref x2], []⟩) _ _ from ?_)
                refine readchar l2 x2 d2 f' lb x1 d1 D fd kk _ (Rd.Ok.ext hr0 (it := it) (q := q) (by dsimp only; omega) (by dsimp only; omega) qD qd2) (fun z hz => .tail _ (.tail _ (hsub z hz))) H u3 n3 _ tl3 (A.deeper _) _ _ _ _ _ _ _ _ _ B' F8 X' (led_in (r := ⟨108, l2, x2, d2, f', lb, x1, d1, D, fd, w.params, kk, rest⟩) N8) T' (Around.frames_deeper hA) rfl rfl (by ktr_room) (by omega) ?_
                intro x4 tx4 tl4 h4 tk4 hp F9 N9
                have N10 := led_out (r := ⟨108, l2, x2, d2, f', lb, x1, d1, D, fd, w.params, kk, rest⟩) N9
                clear F8 N8 N9
                have e9 := hear_last
                have e10 := hS3.length
                cases lr3 with
                | nil =>
                  have hu := hS3.nil_inv
                  subst hu
                  have hp' : x4 = Str.ofString "" := hp
                  subst hp'
                  rw [if_neg (show ¬ ((Str.ofString "" == Str.ofString "\n") = true) by rw [empty_feed]; decide)] at N10
                  dsimp only [Rd.led] at N10
                  have hd2 : (Str.ofString "").length = 0 := by decide +kernel
                  dsimp only
                  k_steps
                  rename News _ _ _ _ => N11
                  rw [hear_last] at hde
                  refine fturn_next (k := 0) (by rw [hn]; simp) ⟨[], [], _, _, tl4, d, _, rfl, rfl, by simp, hde, hre, ?_, ?_, by assumption, ⟨Eq.trans (b := some (.str (ofL d ++ Str.ofString "") _)) rfl (str_eq (cat_empty d)), rfl, rfl, trivial⟩, N11⟩
                  · simp only [List.count_nil] at e3 hce ⊢; omega
                  · simp only [List.length_cons, List.length_nil] at hdl ⊢; omega
                | cons c lr4 =>
                  obtain ⟨t5, u5, rfl, hS5⟩ := hS3.cons_inv
                  have hp' : x4 = ofL [c] := hp
                  subst hp'
                  have e5 := count_cons c lr4
                  rw [is_feed] at N10
                  have e6 : ∀ z : Int, (if (c == 10) = true then z + 1 else z) = z + if c = 10 then 1 else 0 := by
                    intro z
                    by_cases h : c = 10 <;> simp [h]
                  rw [e6] at N10
                  dsimp only [Rd.led, popU] at N10
                  have hd2 := one_len c
                  simp only [List.length_cons] at hdl hu3 hn
                  dsimp only
                  k_steps
                  rename News _ _ _ _ => N11
                  rw [hear_back] at hde
                  rw [rest_back] at hre
                  refine fturn_next (k := lr4.length) (by omega) ⟨lr4, u5, _, _, tl4, d ++ [c], _, rfl, hS5, by omega, ?_, hre, ?_, ?_, by assumption, ⟨Eq.trans (b := some (.str (ofL d ++ ofL [c]) _)) rfl (str_eq (ofL_append _ _)), rfl, rfl, trivial⟩, N11⟩
                  · rw [← hde, List.append_assoc]; rfl
                  · omega
                  · rw [ofL_length] at hdl ⊢; rw [List.length_append]; simp only [List.length_cons, List.length_nil]; omega
              · rename (_ == Str.ofString "\"") = false => hm1
                rename (_ == Str.ofString "\\") = false => hm2
                rw [is_mark] at hm1
                rw [is_back] at hm2
                have hm1' : ch ≠ 34 := by simpa using hm1
                have hm2' : ch ≠ 92 := by simpa using hm2
                rename News _ _ _ _ => N11
                rw [hear_other hm1' hm2'] at hde
                rw [rest_other hm1' hm2'] at hre
                simp only [List.length_cons] at hdl hn
                refine fturn_next (k := lr3.length) (by omega) ⟨lr3, u3, _, _, tl3, d ++ [ch], _, rfl, hS3, by omega, ?_, hre, ?_, ?_, by assumption, ⟨Eq.trans (b := some (.str (ofL d ++ ofL [ch]) _)) rfl (str_eq (ofL_append _ _)), rfl, rfl, trivial⟩, N11⟩
                · rw [← hde, List.append_assoc]; rfl
                · omega
                · rw [ofL_length] at hdl ⊢; rw [List.length_append]; simp only [List.length_cons, List.length_nil]; omega
    · refine next_ci_end hh (N3 _ (.head _)).1 fun h3 hx hi3 => ?_
      obtain ⟨F4, N4⟩ := extBut_fr F3 N3 hx hi3 (led_ne hit hqi)
      have F6 := Fr_puts F4 e1
      dsimp only [putAll] at F6
      clear F3 F4 N3
      dsimp only
      k_steps
      exact hret td [] _ _ _ _ _ (by rw [hrest]; rfl) (by rw [hrest]; simp; omega) (by assumption) (news_drop (news_drop (by assumption)))
end
end Mine
end
section
open PySem PySem.W PyProof.Rows
set_option Elab.async false
set_option maxRecDepth 100000
namespace Mine
section
local macro_rules | `(tactic| walk_at "call type:list") => `(tactic| refine hold_intro ?_)
local macro_rules | `(tactic| walk_at "subscriptTail Name Slice ref ref") => `(tactic| refine hold_intro ?_)
local macro_rules | `(tactic| walk_at "call ref") => `(tactic| refine hold_intro ?_)
local macro_rules | `(tactic| walk_at "eval Lambda") => `(tactic| refine hold_intro ?_)
local macro_rules | `(tactic| walk_at "CompSrc") => `(tactic| refine hold_intro ?_)
local macro_rules | `(tactic| walk_at "CompEnd") => `(tactic| refine hold_intro ?_)
local macro_rules | `(tactic| walk_at "eval ListComp") => `(tactic| refine hold_intro ?_)
local macro_rules | `(tactic| walk_at "binaryOp Add ref ref") => `(tactic| refine hold_intro ?_)
local macro_rules | `(tactic| walk_at "exec Return some") => `(tactic| k_extra "mine13")
local macro_rules | `(tactic| walk_at "call builtin:list.append") => `(tactic| refine hold_intro ?_)
local macro_rules | `(tactic| walk_at "compareOp NotEq ref ref") => `(tactic| refine hold_intro ?_)
local macro_rules | `(tactic| walk_at "exec While Constant cons nil") => `(tactic| refine hold_intro ?_)
local macro_rules | `(tactic| walk_at "exec While Compare cons nil") => `(tactic| refine hold_intro ?_)
variable {prog : Program} {w : World} {p : Program} {loose : List Str} {mean : ExcName → Option Value} {mg mb : Str → Option Value} {news : List (Addr × Obj)}

local macro_rules | `(tactic| walk_at "truthy ref") => `(tactic| k_extra "mine14")
local macro_rules | `(tactic| walk_at "eval Name") => `(tactic| k_extra "mine15")
theorem codeHd_K {w : World} {h : Heap} (X : ((Mine.hd.heap_39 w.params)).In h) : CodeHd h 145 143 := ⟨_, _, _, _, _, _, _, _, _, X 145 _ (by rfl), rfl, rfl, rfl, rfl, rfl, rfl, rfl, rfl, by decide⟩
def FileJ (g' : Heap) (L' l2 x2 d2 f' lb x1 d1 D PA : Addr) (fd : FuncData) (P : Params) (kk : Nat → Tok) (rest1 : List (Addr × Obj)) (ps : List Tr) (a' : Nat) (n : Nat) (h : Heap) (m : Str → Option Value) : Prop :=
  ∃ (done rem : List Tr) (us : List (Str × Tok)) (c : Nat) (u : List (Str × Tok)) (nn : Nat) (ln : Int) (tl : Tok), n = rem.length ∧ ps = done ++ rem ∧ us.map (fun x => x.1) = done.map (fun x => ofL (wrA x a')) ∧ SgOf (qL 1 (rem.map fun x => wrA x a')) u ∧
    ln + (((qL 1 (rem.map fun x => wrA x a')).count 10 : Nat) : Int) = 1 + (((qL 1 (ps.map fun x => wrA x a')).count 10 : Nat) : Int) ∧ Fr g' L' h m ∧
    AllAt m [(Str.ofString "lexer", .ref x2), (Str.ofString "parts", .ref PA)] ∧ News g' L' h ((PA, listOf (strValues us).toArray c) :: Rd.led ⟨108, l2, x2, d2, f', lb, x1, d1, D, fd, P, kk, rest1⟩ u nn ln tl)
theorem file_while {prog : Program} {w : World} {p : Program} {loose : List Str} {mean : ExcName → Option Value} {mg mb : Str → Option Value} {l2 x2 d2 f' lb x1 d1 D c' D0 PA cc tb : Addr} {fd : FuncData} {oc oD0 o0 otb : Obj} {news : List (Addr × Obj)} {t0 t1 t2 t3 t4 t5 t6 t7 t8 t9 t10 t11 tl : Tok}
    {u : List (Str × Tok)} {n : Nat} {A : Around} {env : Env} {g : Heap} {L : Addr} {m : Str → Option Value} {s : Shared} {Q : Flow → Shared → Prop} {E : Value → Shared → Prop} {test : Expr} {body : List Stmt} {pos : Pos} {ps : List Tr} {a' : Nat}
    (N : News g L s.heap ((l2, listOf #[] 0) :: (x2, instObj 108 d2) :: (d2, dictOf [⟨PyData.keyHash w.params (Str.ofString "lineno"), .str (Str.ofString "lineno") t0, .int 1 tl⟩, ⟨PyData.keyHash w.params (Str.ofString "instream"), .str (Str.ofString "instream") t1, .ref x1⟩,
    ⟨PyData.keyHash w.params (Str.ofString "whitespace"), .str (Str.ofString "whitespace") t2, .str wsT t3⟩, ⟨PyData.keyHash w.params (Str.ofString "pushback"), .str (Str.ofString "pushback") t4, .ref l2⟩] 4) ::
      (f', (⟨.type "function", none, .func fd, #[]⟩ : Obj)) :: (c', oc) :: (lb, listOf #[] 0) :: (x1, instObj 108 d1) ::
      (d1, dictOf [⟨PyData.keyHash w.params (Str.ofString "lineno"), .str (Str.ofString "lineno") t5, .int 1 t6⟩, ⟨PyData.keyHash w.params (Str.ofString "instream"), .str (Str.ofString "instream") t7, .none⟩,
    ⟨PyData.keyHash w.params (Str.ofString "whitespace"), .str (Str.ofString "whitespace") t8, .str wsT t9⟩, ⟨PyData.keyHash w.params (Str.ofString "pushback"), .str (Str.ofString "pushback") t10, .ref lb⟩, ⟨PyData.keyHash w.params (Str.ofString "read"), .str (Str.ofString "read") t11, .ref f'⟩] 5) ::
      (D, sgObj u n) :: (D0, oD0) :: (PA, listOf #[] 0) :: (cc, o0) :: (tb, otb) :: news))
    (hr : ∀ op, Rd.Ok ⟨108, l2, x2, d2, f', lb, x1, d1, D, fd, w.params, toks12 t0 t1 t2 t3 t4 t5 t6 t7 t8 t9 t10 t11, (PA, op) :: (c', oc) :: (cc, o0) :: (tb, otb) :: news⟩)
    (H : (∀ op, Rd.Ok ⟨108, l2, x2, d2, f', lb, x1, d1, D, fd, w.params, toks12 t0 t1 t2 t3 t4 t5 t6 t7 t8 t9 t10 t11, (PA, op) :: (c', oc) :: (cc, o0) :: (tb, otb) :: news⟩) → LamOk prog w (Mine.hd.heap_39 w.params) p loose mean mg mb ⟨108, l2, x2, d2, f', lb, x1, d1, D, fd, w.params, toks12 t0 t1 t2 t3 t4 t5 t6 t7 t8 t9 t10 t11, (c', oc) :: (cc, o0) :: (tb, otb) :: news⟩)
    (hS : SgOf (ofL (qL 1 (ps.map fun x => wrA x a'))).cps.toList u) (hs : 0 < s.toks) (F : Fr g L s.heap m) (ha : AllAt m [(Str.ofString "lexer", .ref x2), (Str.ofString "parts", .ref PA)])
    (turn : (∀ op, Rd.Ok ⟨108, l2, x2, d2, f', lb, x1, d1, D, fd, w.params, toks12 t0 t1 t2 t3 t4 t5 t6 t7 t8 t9 t10 t11, (PA, op) :: (c', oc) :: (cc, o0) :: (tb, otb) :: news⟩) →
      LamOk prog w (Mine.hd.heap_39 w.params) p loose mean mg mb ⟨108, l2, x2, d2, f', lb, x1, d1, D, fd, w.params, toks12 t0 t1 t2 t3 t4 t5 t6 t7 t8 t9 t10 t11, (c', oc) :: (cc, o0) :: (tb, otb) :: news⟩ →
      ∀ n m h tk, 0 < tk → FileJ g L l2 x2 d2 f' lb x1 d1 D PA fd w.params (toks12 t0 t1 t2 t3 t4 t5 t6 t7 t8 t9 t10 t11) ((c', oc) :: (cc, o0) :: (tb, otb) :: news) ps a' n h m →
        wpAny (model prog w) A (isTrue test env (eval test env)) (fun b s₂ => if b then wpAny (model prog w) A (execs body env) (FTurn (FileJ g L l2 x2 d2 f' lb x1 d1 D PA fd w.params (toks12 t0 t1 t2 t3 t4 t5 t6 t7 t8 t9 t10 t11) ((c', oc) :: (cc, o0) :: (tb, otb) :: news) ps a') n s Q) E s₂ else Q .next s₂) E ⟨h, s.gens, s.drawn, tk, s.os⟩)
    (hE : PassesOwn (model prog w) A env E) : wpAny (model prog w) A (exec (.While test body [] pos) env) Q E s := by
  refine while_invH (FileJ g L l2 x2 d2 f' lb x1 d1 D PA fd w.params (toks12 t0 t1 t2 t3 t4 t5 t6 t7 t8 t9 t10 t11) ((c', oc) :: (cc, o0) :: (tb, otb) :: news) ps a') ps.length hs ⟨m, [], ps, [], 0, u, n, 1, tl, rfl, rfl, rfl, by rw [← ofL_list (qL 1 _)]; exact hS, rfl, F, ha, fun q hq => N q ?_⟩ (turn hr (H hr)) hE
  dsimp only [Rd.led, toks12] at hq
  simp only [List.mem_cons] at hq ⊢
  rcases hq with hq | hq | hq | hq | hq | hq | hq | hq | hq | hq | hq | hq
  · exact .inr (.inr (.inr (.inr (.inr (.inr (.inr (.inr (.inr (.inr (.inl hq))))))))))
  · exact .inr (.inl hq)
  · exact .inr (.inr (.inl hq))
  · exact .inl hq
  · exact .inr (.inr (.inr (.inr (.inr (.inr (.inl hq))))))
  · exact .inr (.inr (.inr (.inr (.inr (.inr (.inr (.inl hq)))))))
  · exact .inr (.inr (.inr (.inl hq)))
  · exact .inr (.inr (.inr (.inr (.inr (.inr (.inr (.inr (.inl hq))))))))
  · exact .inr (.inr (.inr (.inr (.inl hq))))
  · exact .inr (.inr (.inr (.inr (.inr (.inr (.inr (.inr (.inr (.inr (.inr (.inl hq)))))))))))
  · exact .inr (.inr (.inr (.inr (.inr (.inr (.inr (.inr (.inr (.inr (.inr (.inr (.inl hq))))))))))))
  · exact .inr (.inr (.inr (.inr (.inr (.inr (.inr (.inr (.inr (.inr (.inr (.inr (.inr hq))))))))))))
theorem call_tok {prog : Program} {w : World} {p : Program} {loose : List Str} {mean : ExcName → Option Value} {mg mb : Str → Option Value} {l2 x2 d2 f' lb x1 d1 D PA : Addr} {fd : FuncData} {op : Obj} {rest1 : List (Addr × Obj)} {kk : Nat → Tok}
    {l0 : List Nat} {u : List (Str × Tok)} {n : Nat} {ln : Int} {tl : Tok} {A A₀ : Around} {env : Env} {outer : List Env} {base h₀ : Heap} {L : Addr} {m : Str → Option Value} {s : Shared} {Q E : Value → Shared → Prop}
    (N : News h₀ L s.heap ((PA, op) :: Rd.led ⟨108, l2, x2, d2, f', lb, x1, d1, D, fd, w.params, kk, rest1⟩ u n ln tl))
    (hr : ∀ op, Rd.Ok ⟨108, l2, x2, d2, f', lb, x1, d1, D, fd, w.params, kk, (PA, op) :: rest1⟩)
    (H : LamOk prog w (Mine.hd.heap_39 w.params) p loose mean mg mb ⟨108, l2, x2, d2, f', lb, x1, d1, D, fd, w.params, kk, rest1⟩)
    (hS : SgOf l0 u) (hl0 : l0 = [] ∨ ∃ r, l0 = 34 :: r)
    (B : Below A₀ base outer h₀) (F : Fr h₀ L s.heap m) (X : ((Mine.hd.heap_39 w.params)).In h₀) (T : Top p loose mean mg mb h₀)
    (hA : A.frames = some (env :: outer)) (hf : env.frame = some L) (hke : env.scope.kind = .function) (hd : A.depth + 5 < recursionLimit) (hu : u.length ≤ 300000) (hh : A.handled = none)
    (hret : ∀ tx u' n' ln' tl' h' tk', SgOf (restL l0.tail) u' → ln' + ((restL l0.tail).count 10 : Nat) = ln + (l0.count 10 : Nat) → Fr h₀ L h' m → News h₀ L h' ((PA, op) :: Rd.led ⟨108, l2, x2, d2, f', lb, x1, d1, D, fd, w.params, kk, rest1⟩ u' n' ln' tl') → Q (.str (ofL (hearL l0.tail)) tx) ⟨h', s.gens, s.drawn, tk', s.os⟩) :
    wpAny (model prog w) A (call (.ref 98) [.ref x2]) Q E s := by
  refine wpAny_call ?_
  refine gettoken l2 x2 d2 f' lb x1 d1 D fd kk _ (hr op) (rest0 := rest1) (fun z hz => .tail _ hz) H l0 u hS hl0 n ln tl A A₀ env outer base h₀ L m s _ B F X (fun p hp => N p ?_) T hA hf hke hd hu hh ?_
  · dsimp only [Rd.led] at hp ⊢
    simp only [List.mem_cons] at hp ⊢
    rcases hp with hp | hp | hp | hp | hp | hp | hp | hp | hp
    · exact .inr (.inl hp)
    · exact .inr (.inr (.inl hp))
    · exact .inr (.inr (.inr (.inl hp)))
    · exact .inr (.inr (.inr (.inr (.inl hp))))
    · exact .inr (.inr (.inr (.inr (.inr (.inl hp)))))
    · exact .inr (.inr (.inr (.inr (.inr (.inr (.inl hp))))))
    · exact .inr (.inr (.inr (.inr (.inr (.inr (.inr (.inl hp)))))))
    · exact .inl hp
    · exact .inr (.inr (.inr (.inr (.inr (.inr (.inr (.inr hp)))))))
  · intro tx u' n' ln' tl' h' tk' h1 h2 F' N'
    refine hret tx u' n' ln' tl' h' tk' h1 h2 F' fun q hq => N' q ?_
    dsimp only [Rd.led] at hq ⊢
    simp only [List.mem_cons] at hq ⊢
    rcases hq with hq | hq | hq | hq | hq | hq | hq | hq | hq
    · exact .inr (.inr (.inr (.inr (.inr (.inr (.inr (.inl hq)))))))
    · exact .inl hq
    · exact .inr (.inl hq)
    · exact .inr (.inr (.inl hq))
    · exact .inr (.inr (.inr (.inl hq)))
    · exact .inr (.inr (.inr (.inr (.inl hq))))
    · exact .inr (.inr (.inr (.inr (.inr (.inl hq)))))
    · exact .inr (.inr (.inr (.inr (.inr (.inr (.inl hq))))))
    · exact .inr (.inr (.inr (.inr (.inr (.inr (.inr (.inr hq)))))))
set_option maxHeartbeats 4000000 in
theorem read_file (n a' : Nat) (ps : List Tr) (t3 : Tok) (hl : (qL 1 (ps.map fun x => wrA x a')).length ≤ 200000) (hps : ps ≠ []) (hsg : ∀ c ∈ qL 1 (ps.map fun x => wrA x a'), SgnOk c)
    (IH : ∀ x ∈ ps, ∀ (news' : List (Addr × Obj)) (t : Tok), FnRd 143 TKr prog w (Mine.hd.heap_39 w.params) p loose mean mg mb 146 (n + 11) news' [.str (ofL (wrA x a')) t] (fun ext v => RdAt ext v (dueD x a'))) :
    FnRd 143 TKr prog w (Mine.hd.heap_39 w.params) p loose mean mg mb 146 (n + 12) news [.str (ofL (qL 1 (ps.map fun x => wrA x a'))) t3] (fun ext v => RdAt ext v (.list (.int (1 + ((dueF ps a' : Nat) : Int)) :: ps.map fun x => dueD x a'))) := by
  w_on
  intro arr S₀ dp un gd cn cs a ccd cl outer A₀ base h₀ L m s Q E B F XB TB DD N hTK hS₀ hne hk hd hu hret
  refine wpAny_call ?_
  k_dflt (refine' code_defT ?k1 ?k2 ?k3 ?k5 ?kDD ?k4 ?kA ?kF ?kK ?k6 ?k7 ?k8 ?k9 ?kB ?kD ?_ ?c2 ?c3 ?c4; (case kA => exact rfl); (case kF => exact rfl); (case kK => assumption); (case k1 => exact B); (case k2 => exact F); (case k3 => exact XB); (case k4 => exact N); (case k5 => exact TB); (case kDD => exact DD); (case k6 => k_is); (case k7 => k_is); (case k8 => ktr_room); (case k9 => exact BindsTo.of_eq rfl); (case kB => exact rfl); (case kD => decide +kernel); (case c2 => exact rfl); (case c3 => exact rfl); (case c4 => exact rfl); k_whole; intro g' L' h' tk' cells' FG' F' N' Y' B' X' T' D' l1; (have hNL := drop_lt l1); (try k_lt l1); k_cells Y'; (try simp only [List.cons_append, List.nil_append] at N'); (try dsimp only); (try k_lift B'); (try k_fold))
  have hlen := qf_len hl
  have hws : (ps.map fun x => wrA x a') ≠ [] := fun e => hps (List.map_eq_nil_iff.mp e)
  k_steps
  · exfalso
    rename (_ == Str.ofString "=") = true => hq
    rw [qf_first hws _ 61 (by decide +kernel)] at hq
    exact absurd hq (by decide)
  · refine hold_out ?_
    (with_reducible show wpAny _ _ (call (Value.type _) [Value.str _ _]) _ _ _)
    k_dflt (refine' listStr ?H ?F ?N ?z ?_; (case H => exact rfl); (case F => k_asm); (case N => k_asm); (case z => omega); k_whole); intro Dz uz cz hz tkz Fz Nz lz1 hSz; (try k_lt lz1); (try dsimp only)
    k_steps
    refine hold_out ?_
    (with_reducible show wpAny _ _ (subscriptTail _ (PySem.Expr.Slice none none (some _) _) (Value.ref _) (Value.ref _)) _ _ _)
    k_dflt (refine' krv_lit ?F ?N ?l ?k ?e ?_ ?s ?t ?z; (case F => k_asm); (case N => k_asm); (case l => exact News.isList (by k_asm) (by k_mem)); (case k => exact IsPart.int _ _); (case e => exact rfl); (case s => with_unfolding_all rfl); (case t => intro _; with_unfolding_all rfl); (case z => exact rev_room (by assumption) (by rw [ofL_list]; omega)); k_whole); intro Dz hz Fz Nz lz1; (try k_lt lz1); (try k_sweep)
    k_steps
    refine hold_out ?_
    k_dflt (refine' call_cls ?k1 ?k2 ?k3 ?k4 ?k5 ?k6 ?_; (case k1 => k_asm); (case k2 => k_asm); (case k3 => k_asm); (case k4 => k_is); (case k5 => k_is); (case k6 => k_is); k_whole; intro xz dz hz Fz Nz lz1 lz2; (try k_lt lz1); (try k_lt2 lz2); (try k_sweep); (refine' code_def ?k1 ?k2 ?k3 ?k4 ?k5 ?kA ?kF ?kK ?k6 ?k7 ?k8 ?k9 ?kB ?_ ?c2 ?c3 ?c4 ?c5; (case kA => exact rfl); (case kF => exact rfl); (case kK => first | exact rfl | assumption); (case k1 => k_asm); (case k2 => k_asm); (case k3 => k_asm); (case k4 => k_asm); (case k5 => k_asm); (case k6 => k_is); (case k7 => k_is); (case k8 => ktr_room); (case k9 => first | exact BindsTo.of_eq rfl | exact binds_K (by k_in) rfl (by k_is) rfl rfl rfl); (case c5 => decide); (case kB => exact locs rfl); (case c2 => exact rfl); (case c3 => exact rfl); (case c4 => exact rfl); k_whole; intro gz Lz hz FGz Fz Nz Bz Xz Tz; (try dsimp only); (try k_lift Bz); (try k_fold)))
    k_steps
    refine hold_out ?_
    have C := codeHd_K X'
    k_dflt (refine' kla_eval ?d0 ?_; (case d0 => exact rfl))
    k_dflt (refine' kla_any (S := S₀) ?F ?N ?T ?C ?cd ?U ?hT ?hS ?cl ?_)
    (case F => k_asm)
    (case N => k_asm)
    (case T => k_asm)
    (case cd => exact rfl)
    (case C => exact codeHd_K X')
    (case U => k_updF)
    (case hT => exact hTK)
    (case hS => exact fun q hq => by repeat (first | exact hS₀ q hq | refine List.Mem.tail _ ?_))
    (case cl => exact rfl)
    k_whole
    intro f' c' oc' ct' h' tk' cx hlam F' N' l1 l2 hcx hcm hcq; (try dsimp only at N'); (try k_lt l1); (try k_lt2 l2)
    have hc4 := ne_lam N' hlam (.tail _ (.head _)) (.tail _ (.tail _ (.tail _ (.tail _ (.head _))))) (fun _ q => nomatch q)
    have hc5 := ne_lam N' hlam (.tail _ (.head _)) (.tail _ (.tail _ (.tail _ (.tail _ (.tail _ (.head _)))))) (fun _ q => nomatch q)
    have hc7 := ne_lam N' hlam (.tail _ (.head _)) (.tail _ (.tail _ (.tail _ (.tail _ (.tail _ (.tail _ (.tail _ (.head _)))))))) (fun _ q => nomatch q)
    obtain ⟨vs9, t9, d19, d29⟩ := hlam
    k_steps
    refine hold_out ?_
    k_dflt (refine' call_cls ?k1 ?k2 ?k3 ?k4 ?k5 ?k6 ?_; (case k1 => k_asm); (case k2 => k_asm); (case k3 => k_asm); (case k4 => k_is); (case k5 => k_is); (case k6 => k_is); k_whole; intro xz dz hz Fz Nz lz1 lz2; (try k_lt lz1); (try k_lt2 lz2); (try k_sweep); (refine' code_def ?k1 ?k2 ?k3 ?k4 ?k5 ?kA ?kF ?kK ?k6 ?k7 ?k8 ?k9 ?kB ?_ ?c2 ?c3 ?c4 ?c5; (case kA => exact rfl); (case kF => exact rfl); (case kK => first | exact rfl | assumption); (case k1 => k_asm); (case k2 => k_asm); (case k3 => k_asm); (case k4 => k_asm); (case k5 => k_asm); (case k6 => k_is); (case k7 => k_is); (case k8 => ktr_room); (case k9 => first | exact BindsTo.of_eq rfl | exact binds_K (by k_in) rfl (by k_is) rfl rfl rfl); (case c5 => decide); (case kB => exact locs rfl); (case c2 => exact rfl); (case c3 => exact rfl); (case c4 => exact rfl); k_whole; intro gz Lz hz FGz Fz Nz Bz Xz Tz; (try dsimp only); (try k_lift Bz); (try k_fold)))
    k_steps
    refine hold_out ?_
    with_reducible rename News _ _ _ _ => Na
    with_reducible rename Fr _ _ _ _ => Fa
    k_dflt (refine' file_while (p := p) (loose := loose) (mean := mean) (mg := mg) (mb := mb) (ps := ps) (a' := a') ?N ?hr ?H ?hS ?hs ?F ?ha ?turn ?hE)
    (case N => exact Na)
    (case hS => assumption)
    (case hs => assumption)
    (case F => exact Fa)
    (case ha => exact ⟨rfl, rfl, trivial⟩)
    (case hE => first | passes_own | with_unfolding_all passes_own)
    (case hr => exact fun op => ⟨(by refine ltN ?_; (try dsimp only); omega), (by refine ltN ?_; (try dsimp only); omega), (by refine ltN ?_; (try dsimp only); omega), (by refine ltN ?_; (try dsimp only); omega), (by refine ltN ?_; (try dsimp only); omega), (by refine ltN ?_; (try dsimp only); omega), (by dsimp only; refine List.forall_mem_cons.mpr ⟨by k_ne, ?_⟩; refine List.forall_mem_cons.mpr ⟨by k_ne, ?_⟩; refine List.forall_mem_cons.mpr ⟨by k_ne, ?_⟩; refine List.forall_mem_cons.mpr ⟨by k_ne, ?_⟩; exact tail_ne hNL (by refine leN ?_; omega)), (by dsimp only; refine List.forall_mem_cons.mpr ⟨by k_ne, ?_⟩; refine List.forall_mem_cons.mpr ⟨by k_ne, ?_⟩; refine List.forall_mem_cons.mpr ⟨by k_ne, ?_⟩; refine List.forall_mem_cons.mpr ⟨by k_ne, ?_⟩; exact tail_ne hNL (by refine leN ?_; omega))⟩)
    case H =>
      clear hc4 hc5 hc7 hcx hcm hcq Na Fa hret IH hps hsg hl hws hlen hTK hS₀ hne
      have lopen : LamOpen := trivial
      intro hrd
      obtain ⟨a1, a2, a3, a4, a5, a6, _, _⟩ := hrd (listOf #[] 0)
      dsimp only at a1 a2 a3 a4 a5 a6
      clear hrd
      (repeat (with_reducible rename _ ∧ _ => z; clear z))
      (repeat (with_reducible rename News _ _ _ _ => z; clear z))
      (repeat (with_reducible rename Fr _ _ _ _ => z; clear z))
      (repeat (with_reducible rename Below _ _ _ _ => z; clear z))
      (repeat (with_reducible rename Top _ _ _ _ _ _ => z; clear z))
      (repeat (with_reducible rename Frag.In _ _ => z; clear z))
      (repeat (with_reducible rename 0 < _ => z; clear z))
      intro news' u n ln tl A A₁ env outer' base' h₁ L₁ m₁ s₁ t R hsub hD hd2 B1 F1 X1 N1 T1 hA hf hke hd hu hret1
      dsimp only at hD hd2
      have hm1 := hsub (L' + 1, _) (by k_mem)
      have hm2 := hsub (c', oc') (by k_mem)
      have hcD := hD _ hm2
      have hcD1 := hD _ hm1
      dsimp only at hcD hcD1
      have N2 := news_cons N1 (q := (L' + 1, _)) (by (repeat' first | exact hm1 | refine List.Mem.tail _ ?_))
      have N3 := news_cons N2 (q := (c', oc')) (by (repeat' first | exact hm2 | refine List.Mem.tail _ ?_))
      clear N1 N2
      dsimp only [Rd.led, Rd.with, sgObj] at N3
      cases u with
      | nil =>
        rw [show (strValues ([] : List (Str × Tok))).reverse.toArray = #[] from rfl] at N3
        k_dflt (refine' kla_code ?k1 ?k2 ?k3 ?k4 ?k5 ?kA ?kF ?kK ?k6 ?k7 ?k8 ?k9 ?kB ?_ ?c2 ?c3 ?c4 ?c5; (case kA => assumption); (case kF => assumption); (case kK => assumption); (case k1 => k_asm); (case k2 => k_asm); (case k3 => k_asm); (case k4 => k_asm); (case k5 => k_asm); (case k6 => k_mem); (case k7 => exact codeRec_news (by k_asm) (by k_mem) (by assumption) (by assumption)); (case k8 => ktr_room); (case k9 => exact rfl); (case c5 => decide); (case kB => exact locs rfl); (case c2 => exact rfl); (case c3 => exact rfl); (case c4 => exact rfl); k_whole; intro g' L' h' FG' F' N' B' X' T'; (try dsimp only); (try k_lift B'); (try k_fold))
        k_steps
        exact hret1 _ _ _ _ rfl (by assumption) (news_drop (news_drop (by assumption)))
      | cons a r =>
        obtain ⟨ax, at'⟩ := a
        k_dflt (refine' kla_code ?k1 ?k2 ?k3 ?k4 ?k5 ?kA ?kF ?kK ?k6 ?k7 ?k8 ?k9 ?kB ?_ ?c2 ?c3 ?c4 ?c5; (case kA => assumption); (case kF => assumption); (case kK => assumption); (case k1 => k_asm); (case k2 => k_asm); (case k3 => k_asm); (case k4 => k_asm); (case k5 => k_asm); (case k6 => k_mem); (case k7 => exact codeRec_news (by k_asm) (by k_mem) (by assumption) (by assumption)); (case k8 => ktr_room); (case k9 => exact rfl); (case c5 => decide); (case kB => exact locs rfl); (case c2 => exact rfl); (case c3 => exact rfl); (case c4 => exact rfl); k_whole; intro g' L' h' FG' F' N' B' X' T'; (try dsimp only); (try k_lift B'); (try k_fold))
        have tropen : TrOpen := trivial
        k_steps
        refine hold_out ?_
        refine wpAny_truthy_list (News.isList (by k_asm) (by k_mem)) (sg_fit hu) ?_
        rw [sg_true]
        dsimp only
        rw [if_pos rfl]
        k_steps
        rename Fr _ _ _ _ => F8
        rename News _ _ _ _ => N8
        k_dflt (refine' popStr (x := ax) (t := at') (u := r) F8 N8 ?U ?z ?_; (case U => k_upd); (case z => simp only [List.length_cons] at hu; omega))
        intro h5 F9 N9
        (try dsimp only at N9)
        (try dsimp only)
        k_steps
        exact hret1 _ _ _ _ rfl (by assumption) (news_drop (news_drop (by assumption)))
    case turn =>
      intro hrd HL
      clear Na Fa
      rintro k m₁ h₁ tk₁ htk ⟨done, rem, us, c1, u, nn, ln, tl, hk1, hpe, hus, hSg, hln, F₁, e1, N₁⟩
      have F2 := Fr_puts F₁ e1
      dsimp only [putAll] at F2
      dsimp only [Rd.led] at N₁
      clear F₁
      cases rem with
      | nil =>
        obtain rfl := SgOf.nil_inv (show SgOf [] u from hSg)
        rw [List.append_nil] at hpe
        subst hpe
        k_steps
        refine hold_out ?_
        k_dflt (refine' ne_nil_sg (u := []) ?nN ?nD ?nb (fun z hz => nomatch hz) ?nu ?_)
        (case nN => k_asm)
        (case nD => k_mem)
        (case nb => exact News.isList (by k_asm) (by k_mem))
        (case nu => ktr_units)
        rw [show (!decide (([] : List (Str × Tok)) = [])) = false from by simp]
        (try dsimp only)
        k_steps
        refine hold_out ?_
        k_dflt (refine' call_tok ?N hrd HL (l0 := []) (u := []) rfl (.inl rfl) B' ?F X' T' rfl rfl rfl ?hd ?hu rfl ?_)
        (case N => exact news_drop (by k_asm))
        (case F => k_asm)
        (case hd => ktr_room)
        (case hu => exact Nat.zero_le _)
        intro tx u' n' ln' tl' h5 tk5 hS5 hl5 F5 N5
        have hfin : ln' = 1 + ((dueF ps a' : Nat) : Int) := by
          rw [← count_q1]
          have e1 : (List.count 10 (restL ([] : List Nat).tail)) = 0 := rfl
          have e2 : (List.count 10 (qL 1 (List.map (fun x => wrA x a') ([] : List Tr)))) = 0 := rfl
          rw [e1] at hl5
          rw [e2] at hln
          simp only [List.count_nil] at hl5
          omega
        clear hl5 hln
        rw [show ofL (hearL ([] : List Nat).tail) = Str.ofString "" from by decide +kernel]
        dsimp only [Rd.led] at N5
        (try dsimp only)
        have qopen : QOpen := trivial
        k_steps
        refine hold_out ?_
        subst hfin
        with_reducible rename News _ _ _ _ => N6
        with_reducible rename Fr _ _ _ _ => F6
        have hcx2 : Fresh cx ((143, tabObj arr) :: news) := fun x hx y hy => hcx x hx y (by repeat (first | exact hy | refine List.Mem.tail _ ?_))
        obtain ⟨fr, hst, Fh, Nh, Xh, Th⟩ := hid_all (TB := 143) (TK := TKr) (S₀ := cx ++ S₀) (bs := (_, listOf (strValues us).toArray c1) :: (cx ++ news)) B' F6 N6 XB TB (by k_mem) (fun q hq => (List.mem_cons.mp hq).elim (fun e => e ▸ .head _) fun e => (List.mem_append.mp e).elim (fun e => by rw [hcq q e]; k_mem) fun e => by repeat (first | exact e | refine List.Mem.tail _ ?_))
          (List.forall_mem_cons.mpr ⟨by k_ne, fun q hq => (List.mem_append.mp hq).elim (fun e => Nat.ne_of_gt (hcx2 q e _ (.head _))) fun e => hne q e⟩) (.inr ⟨c', oc', ⟨vs9, t9, d19, d29⟩, rfl, hcm⟩)
        clear F6 N6
        k_steps
        refine hold_out ?_
        with_reducible rename News (hid _ _) _ _ _ => N5
        have hst2 := RdSt.add hst (by assumption)
        have N6 := news_rot N5
        clear N5
        have hpl : 2 * ps.length ≤ 200000 := by
          have := qL_count_le 1 (ps.map fun x => wrA x a')
          rw [List.length_map] at this
          omega
        k_dflt (refine LCg.ListComp_U (F₀ := by k_asm) (by with_unfolding_all rfl) (by decide) (by rfl) (by decide) (by rfl) ?_)
        k_steps
        refine hold_out ?_
        refine LCg.CompSrc.ledger (by rfl) (by k_asm) (by k_asm) (List.mem_append_right _ (.tail _ (.head _))) ?sz1 ?rest1
        case sz1 => rw [sizeLine_eq, List.size_toArray, (strs_fa hus).length]; omega
        case rest1 =>
          intro gg1
          refine comp_rd (st₀ := (143, tabObj _) :: fr) (strs_fa hus) (fun e x y => RdAt e y (dueD x a')) (fun l l' x y hs hr => hr.mono hs) (hst2 _) ?turn1 ?fin1
          case turn1 =>
            intro x v made st I oI C oC D m₂ ys h tk E' hpp hR hst' hfr' hC hx2 F1 N1 off ne
            obtain ⟨tv, rfl⟩ := hR
            k_steps
            refine hold_out ?_
            k_dflt (refine' read_elem (El := fun e x y => RdAt e y (dueD x a')) (IH _ hpp _ _) B' XB TB D' hst' (fun q hq => .tail _ (.tail _ (List.mem_append.mpr ((List.mem_append.mp hq).imp (fun z => z) (hS₀ q))))) F1 N1 off ?es ?ek ?ed ?eu)
            (case es => exact fun nw hnw => Or.inr ⟨_, hnw _ (.tail _ (.head _)), rfl, _, rfl⟩)
            (case ek => exact rfl)
            (case ed => ktr_room)
            (case eu => ktr_units)
          case fin1 =>
            intro ys made st' hfr2 hst3 hE
            unfold LCg.FinE
            intro D8 h8 tk8 F8 N8 o8
            dsimp only
            k_steps
            refine hold_out ?_
            k_dflt (refine' add_lst ?aF ?aN ?al ?ab ?az ?_)
            (case aF => k_asm)
            (case aN => k_asm)
            (case al => exact News.isList (by k_asm) (.tail _ (List.mem_append_right _ (List.mem_append_right _ (.head _)))))
            (case ab => exact News.isList (by k_asm) (by k_mem))
            (case az => have := hE.length; simp only [List.length_cons, List.length_nil]; omega)
            intro D9 h9 F9 N9 l9
            k_steps
            obtain ⟨g5, arr5, T5, F5, hTK5, N5, hst5⟩ := unhid_all (D := D9) B' F9 hst3 N9 (fun q hq => .tail _ (.tail _ hq)) (.head _) (fun q hq => l9 q (.tail _ (List.mem_append_left _ hq)))
            refine leaveT_read (news := news) T5 F5 (news_mid N5) (fun q hq => hq) fun h₀' T0 F0 N0 => ?_
            exact hret _ _ _ _ arr5 h₀' ((read_list hE).mono fun q hq => List.mem_append_left _ hq) (fresh_app (read_fresh hfr2 (fun q hq => .tail _ (.tail _ (List.mem_append_right _ hq))) (fun q hq => l9 q (.tail _ hq)) (hst5.imp fun fr e => ⟨_, e⟩)) hcx2) (hTK5.mono fun q hq => by
              simp only [List.mem_append, List.mem_cons] at hq ⊢
              rcases hq with hq | hq | hq
              · exact .inl (.inl (.inr hq))
              · exact .inl (.inr hq)
              · exact .inr hq) T0 F0 N0
      | cons x r =>
        rw [show qL 1 (List.map (fun x => wrA x a') (x :: r)) = quoteL 1 (wrA x a') ++ qL 1 (r.map fun x => wrA x a') from rfl, quote1_eq] at hSg hln
        have hwhole : qL 1 (ps.map fun x => wrA x a') = qL 1 (done.map fun x => wrA x a') ++ (34 :: (escL (wrA x a') ++ 34 :: qL 1 (r.map fun x => wrA x a'))) := by
          rw [hpe, List.map_append, qL_append, ← quote1_eq]; rfl
        have hul : u.length ≤ 200000 := by
          rw [hSg.length]
          rw [hwhole, List.length_append] at hl
          omega
        have hok := sg_ok hSg fun c hc => hsg c (by rw [hwhole]; exact List.mem_append_right _ hc)
        have hne : u ≠ [] := fun e => by subst e; cases hSg
        k_steps
        refine hold_out ?_
        k_dflt (refine' ne_nil_sg (u := u) ?nN ?nD ?nb hok ?nu ?_)
        (case nN => k_asm)
        (case nD => k_mem)
        (case nb => exact News.isList (by k_asm) (by k_mem))
        (case nu => ktr_units)
        rw [show (!decide (u = [])) = true from by simp [hne]]
        (try dsimp only)
        k_steps
        refine hold_out ?_
        k_dflt (refine' call_tok ?N hrd HL (l0 := 34 :: (escL (wrA x a') ++ 34 :: qL 1 (r.map fun x => wrA x a'))) hSg (.inr ⟨_, rfl⟩) B' ?F X' T' rfl rfl rfl ?hd ?hu rfl ?_)
        (case N => exact news_drop (by k_asm))
        (case F => k_asm)
        (case hd => ktr_room)
        (case hu => omega)
        intro tx u' n' ln' tl' h5 tk5 hS5 hl5 F5 N5
        rw [List.tail_cons, rest_esc] at hS5 hl5
        rw [List.tail_cons, hear_esc]
        dsimp only [Rd.led] at N5
        (try dsimp only)
        k_steps
        refine hold_out ?_
        have hnl : us.length ≤ 200000 := by
          have h1 := congrArg List.length hus
          have h2 := congrArg List.length hpe
          have h3 := qL_count_le 1 (ps.map fun x => wrA x a')
          simp only [List.length_map, List.length_append] at h1 h2 h3
          omega
        k_dflt (refine' append_strs ?pF ?pN ?pU ?pz ?_)
        (case pF => k_asm)
        (case pN => k_asm)
        (case pU => k_upd)
        (case pz => omega)
        intro h6 F6 N6
        (try dsimp only at N6)
        (try dsimp only)
        k_steps
        refine fturn_next (k := r.length) (by rw [hk1]; simp only [List.length_cons]; omega) ⟨done ++ [x], r, us ++ [(ofL (wrA x a'), tx)], c1 + 1, u', n', ln', tl', rfl, by rw [hpe, List.append_assoc]; rfl, ?_, hS5, ?_, by assumption, ⟨rfl, rfl, trivial⟩, N6⟩
        · rw [List.map_append, List.map_append, hus]; rfl
        · omega
  · exfalso
    rename (_ == Str.ofString "\"") = false => hq
    rw [qf_first hws _ 34 (by decide +kernel)] at hq
    exact absurd hq (by decide)
end
end Mine
end
section
open PySem PySem.W PyProof.Rows
set_option Elab.async false
set_option maxRecDepth 100000
namespace Mine
section
variable {prog : Program} {w : World} {p : Program} {loose : List Str} {mean : ExcName → Option Value} {mg mb : Str → Option Value} {news : List (Addr × Obj)}

theorem read_leaf' (n q a : Nat) (l : List Nat) (t3 : Tok) (news : List (Addr × Obj)) (hl : (wrA (.leaf q l) a).length ≤ 200000) :
    FnRd 143 TKr prog w (Mine.hd.heap_39 w.params) p loose mean mg mb 146 (n + 11) news [.str (ofL (wrA (.leaf q l) a)) t3] (fun ext v => RdAt ext v (dueD (.leaf q l) a)) := by
  rw [wrA_leaf] at hl ⊢
  refine rd_deep (rd_of (fun S => read_leaf (news := S) (leafL q a l) t3 (by simp only [List.length_cons] at hl; omega)) fun v hv => ?_) (by omega)
  obtain ⟨t, e, _⟩ := hv
  rw [e, dueD]
  exact rdAt_str _ _
theorem read_fn : ∀ (n : Nat) (t : Tr), TOk n t → ∀ (a : Nat), (wrA t a).length ≤ 200000 → ∀ (news : List (Addr × Obj)) (t3 : Tok),
    FnRd 143 TKr prog w (Mine.hd.heap_39 w.params) p loose mean mg mb 146 (n + 11) news [.str (ofL (wrA t a)) t3] (fun ext v => RdAt ext v (dueD t a)) := by
  intro n
  induction n with
  | zero =>
    intro t h a hl news t3
    cases t with
    | leaf q l => exact read_leaf' 0 q a l t3 news hl
    | node k q ps => exact h.elim
  | succ n ih =>
    intro t h a hl news t3
    cases t with
    | leaf q l => exact read_leaf' (n + 1) q a l t3 news hl
    | node k q ps =>
      obtain ⟨hk, _, hp⟩ := h
      have IH : ∀ x ∈ ps, ∀ (news' : List (Addr × Obj)) (t : Tok), FnRd 143 TKr prog w (Mine.hd.heap_39 w.params) p loose mean mg mb 146 (n + 11) news' [.str (ofL (wrA x (q + a))) t] (fun ext v => RdAt ext v (dueD x (q + a))) := by
        intro x hx news' t
        have h1 := part_le (k := k) (q := q) (a := a) hx
        exact ih x (hp x hx) (q + a) (by omega) news' t
      have hd : dueD (.node k q ps) a = .list (.int (if k = 1 ∧ ps ≠ [] then 1 + ((dueF ps (q + a) : Nat) : Int) else 0) :: ps.map fun x => dueD x (q + a)) := by rw [dueD, dueDs_map]
      rw [hd]
      rw [wrA_node] at hl ⊢
      rcases hk with rfl | rfl
      · by_cases he : ps = []
        · subst he
          rw [if_neg (fun q => q.2 rfl)]
          exact read_talk n (q + a) [] t3 (by simp [qL]) (fun x hx => nomatch hx)
        · rw [if_pos ⟨rfl, he⟩]
          refine read_file n (q + a) ps t3 hl he (qL_sgn 1 fun w hw => ?_) IH
          obtain ⟨x, hx, rfl⟩ := List.mem_map.mp hw
          exact wrA_sgn _ (hp x hx)
      · rw [if_neg (fun q => absurd q.1 (by decide))]
        exact read_talk n (q + a) ps t3 hl IH
end
end Mine
end
section
open PySem PySem.W PyProof.Rows
set_option Elab.async false
set_option maxRecDepth 100000
namespace Mine
section
local macro_rules | `(tactic| walk_at "exec For Name Name cons nil") => `(tactic| refine hold_intro ?_)
local macro_rules | `(tactic| walk_at "pyIter ref") => `(tactic| refine hold_intro ?_)
local macro_rules | `(tactic| walk_at "UnrEnd") => `(tactic| refine hold_intro ?_)
local macro_rules | `(tactic| walk_at "call builtin:len") => `(tactic| k_extra "mine16")
local macro_rules | `(tactic| walk_at "subscriptTail Name UnaryOp ref int") => `(tactic| k_extra "mine17")
local macro_rules | `(tactic| walk_at "subscriptTail Name Constant ref int") => `(tactic| k_extra "mine18")
local macro_rules | `(tactic| walk_at "call builtin:list.append") => `(tactic| refine hold_intro ?_)
local macro_rules | `(tactic| walk_at "call builtin:list.pop") => `(tactic| refine hold_intro ?_)
local macro_rules | `(tactic| walk_at "call builtin:str.join") => `(tactic| refine hold_intro ?_)
local macro_rules | `(tactic| walk_at "exec While Compare cons nil") => `(tactic| refine hold_intro ?_)
variable {prog : Program} {w : World} {p : Program} {loose : List Str} {mean : ExcName → Option Value} {mg mb : Str → Option Value} {news : List (Addr × Obj)}

local macro_rules | `(tactic| walk_at "exec If") => `(tactic| k_extra "mine19")
local macro_rules | `(tactic| walk_at "execs cons") => `(tactic| k_extra "mine20")
set_option maxHeartbeats 4000000 in
theorem tree_fn (nl : Addr) (c : Nat) (vals : List Value) (ns : List Int) (hvals : IntsAre vals ns) (hb : ∀ n ∈ ns, 0 ≤ n ∧ n ≤ 400000) (hlen : vals.length ≤ 8) (hm : (nl, listOf (List.toArray vals) c) ∈ news) :
    FnMk prog w (Mine.hd.heap_39 w.params) p loose mean mg mb 136 1 news [.ref nl] (fun ext v => ∃ t, TOk 3 t ∧ szT t ≤ 9 ∧ TAt ext 3 t v) := by
  w_on
  intro dp un gd cn cs a ccd cl outer A₀ base h₀ L m s Q E B F X N T hk hd hu hret
  refine wpAny_call ?_
  k_dflt cell_enter
  with_reducible rename News _ _ _ _ => Nq
  have Nq2 := news_add Nq hm
  clear Nq
  k_steps
  refine hold_out ?_
  obtain ⟨k0, hk0, hk1⟩ := kind_nat ns.sum
  obtain ⟨q0, hq0, hq1⟩ := q_nat (ns.sum.fdiv 2)
  with_reducible rename News _ _ _ _ => N1
  rw [hk0, hq0] at N1
  have N2 := news_perm3 N1
  clear N1
  refine root_open N2 fun t0 t1 N3 => ?_
  clear N2 hk0 hq0
  with_reducible rename Fr _ _ _ _ => F1
  (with_unfolding_all refine' For_invVF F1 ?k1 ?k2 ?_; (case k1 => exact rfl); (case k2 => exact rfl))
  k_steps
  refine hold_out ?_
  refine iter_listUnr rfl (by k_asm) N3 (.tail _ (.tail _ (.tail _ hm))) rfl rfl (fun I hI => ?_)
  refine' list_inv (TreeJ I _ _ news) (fun vs m nw hj => ?lp) (fun m₁ nw h₁ tk₁ hj F₁ N₁ => ?hend) (fun v r m₁ nw it h₁ tk₁ hj hit F₁ N₁ => ?step) _ _ _ ⟨ns, ⟨_, _, k0, q0, t0, t1, 0, 0, [], []⟩, [], [], 0, hvals, hb, ⟨rfl, rfl, trivial⟩, tree_start (nl := nl) hk1 hq1 hlen (by assumption) (by refine ltN ?_; omega) (by refine ltN ?_; omega) hI⟩
  case lp =>
    obtain ⟨ns₁, f, fs, made, crw, _, _, _, st⟩ := hj
    rw [st.led]
    exact .tail _ (.tail _ (.tail _ (List.mem_append_right _ (List.mem_append_right _ hm))))
  case hend =>
    obtain ⟨ns₁, f, fs, made, crw, _, _, e1, st⟩ := hj
    have F2 := Fr_puts F₁ e1
    dsimp only [putAll] at F2
    clear F₁
    k_steps
    exact hret _ _ _ _ st.close st.fresh (by assumption) (tree_end st (by assumption))
  case step =>
    refine unr_gen (by first | passes_own | with_unfolding_all passes_own) fun Q8 E8 g8 d8 o8 hPE => ?_
    obtain ⟨ns₁, f, fs, made, crw, hv, hb₁, e1, st⟩ := hj
    cases hv with
    | cons n t hr =>
      have hn := hb₁ n (.head _)
      have hnew := st.led
      subst hnew
      have hfl := st.len
      have hvl := st.vsl
      obtain ⟨n1, n2, n3, n4, n5, n6, m1, m2, m3⟩ := st.dis
      have F2 := Fr_puts F₁ (l := [(Str.ofString "x", .int n t), (Str.ofString "rows", _), (Str.ofString "root", _)]) ⟨rfl, (if_neg (show ¬ (Str.ofString "rows" = Str.ofString "x") by decide)).trans e1.1, (if_neg (show ¬ (Str.ofString "root" = Str.ofString "x") by decide)).trans e1.2.1, trivial⟩
      dsimp only [putAll] at F2
      dsimp only [treeLed, Fm.obj] at N₁
      clear F₁
      have ifopen : IfOpen := trivial
      k_steps
      refine hold_out ?_
      refine elif_once ?els ?main
      case els =>
        intro tk8 htk8
        (try dsimp only)
        k_steps
        refine hold_out ?_
        obtain ⟨q5, hq5, hq6⟩ := q_nat (n.fdiv 5)
        have hfig : (n.fdiv 5).fdiv 3 = ((n.toNat / 15 : Nat) : Int) := by
          rw [fdiv_n n (by decide), fdiv_n _ (by decide)]; omega
        have hfb : n.toNat / 15 * 8 ^ ([] : List Nat).length ≤ 30000 := by
          have hn2 := hn.2
          show n.toNat / 15 * 1 ≤ 30000
          omega
        with_reducible rename News _ _ _ _ => Na
        with_reducible rename Fr _ _ _ _ => Fa
        rw [hfig] at Fa
        refine' while_invH (SignJ _ _ _ _ _ (n.fdiv 5) _) (n.toNat / 15) (by assumption) ⟨_, [], [], 0, n.toNat / 15, _, _, rfl, rfl, (fun c hc => nomatch hc), Nat.zero_le _, hfb, Fa, ⟨rfl, rfl, rfl, rfl, rfl, trivial⟩, Na⟩ ?turn ?hE
        case hE => first | exact hPE | passes_own | with_unfolding_all passes_own
        case turn =>
          clear Na Fa
          rintro k m₂ h₂ tk₂ htk ⟨us, l, c1, fg, tf, tr, hk, hus, hsg, hl5, hpw, F₂, e2, N₂⟩
          have F3 := Fr_puts F₂ e2
          dsimp only [putAll] at F3
          clear F₂
          have hul : us.length ≤ 5 := by
            have := congrArg List.length hus
            simp only [List.length_map] at this
            omega
          k_steps
          · refine hold_out ?_
            (try dsimp only)
            k_dflt (refine' append_vals ?pF ?pN ?pU ?pz ?_)
            (case pF => k_asm)
            (case pN => k_asm)
            (case pU => k_upd)
            (case pz => (simp only [strValues, List.length_map]; omega))
            intro h6 F6 N6
            (try dsimp only at N6)
            (try dsimp only)
            k_steps
            with_reducible rename News _ _ _ _ => Nb
            with_reducible rename Fr _ _ _ _ => Fb
            obtain ⟨cc, hcc, hci⟩ := sign_item (i := (fg : Int).fmod 8) (by rw [fmod_n _ (by decide)]; omega) (by rw [fmod_n _ (by decide)]; omega)
            obtain ⟨hp1, hp2⟩ := pow_step hpw (by omega) hl5
            have hdiv : (fg : Int).fdiv 8 = ((fg / 8 : Nat) : Int) := by rw [fdiv_n _ (by decide)]; omega
            rw [hdiv] at Fb
            rw [strValues_snoc] at Nb
            refine fturn_next (k := fg / 8) (by omega) ⟨us ++ [(_, _)], l ++ [cc], c1 + 1, fg / 8, _, _, rfl, ?_, ?_, (by rw [List.length_append]; exact hp1), (by rw [List.length_append]; exact hp2), Fb, ⟨rfl, rfl, rfl, rfl, rfl, trivial⟩, Nb⟩
            · rw [List.map_append, List.map_append, hus]
              show _ ++ [Txt.item signsT ((fg : Int).fmod 8)] = _
              rw [hci]; rfl
            · intro d hd
              rcases List.mem_append.mp hd with hd | hd
              · exact hsg d hd
              · rw [List.mem_singleton.mp hd]; exact hcc
          · refine hold_out ?_
            refine joinP (News.isList (by k_asm) (by k_mem)) (sign_fit hus hl5) ?_
            intro tj kj
            rw [sign_join hus]
            dsimp only
            k_steps
            refine hold_out ?_
            (try dsimp only)
            k_dflt (refine' append_vals ?pF ?pN ?pU ?pz ?_)
            (case pF => k_asm)
            (case pN => k_asm)
            (case pU => k_upd)
            (case pz => omega)
            intro h6 F6 N6
            (try dsimp only at N6)
            (try dsimp only)
            k_steps
            refine hold_out ?_
            with_reducible rename News _ _ _ _ => Nb
            with_reducible rename Fr _ _ _ _ => Fb
            rw [hq5] at Nb
            exact unr_leaf st hq6 hl5 hsg (by assumption) Fb Nb hr (fun z hz => hb₁ z (.tail _ hz)) ⟨rfl, rfl, trivial⟩
      case main =>
        intro hels
        k_steps
        all_goals try (exfalso; omega)
        · refine hold_out ?_
          (try dsimp only)
          k_dflt (refine' append_vals ?pF ?pN ?pU ?pz ?_)
          (case pF => k_asm)
          (case pN => k_asm)
          (case pU => k_upd)
          (case pz => omega)
          intro h6 F6 N6
          (try dsimp only at N6)
          (try dsimp only)
          k_steps
          refine hold_out ?_
          (try dsimp only)
          k_dflt (refine' append_vals ?pF ?pN ?pU ?pz ?_)
          (case pF => k_asm)
          (case pN => k_asm)
          (case pU => k_upd)
          (case pz => (rw [List.length_append, rowsV_len]; simp only [List.length_cons, List.length_nil]; omega))
          intro h7 F7 N7
          (try dsimp only at N7)
          (try dsimp only)
          k_steps
          refine hold_out ?_
          obtain ⟨q5, hq5, hq6⟩ := q_nat (n.fdiv 5)
          obtain ⟨k5, hk5, hk6⟩ : ∃ k : Nat, n.fmod 5 + 1 = (k : Int) ∧ (k = 1 ∨ k = 2) := by
            have h5 : n.fmod 5 = n % 5 := fmod_n n (by decide)
            have h6 : n.fmod 5 < 2 := by assumption
            rw [h5] at h6 ⊢
            exact ⟨(n % 5 + 1).toNat, by omega, by omega⟩
          with_reducible rename News _ _ _ _ => Nb
          with_reducible rename Fr _ _ _ _ => Fb
          rw [hq5, hk5] at Nb
          exact unr_open st (by omega) hk6 hq6 (by assumption) (by refine ltN ?_; omega) Fb Nb hr (fun z hz => hb₁ z (.tail _ hz)) ⟨rfl, rfl, trivial⟩
        · refine hold_out ?_
          cases fs with
          | nil => exfalso; simp only [List.length_nil] at *; omega
          | cons f0 fs2 =>
            (try dsimp only)
            k_dflt (refine' pop_vals ?pF ?pN ?pU ?pz ?_)
            (case pF => k_asm)
            (case pN => k_asm)
            (case pU => k_upd)
            (case pz => rw [rowsV_len]; omega)
            intro h6 F6 N6
            (try dsimp only at N6)
            (try dsimp only)
            k_steps
            refine hold_out ?_
            exact unr_pop st (by assumption) (by assumption) hr (fun z hz => hb₁ z (.tail _ hz)) ⟨rfl, rfl, trivial⟩
end
end Mine
end
end
section
open PySem PySem.W PyProof.Rows
set_option Elab.async false
set_option maxRecDepth 100000
namespace Mine
section
local macro_rules | `(tactic| walk_at "subscriptTail List cons Slice ref ref") => `(tactic| refine hold_intro ?_)
local macro_rules | `(tactic| walk_at "call ref") => `(tactic| refine hold_intro ?_)
local macro_rules | `(tactic| walk_at "compareOp Eq") => `(tactic| refine hold_intro ?_)
local macro_rules | `(tactic| walk_at "compareOp Eq ref ref") => `(tactic| refine hold_intro ?_)
local macro_rules | `(tactic| walk_at "compareOp Eq ref str") => `(tactic| refine hold_intro ?_)
local macro_rules | `(tactic| walk_at "compareOp Eq str ref") => `(tactic| refine hold_intro ?_)
local macro_rules | `(tactic| walk_at "compareOp Eq str str") => `(tactic| refine hold_intro ?_)
local macro_rules | `(tactic| walk_at "execs cons") => `(tactic| k_extra "mine21")
set_option maxHeartbeats 4000000 in
theorem law_main : PySem.Challenge.rw_rw0018_01.Holds := hd (by
  k_go0
  all_goals try k_fold
  (try (rename LooseAre _ _ _ => z; clear z))
  (try (rename TopE _ _ _ _ => z; clear z))
  (try (rename TopW _ _ _ => z; clear z))
  (try (rename Dflts _ _ _ => z; clear z))
  (try (rename CellsAre _ _ _ => z; clear z))
  (try (rename TabsAt _ _ => z; clear z))
  refine gen_toks0 ?_
  intro tkA
  k_steps
  refine hold_out ?_
  refine kba_turn (value' := PySem.Expr.Name (PySem.Str.ofString "_") ⟨0, 0, 0, 0⟩) (fun _ => rfl) ?_
  k_dflt (refine' kmk_slice_ints ?yF ?yN ?yl ?yp ?yq ?yi ?ym ?yc ?_ ?ys ?yt ?yz)
  (case yF => k_asm)
  (case yN => k_asm)
  (case yl => exact News.isList (by k_asm) (by k_mem))
  (case yp => exact IsPart.int _ _)
  (case yq => exact IsPart.none)
  (case yi => exact nums7 _ _ _ _ _ _ _)
  (case ym => exact kmk_from (nums7 _ _ _ _ _ _ _) (Int.natCast_nonneg _))
  (case yc => exact rfl)
  (case ys => with_unfolding_all rfl)
  (case yt => kmk_pure)
  (case yz => exact Nat.le_of_ble_eq_true rfl)
  intro D1 ws1 h1 F1 N1 l1 hI1 hC1 hL1
  (try k_lt l1)
  k_steps
  refine hold_out ?_
  with_reducible rename IntsAre _ (_ ++ _) => hNum
  k_dflt (refine' mk_use (tree_fn _ _ _ _ hNum (fun z hz => num_in1 hz) ?tl ?tm) ?k1 ?k2 ?k3 ?k4 ?k5 ?kK ?kd ?ku ?_)
  (case k1 => k_asm)
  (case k2 => k_asm)
  (case k3 => k_asm)
  (case k4 => k_asm)
  (case k5 => k_asm)
  (case tl => rw [hNum.length]; exact num_len1 (Int.toNat_natCast _))
  (case tm => k_mem)
  (case kK => exact rfl)
  (case kd => ktr_room)
  (case ku => ktr_units)
  rintro v h' tk' ext ⟨t, ht, hsz, hTA⟩ hfr F' N'
  have hlen : (wrA t 0).length ≤ 200000 := wr_room ht hsz
  (try dsimp only)
  k_steps
  refine hold_out ?_
  k_dflt (refine' fn_use (written_fn 3 (by decide) t ht hsz v _ ?wt) ?k1 ?k2 ?k3 ?k4 ?k5 ?kK ?kd ?ku ?_)
  (case k1 => k_asm)
  (case k2 => k_asm)
  (case k3 => k_asm)
  (case k4 => k_asm)
  (case k5 => k_asm)
  (case wt => exact hTA.mono fun q hq => List.mem_append_left _ hq)
  (case kK => exact rfl)
  (case kd => ktr_room)
  (case ku => ktr_units)
  rintro v2 h2 tk2 ⟨t2, rfl, rl2⟩ F2 N2
  (try dsimp only)
  k_steps
  refine hold_out ?_
  with_reducible rename News _ _ _ _ => N2
  k_dflt (refine' rd_use (arr := #[]) (S₀ := []) (read_fn 3 t ht 0 hlen ext _) ?k1 ?k2 ?k3 ?k5 ktsDicts_nil ?k4 (.inl rfl) (fun q hq => nomatch hq) ?kne ?kK ?kd ?ku ?_)
  (case k1 => k_asm)
  (case k2 => k_asm)
  (case k3 => k_asm)
  (case k5 => k_asm)
  (case k4 => exact fun q hq => (List.mem_cons.mp hq).elim (fun e => N2 q (by rw [e]; exact List.mem_append_right _ (by k_mem))) fun e => N2 q (List.mem_append_left _ e))
  (case kne => exact fun q hq => Nat.ne_of_gt (hfr q hq (143, tabObj #[]) (by k_mem)))
  (case kK => exact rfl)
  (case kd => ktr_room)
  (case ku => ktr_units)
  intro v3 h3 tk3 ext3 arr3 g3 hR3 hfr3 hTK3 T3 F3 N3
  have F4 := turn_fr T3 F3
  have N4 := turn_news T3 N3
  clear F3 N3 N2
  (try dsimp only)
  k_steps
  refine hold_out ?_
  k_dflt (refine' mk_use (due_fn 3 (by decide) t ht hsz 0 (by decide) hlen v _ _ ?dt) ?k1 ?k2 ?k3 ?k4 ?k5 ?kK ?kd ?ku ?_)
  (case k1 => k_asm)
  (case k2 => k_asm)
  (case k3 => k_asm)
  (case k4 => k_asm)
  (case k5 => k_asm)
  (case dt => exact hTA.mono fun q hq => .tail _ (List.mem_append_right _ hq))
  (case kK => exact rfl)
  (case kd => ktr_room)
  (case ku => ktr_units)
  rintro v5 h5 tk5 ext5 ⟨r5, c5, v0, k5, t5, rfl, hk5, hrd5, hm5⟩ hfr5 F5 N5
  have N5b := news_add (p := (143, tabObj arr3)) N5 (List.mem_append_right _ (.head _))
  have N6 := news_add (p := (r5, tupObj #[v0, .int k5 t5] c5)) N5b (.tail _ (List.mem_append_left _ hm5))
  clear N5b
  clear N5 N4
  (try dsimp only)
  k_steps
  refine hold_out ?_
  k_dflt (refine' same_refl_eq (by k_asm) (hR3.mono ?r1) (hrd5.mono ?r2) (due_shaped 0 (by decide) ht) ?ru ?_)
  (case r1 => exact fun q hq => .tail _ (.tail _ (List.mem_append_right _ (.tail _ (List.mem_append_left _ hq)))))
  (case r2 => exact fun q hq => .tail _ (.tail _ (List.mem_append_left _ hq)))
  (case ru => ktr_units)
  k_steps)
end
end Mine
end
end
theorem PySem.Challenge.cw_rw0018_01_holds : PySem.Challenge.rw_rw0018_01.Holds := by
  exact Mine.law_main
