import PyProof.Rows.All
import Wide.All
import OpenK.AllK
import Wide.FinOn
import PySem.Challenge.RW_ny0130_01
set_option Elab.async false
set_option linter.all false

section PartHead1
open PySem PySem.W PyProof.Rows
set_option Elab.async false
namespace Mine
set_option maxRecDepth 100000 in
set_option maxHeartbeats 0 in
open_top hd for PySem.Challenge.rw_ny0130_01
end Mine

end PartHead1

section PartP1
open PySem PySem.StrLaws Builtin Builtin.Str
namespace Mine

/-- a text from its signs -/
def S (l : List Nat) : Str := ⟨l.toArray⟩
theorem S_list (l : List Nat) : (S l).cps.toList = l := by simp [S]
theorem S_of (x : Str) : S x.cps.toList = x := by cases x; simp [S]
theorem S_length (l : List Nat) : (S l).length = l.length := by simp [S, Str.length]
theorem S_inj {a b : List Nat} (h : S a = S b) : a = b := by rw [← S_list a, h, S_list]
theorem S_eq {x : Str} {l : List Nat} (h : x.cps.toList = l) : x = S l := by rw [← h, S_of]
theorem S_append (a b : List Nat) : S a ++ S b = S (a ++ b) := S_eq (by simp [Str.cps_append, S])

/-- one sign changed for a text -/
def rep1 (c : Nat) (z : List Nat) (x : List Nat) : List Nat := x.flatMap fun k => if k = c then z else [k]
theorem rep1_append (c : Nat) (z a b : List Nat) : rep1 c z (a ++ b) = rep1 c z a ++ rep1 c z b := by simp [rep1]
theorem rep1_free (c : Nat) (z : List Nat) : ∀ l : List Nat, c ∉ l → rep1 c z l = l
  | [], _ => rfl
  | k :: r, h => by
    have h1 : ¬ k = c := fun e => h (e ▸ List.mem_cons_self ..)
    have h2 : c ∉ r := fun m => h (List.mem_cons_of_mem _ m)
    have ih := rep1_free c z r h2
    simp only [rep1, List.flatMap_cons, h1, if_false] at ih ⊢
    rw [ih]; rfl
theorem rep1_join (c : Nat) (z : Str) : ∀ parts : List Str, (∀ p ∈ parts, c ∉ p.cps.toList) → rep1 c z.cps.toList (Str.join ⟨#[c]⟩ parts).cps.toList = (Str.join z parts).cps.toList
  | [], _ => rfl
  | [p], h => rep1_free c _ _ (h p (List.mem_singleton.mpr rfl))
  | p :: q :: r, h => by
    have ih := rep1_join c z (q :: r) fun a ha => h a (List.mem_cons_of_mem _ ha)
    show rep1 c z.cps.toList (p ++ ⟨#[c]⟩ ++ Str.join ⟨#[c]⟩ (q :: r)).cps.toList = (p ++ z ++ Str.join z (q :: r)).cps.toList
    simp only [Str.cps_append, Array.toList_append]
    rw [rep1_append, rep1_append, ih, rep1_free c _ _ (h p (List.mem_cons_self ..))]
    simp [rep1]
theorem replace_S1 (x z : List Nat) (c : Nat) : Txt.replace (S x) (S [c]) (S z) = S (rep1 c z x) := by
  refine S_eq ?_
  show (Txt.replace (S x) ⟨#[c]⟩ (S z)).cps.toList = _
  rw [replace_one, ← rep1_join c _ _ (split_free (S x) c), join_split, S_list, S_list]

/-- a text changed for a text, from the left -/
def repl (y z : List Nat) : Nat → List Nat → List Nat
  | 0, x => x
  | _ + 1, [] => []
  | n + 1, c :: r => if y.isPrefixOf (c :: r) then z ++ repl y z n ((c :: r).drop y.length) else c :: repl y z n r
theorem repl_fuel (y z : List Nat) (hy : y ≠ []) : ∀ (n m : Nat) (x : List Nat), x.length ≤ n → x.length ≤ m → repl y z n x = repl y z m x
  | 0, 0, _, _, _ => rfl
  | 0, m + 1, x, h, _ => by
    have : x = [] := List.eq_nil_of_length_eq_zero (Nat.le_zero.mp h)
    subst this; rfl
  | n + 1, 0, x, _, h => by
    have : x = [] := List.eq_nil_of_length_eq_zero (Nat.le_zero.mp h)
    subst this; rfl
  | n + 1, m + 1, [], _, _ => rfl
  | n + 1, m + 1, c :: r, h1, h2 => by
    have hl : 1 ≤ y.length := by cases y with | nil => exact absurd rfl hy | cons _ _ => simp
    simp only [List.length_cons] at h1 h2
    unfold repl
    have e1 := repl_fuel y z hy n m ((c :: r).drop y.length) (by simp; omega) (by simp; omega)
    have e2 := repl_fuel y z hy n m r (by omega) (by omega)
    rw [e1, e2]
def rpl (y z x : List Nat) : List Nat := repl y z x.length x
theorem rpl_nil (y z : List Nat) : rpl y z [] = [] := rfl
theorem rpl_hit (y z x : List Nat) (hy : y ≠ []) (h : y.isPrefixOf x = true) (hx : x ≠ []) : rpl y z x = z ++ rpl y z (x.drop y.length) := by
  cases x with
  | nil => exact absurd rfl hx
  | cons c r =>
    have hl : 1 ≤ y.length := by cases y with | nil => exact absurd rfl hy | cons _ _ => simp
    show repl y z (r.length + 1) (c :: r) = _
    unfold repl
    rw [if_pos h]
    show _ = z ++ repl y z ((c :: r).drop y.length).length _
    rw [repl_fuel y z hy r.length ((c :: r).drop y.length).length _ (by simp; omega) (Nat.le_refl _)]
theorem rpl_miss (y z : List Nat) (c : Nat) (r : List Nat) (h : y.isPrefixOf (c :: r) = false) : rpl y z (c :: r) = c :: rpl y z r := by
  show repl y z (r.length + 1) (c :: r) = _
  unfold repl
  rw [if_neg (by rw [h]; exact Bool.false_ne_true)]
  rfl

theorem at_prefix (x y : Str) (i : Nat) : At x y x.length i ↔ (i + y.length ≤ x.length ∧ y.cps.toList.isPrefixOf (x.cps.toList.drop i) = true) := by
  unfold At
  rw [subAt_eq]
  constructor
  · rintro ⟨h1, h2⟩
    refine ⟨h1, ?_⟩
    rw [List.isPrefixOf_iff_prefix, List.prefix_iff_eq_take]
    have := eq_of_beq h2
    rw [← this]
    simp [Str.length] at *
  · rintro ⟨h1, h2⟩
    refine ⟨h1, ?_⟩
    rw [List.isPrefixOf_iff_prefix, List.prefix_iff_eq_take] at h2
    rw [beq_iff_eq]
    exact h2.symm

theorem rpl_gap (x y : Str) (z : List Nat) (hy : 1 ≤ y.length) : ∀ (n a c : Nat), c - a = n → a ≤ c → c ≤ x.length → (∀ k, a ≤ k → k < c → ¬ At x y x.length k) →
    rpl y.cps.toList z (x.cps.toList.drop a) = (x.cps.toList.drop a).take (c - a) ++ rpl y.cps.toList z (x.cps.toList.drop c)
  | 0, a, c, hn, hac, hc, _ => by
    have : c = a := by omega
    subst this
    simp
  | n + 1, a, c, hn, hac, hc, hg => by
    have hlt : a < x.cps.toList.length := by simp [Str.length] at hc ⊢; omega
    have ih := rpl_gap x y z hy n (a + 1) c (by omega) (by omega) hc fun k h1 h2 => hg k (by omega) h2
    have hno : y.cps.toList.isPrefixOf (x.cps.toList.drop a) = false := by
      cases hp : y.cps.toList.isPrefixOf (x.cps.toList.drop a) with
      | false => rfl
      | true =>
        refine absurd ((at_prefix x y a).mpr ⟨?_, hp⟩) (hg a (Nat.le_refl _) (by omega))
        have hq := (List.isPrefixOf_iff_prefix.mp hp).length_le
        simp [Str.length] at hq hlt ⊢
        omega
    rw [List.drop_eq_getElem_cons hlt] at hno ⊢
    rw [rpl_miss _ _ _ _ hno, ih]
    have e : c - a = (c - (a + 1)) + 1 := by omega
    rw [e, List.take_succ_cons]
    rfl

theorem join_cons (z p : Str) {q : List Str} (hq : q ≠ []) : Str.join z (p :: q) = p ++ z ++ Str.join z q := by
  cases q with
  | nil => exact absurd rfl hq
  | cons a b => rfl

theorem rpl_chain (x y z : Str) (hy : 1 ≤ y.length) : ∀ (cuts : List Nat) (a f : Nat), a ≤ x.length → ChainG x y x.length a cuts f → (∀ k, f ≤ k → ¬ At x y x.length k) →
    (Str.join z (partsFrom x y.length a cuts)).cps.toList = rpl y.cps.toList z.cps.toList (x.cps.toList.drop a)
  | [], a, f, ha, h, hn => by
    have e : f = a := h
    subst e
    show (strSub x f x.length).cps.toList = _
    rw [strSub_toList, rpl_gap x y z.cps.toList hy (x.length - f) f x.length rfl ha (Nat.le_refl _) fun k h1 _ => hn k h1]
    have : x.cps.toList.drop x.length = [] := List.drop_of_length_le (by simp [Str.length])
    rw [this, rpl_nil, List.append_nil]
  | c :: r, a, f, ha, h, hn => by
    obtain ⟨hac, hA, hg, hr⟩ := h
    have hA' := (at_prefix x y c).mp hA
    have ih := rpl_chain x y z hy r (c + y.length) f (by have := hA.1; omega) hr hn
    show (Str.join z (strSub x a c :: partsFrom x y.length (c + y.length) r)).cps.toList = _
    rw [join_cons _ _ (by obtain ⟨p, q, e⟩ := partsFrom_ne x y.length (c + y.length) r; rw [e]; simp)]
    simp only [Str.cps_append, Array.toList_append]
    rw [ih, strSub_toList, rpl_gap x y z.cps.toList hy (c - a) a c rfl hac (by have := hA.1; omega) hg]
    have hne : x.cps.toList.drop c ≠ [] := by
      intro e
      have := congrArg List.length e
      have hxl : x.cps.size = x.length := rfl
      simp at this
      have h1 := hA.1
      omega
    have hyn : y.cps.toList ≠ [] := by
      intro e
      have := congrArg List.length e
      have hyl : y.cps.size = y.length := rfl
      simp at this
      rw [this] at hyl
      simp at hyl
      omega
    rw [rpl_hit _ _ _ hyn hA'.2 hne]
    have e : y.cps.toList.length = y.length := by simp [Str.length]
    rw [e, List.drop_drop, List.append_assoc]

theorem replace_S (x y z : List Nat) (hy : y ≠ []) : Txt.replace (S x) (S y) (S z) = S (rpl y z x) := by
  refine S_eq ?_
  have hy1 : 1 ≤ (S y).length := by rw [S_length]; cases y with | nil => exact absurd rfl hy | cons _ _ => simp
  have hy0 : ((S y).length == 0) = false := by
    cases h : (S y).length == 0 with
    | false => rfl
    | true => have := beq_iff_eq.mp h; omega
  obtain ⟨f, hc, hn⟩ := occ_tight (S x) (S y) hy1
  have key := rpl_chain (S x) (S y) (S z) hy1 _ 0 f (Nat.zero_le _) hc hn
  rw [List.drop_zero, S_list, S_list, S_list] at key
  unfold Txt.replace
  rw [hy0, Bool.false_and, Bool.or_false]
  split
  · rename_i he
    have he' : occurrences (S x) (S y) 0 (S x).length ((S x).length + 1) = [] := by simpa using he
    rw [he'] at key
    rw [← key]
    show _ = (strSub (S x) 0 (S x).length).cps.toList
    rw [sub_whole]
  · rw [glued_eq_join, partsBetween_eq, key]

/-- stripped -/
def strp (p : Nat → Bool) (l : List Nat) : List Nat := ((l.dropWhile p).reverse.dropWhile p).reverse
theorem drop_takeWhile (p : Nat → Bool) : ∀ l : List Nat, l.drop (l.takeWhile p).length = l.dropWhile p
  | [] => rfl
  | a :: r => by
    by_cases h : p a = true
    · simp [h, drop_takeWhile p r]
    · simp [h]
theorem stripBy_S (p : Nat → Bool) (l : List Nat) : Txt.stripBy p true true (S l) = S (strp p l) := by
  refine S_eq ?_
  rw [PyProof.Rows.stripBy_eq, strSub_toList]
  simp only [stripLo, stripHi, if_true, S_list, S_length]
  have hlen : (l.takeWhile p).length + (l.dropWhile p).length = l.length := by
    rw [← List.length_append, List.takeWhile_append_dropWhile]
  unfold strp
  rw [drop_takeWhile]
  generalize l.dropWhile p = d at hlen ⊢
  rw [← drop_takeWhile p d.reverse, List.reverse_drop, List.reverse_reverse, List.length_reverse]
  have : ((d.reverse.takeWhile p).length) ≤ d.length := by
    have := (List.takeWhile_prefix (l := d.reverse) p).length_le
    simpa using this
  congr 1
  omega

/-- parted at a sign -/
def spl (c : Nat) : List Nat → List (List Nat)
  | [] => [[]]
  | k :: r => if k = c then [] :: spl c r else match spl c r with
    | p :: q => (k :: p) :: q
    | [] => [[k]]
theorem spl_ne (c : Nat) : ∀ l, spl c l ≠ []
  | [] => by simp [spl]
  | k :: r => by
    unfold spl
    split
    · simp
    · split <;> simp
theorem spl_free (c : Nat) : ∀ l : List Nat, c ∉ l → spl c l = [l]
  | [], _ => rfl
  | k :: r, h => by
    have h1 : ¬ k = c := fun e => h (e ▸ List.mem_cons_self ..)
    have ih := spl_free c r fun m => h (List.mem_cons_of_mem _ m)
    rw [spl, if_neg h1, ih]
theorem spl_at (c : Nat) (b : List Nat) : ∀ a : List Nat, c ∉ a → spl c (a ++ c :: b) = a :: spl c b
  | [], _ => by simp [spl]
  | k :: r, h => by
    have h1 : ¬ k = c := fun e => h (e ▸ List.mem_cons_self ..)
    have ih := spl_at c b r fun m => h (List.mem_cons_of_mem _ m)
    show spl c (k :: (r ++ c :: b)) = _
    rw [spl, if_neg h1, ih]
theorem spl_join (c : Nat) : ∀ parts : List Str, parts ≠ [] → (∀ p ∈ parts, c ∉ p.cps.toList) → spl c (Str.join ⟨#[c]⟩ parts).cps.toList = parts.map (·.cps.toList)
  | [], h, _ => absurd rfl h
  | [p], _, h => spl_free c _ (h p (List.mem_singleton.mpr rfl))
  | p :: q :: r, _, h => by
    have ih := spl_join c (q :: r) (by simp) fun a ha => h a (List.mem_cons_of_mem _ ha)
    show spl c (p ++ ⟨#[c]⟩ ++ Str.join ⟨#[c]⟩ (q :: r)).cps.toList = _
    simp only [Str.cps_append, Array.toList_append]
    have : p.cps.toList ++ (#[c] : Array Nat).toList ++ (Str.join ⟨#[c]⟩ (q :: r)).cps.toList = p.cps.toList ++ c :: (Str.join ⟨#[c]⟩ (q :: r)).cps.toList := by simp
    rw [this, spl_at c _ _ (h p (List.mem_cons_self ..)), ih]
    rfl
theorem split_ne (x y : Str) : Txt.split x y ≠ [] := by
  unfold Txt.split
  split
  · simp
  · split
    · simp
    · rw [partsBetween_eq]
      obtain ⟨p, q, e⟩ := partsFrom_ne x y.length 0 (occurrences x y 0 x.length (x.length + 1))
      rw [e]; simp
theorem split_S (c : Nat) (x : List Nat) : Txt.split (S x) (S [c]) = (spl c x).map S := by
  have h := spl_join c (Txt.split (S x) ⟨#[c]⟩) (split_ne _ _) (split_free (S x) c)
  rw [join_split, S_list] at h
  rw [h, List.map_map]
  have : (S ∘ fun (p : Str) => p.cps.toList) = fun p => p := by funext p; exact S_of p
  rw [this, List.map_id']
  rfl

/-- joined -/
def jn (sep : List Nat) : List (List Nat) → List Nat
  | [] => []
  | [x] => x
  | x :: y :: r => x ++ sep ++ jn sep (y :: r)
theorem join_S (sep : List Nat) : ∀ l : List (List Nat), Txt.join (S sep) (l.map S) = S (jn sep l) := by
  have key : ∀ l : List (List Nat), Str.join (S sep) (l.map S) = S (jn sep l) := by
    intro l
    induction l with
    | nil => rfl
    | cons x r ih =>
      cases r with
      | nil => rfl
      | cons y q =>
        show S x ++ S sep ++ Str.join (S sep) ((y :: q).map S) = _
        rw [ih, S_append, S_append]; rfl
  intro l
  show glued (S sep) (l.map S) = _
  rw [glued_eq_join, key]

/-- the last sign; all but it -/
theorem slice_last (x : List Nat) : Txt.slice (S x) (some (-1)) none = S (x.drop (x.length - 1)) := by
  rw [PyProof.Rows.slice_from_neg (by decide)]
  show sliceText (S x) _ none = _
  have hl : (S x).length = x.length := S_length x
  rw [sliceText_from ⟨by omega, by rw [S_list, hl]; omega⟩, S_list, hl]
  refine S_eq ?_
  have e : (max 0 ((x.length : Int) + -1)).toNat = x.length - 1 := by omega
  rw [e]
  simp only []
  rw [List.take_of_length_le]
  simp
  omega
theorem slice_init (x : List Nat) : Txt.slice (S x) none (some (-1)) = S (x.take (x.length - 1)) := by
  rw [PyProof.Rows.slice_to_neg (by decide)]
  show sliceText (S x) none _ = _
  have hl : (S x).length = x.length := S_length x
  rw [sliceText_to ⟨by omega, by rw [S_list, hl]; omega⟩, S_list, hl]
  refine S_eq ?_
  have e : (max 0 ((x.length : Int) + -1) - 0).toNat = x.length - 1 := by omega
  rw [e]
  simp

theorem contains_S (x : List Nat) (c : Nat) : Txt.contains (S x) (S [c]) = decide (c ∈ x) := by
  have := found_one (S x) c
  rw [S_list] at this
  exact this

/-- parted once -/
theorem partition_S (x : List Nat) (c : Nat) : Txt.partition (S x) (S [c]) = (S (x.takeWhile (· != c)), S (if c ∈ x then [c] else []), S ((x.dropWhile (· != c)).drop 1)) := by
  have key : ∀ (l : List Nat) (i : Nat), l[i]? = some c → (∀ k, k < i → l[k]? ≠ some c) → l.takeWhile (· != c) = l.take i ∧ l.dropWhile (· != c) = l.drop i ∧ c ∈ l := by
    intro l
    induction l with
    | nil => intro i h _; simp at h
    | cons a r ih =>
      intro i h hn
      cases i with
      | zero =>
        have : a = c := by simpa using h
        subst this
        simp
      | succ i =>
        have ha : a ≠ c := fun e => hn 0 (Nat.succ_pos _) (by simp [e])
        obtain ⟨h1, h2, h3⟩ := ih i (by simpa using h) fun k hk => by simpa using hn (k + 1) (Nat.succ_lt_succ hk)
        have hb : (a != c) = true := by simpa using ha
        simp [hb, h1, h2, h3]
  unfold Txt.partition
  rcases occ_head (S x) (S [c]) 1 (Nat.le_refl _) with ⟨h0, hn⟩ | ⟨i, r, h0, ha, hn⟩
  · rw [h0]
    have hc : c ∉ x := by
      intro hm
      obtain ⟨i, hi⟩ := List.getElem?_of_mem hm
      exact hn i ((at_prefix _ _ _).mpr ⟨by rw [S_length, S_length]; have := (List.getElem?_eq_some_iff.mp hi).1; simp; omega, by
        rw [S_list, S_list, List.drop_eq_getElem_cons (List.getElem?_eq_some_iff.mp hi).1]
        simp [(List.getElem?_eq_some_iff.mp hi).2]⟩)
    have e1 : x.takeWhile (· != c) = x := by
      have all : ∀ l : List Nat, c ∉ l → l.takeWhile (· != c) = l := by
        intro l
        induction l with
        | nil => intro _; rfl
        | cons a r ih =>
          intro h
          have h1 : a ≠ c := fun e => h (e ▸ List.mem_cons_self ..)
          have hb : (a != c) = true := by simpa using h1
          simp [hb, ih fun m => h (List.mem_cons_of_mem _ m)]
      exact all x hc
    have e2 : x.dropWhile (· != c) = [] := by
      have := List.takeWhile_append_dropWhile (p := (· != c)) (l := x)
      rw [e1] at this
      simpa using this
    simp only [e1, e2, hc, if_false]
    rfl
  · rw [h0]
    have get : ∀ k, At (S x) (S [c]) (S x).length k ↔ x[k]? = some c := by
      intro k
      rw [at_prefix, S_length, S_length, S_list, S_list]
      constructor
      · rintro ⟨h1, h2⟩
        simp at h1
        rw [List.drop_eq_getElem_cons (by omega), List.isPrefixOf_cons₂] at h2
        have h3 := eq_of_beq (Bool.and_eq_true_iff.mp h2).1
        rw [List.getElem?_eq_getElem (by omega), ← h3]
      · intro h
        have hlt := (List.getElem?_eq_some_iff.mp h).1
        refine ⟨by simp; omega, ?_⟩
        rw [List.drop_eq_getElem_cons hlt]
        simp [(List.getElem?_eq_some_iff.mp h).2]
    obtain ⟨e1, e2, e3⟩ := key x i ((get i).mp ha) fun k hk e => hn k hk ((get k).mpr e)
    simp only [e1, e2, e3, if_true]
    have hl : (S x).length = x.length := S_length x
    have h1 : strSub (S x) 0 i = S (x.take i) := S_eq (by rw [strSub_toList, S_list]; simp)
    have h2 : strSub (S x) (i + (S [c]).length) (S x).length = S ((x.drop i).drop 1) := S_eq (by
      rw [strSub_toList, S_list, hl, S_length, List.drop_drop]
      simp only [List.length_cons, List.length_nil]
      rw [List.take_of_length_le (by simp)])
    rw [h1, h2]
end Mine

end PartP1

section PartP2
open PySem
namespace Mine

/-- runs of hyphens made one -/
def coll : List Nat → List Nat
  | [] => []
  | a :: r => if a = 45 ∧ r.head? = some 45 then coll r else a :: coll r
theorem coll_cons_ne {a : Nat} (r : List Nat) (h : a ≠ 45) : coll (a :: r) = a :: coll r := by simp [coll, h]
theorem coll_head (r : List Nat) : (coll r).head? = r.head? := by
  induction r with
  | nil => rfl
  | cons a r ih =>
    unfold coll
    split
    · rename_i h
      rw [ih, h.2, h.1]; rfl
    · rfl
theorem coll_idem_cons (a : Nat) {r r' : List Nat} (h : coll r = coll r') : coll (a :: r) = coll (a :: r') := by
  have hh : r.head? = r'.head? := by rw [← coll_head r, h, coll_head]
  unfold coll
  rw [hh, h]
theorem coll_two (r : List Nat) : coll (45 :: 45 :: r) = coll (45 :: r) := by
  conv => lhs; unfold coll
  rw [if_pos ⟨rfl, rfl⟩]
theorem coll_rpl (n : Nat) : ∀ x : List Nat, x.length ≤ n → coll (rpl [45, 45] [45] x) = coll x := by
  induction n with
  | zero =>
    intro x h
    have : x = [] := List.eq_nil_of_length_eq_zero (Nat.le_zero.mp h)
    subst this; rfl
  | succ n ih =>
    intro x h
    cases x with
    | nil => rfl
    | cons a r =>
      cases hp : List.isPrefixOf [45, 45] (a :: r) with
      | false =>
        rw [rpl_miss _ _ _ _ hp]
        exact coll_idem_cons a (ih r (by simp at h; omega))
      | true =>
        rw [rpl_hit _ _ _ (by simp) hp (by simp)]
        cases r with
        | nil => simp [List.isPrefixOf] at hp
        | cons b r =>
          have h1 : 45 = a ∧ 45 = b := by simpa [List.isPrefixOf] using hp
          obtain ⟨rfl, rfl⟩ := h1
          show coll (45 :: rpl [45, 45] [45] r) = _
          rw [coll_two]
          exact coll_idem_cons 45 (ih r (by simp at h; omega))
theorem rpl_len (n : Nat) : ∀ x : List Nat, x.length ≤ n → (rpl [45, 45] [45] x).length ≤ x.length ∧ (rpl [45, 45] [45] x ≠ x → (rpl [45, 45] [45] x).length < x.length) ∧ (rpl [45, 45] [45] x = x → coll x = x) := by
  induction n with
  | zero =>
    intro x h
    have : x = [] := List.eq_nil_of_length_eq_zero (Nat.le_zero.mp h)
    subst this
    exact ⟨Nat.le_refl _, fun h => absurd rfl h, fun _ => rfl⟩
  | succ n ih =>
    intro x h
    cases x with
    | nil => exact ⟨Nat.le_refl _, fun h => absurd rfl h, fun _ => rfl⟩
    | cons a r =>
      cases hp : List.isPrefixOf [45, 45] (a :: r) with
      | false =>
        rw [rpl_miss _ _ _ _ hp]
        obtain ⟨h1, h2, h3⟩ := ih r (by simp at h; omega)
        refine ⟨by simpa using h1, fun hne => ?_, fun he => ?_⟩
        · simpa using h2 fun e => hne (by rw [e])
        · have e : rpl [45, 45] [45] r = r := by simpa using he
          unfold coll
          rw [h3 e, if_neg]
          rintro ⟨rfl, hr⟩
          cases r with
          | nil => cases hr
          | cons b r =>
            have : b = 45 := by simpa using hr
            subst this
            simp [List.isPrefixOf] at hp
      | true =>
        rw [rpl_hit _ _ _ (by simp) hp (by simp)]
        cases r with
        | nil => simp [List.isPrefixOf] at hp
        | cons b r =>
          obtain ⟨h1, _, _⟩ := ih r (by simp at h; omega)
          have hlt : ([45] ++ rpl [45, 45] [45] ((a :: b :: r).drop 2)).length < (a :: b :: r).length := by
            simp only [List.drop_succ_cons, List.drop_zero, List.length_append, List.length_cons, List.length_nil]
            omega
          refine ⟨Nat.le_of_lt hlt, fun _ => hlt, fun he => ?_⟩
          have e := congrArg List.length he
          have hlt' : ([45] ++ rpl [45, 45] [45] ((a :: b :: r).drop ([45, 45] : List Nat).length)).length < (a :: b :: r).length := hlt
          omega

/-- hyphens at the end struck -/
def unt (x : List Nat) : List Nat := (x.reverse.dropWhile (· == 45)).reverse
theorem unt_snoc (x : List Nat) (c : Nat) : unt (x ++ [c]) = if c = 45 then unt x else x ++ [c] := by
  unfold unt
  rw [List.reverse_append]
  simp only [List.reverse_cons, List.reverse_nil, List.nil_append, List.singleton_append, List.dropWhile_cons]
  by_cases h : c = 45
  · simp [h]
  · simp [h]
end Mine

end PartP2

section PartM0
open PySem PySem.W PyProof.Rows PySem.Calls
set_option Elab.async false
set_option maxRecDepth 100000
namespace Mine
noncomputable section

abbrev pg : Program := PySem.Challenge.rw_ny0130_01.row.prog
abbrev KF (w : World) : Frag := Mine.hd.heap_39 w.params
theorem kf_lo (w : World) : ∀ a o, (KF w).lookup a = some o → a ≤ 92 := by
  have h : ∀ p ∈ KF w, p.1 ≤ 92 := by
    have e : ((KF w).map (·.1)).all (fun a => decide (a ≤ 92)) = true := by rfl
    intro p hp
    exact of_decide_eq_true (List.all_eq_true.mp e p.1 (List.mem_map_of_mem hp))
  intro a o e
  exact h (a, o) (kb_mem e)

def fdAt (w : World) (a : Addr) : FuncData := match (KF w).lookup a with
  | some ⟨_, _, .func fd, _⟩ => fd
  | _ => default
def bodyOf (fd : FuncData) : List Stmt := match fd.body with
  | .stmts b => b
  | _ => []

/-- what stands in every state of the call -/
structure Gnd (w : World) (h : Heap) : Prop where
  k : (KF w).In h
  g : ∃ mg, h.Ns mainGlobals mg
  b : ∃ mb, h.Ns builtinsNs mb ∧ ∀ x : Str, x ≠ "__name__" → mb x = bootBuiltins x
  c : h.NoLimit
  m : ∃ ob, h.get? 4 = some ob ∧ ob.cls = .type "module" ∧ ob.dict = some builtinsNs ∧ ob.data = .plain

theorem Gnd.but {w : World} {h h' : Heap} {X : Addr → Prop} (G : Gnd w h) (hX : ∀ a, X a → a ≤ 92 → a = 16) (hk : ∀ b o, ¬ X b → h.get? b = some o → h'.get? b = some o) : Gnd w h' := by
  have lo : ∀ a, a ≤ 92 → a ≠ 16 → ¬ X a := fun a h1 h2 x => h2 (hX a x h1)
  have no16 : ∀ o, (KF w).lookup 16 ≠ some o := by
    intro o e
    have e' : (KF w).lookup 16 = none := by rfl
    rw [e'] at e; cases e
  refine ⟨fun a o e => hk a o (lo a (kf_lo w a o e) (fun z => no16 o (z ▸ e))) (G.k a o e), ?_, ?_, ?_, ?_⟩
  · obtain ⟨mg, hg⟩ := G.g
    exact ⟨mg, hg.at' fun o e => hk _ o (lo _ (by decide) (by decide)) e⟩
  · obtain ⟨mb, hb, e⟩ := G.b
    exact ⟨mb, hb.at' fun o e => hk _ o (lo _ (by decide) (by decide)) e, e⟩
  · obtain ⟨mc, hc, e⟩ := G.c
    exact ⟨mc, hc.at' fun o e => hk _ o (lo _ (by decide) (by decide)) e, e⟩
  · obtain ⟨ob, ho, r⟩ := G.m
    exact ⟨ob, hk _ _ (lo _ (by decide) (by decide)) ho, r⟩
theorem Gnd.keeps {w : World} {h h' : Heap} (G : Gnd w h) (hk : ∀ b o, h.get? b = some o → h'.get? b = some o) : Gnd w h' := G.but (X := fun _ => False) (fun _ x => x.elim) fun b o _ e => hk b o e
theorem Gnd.size {w : World} {h : Heap} (G : Gnd w h) : 92 < h.objs.size := by
  have e : ∃ o, (KF w).lookup 92 = some o := ⟨_, rfl⟩
  obtain ⟨o, e⟩ := e
  exact Heap.lt_size (G.k 92 o e)

/-- a def's frame at L, begun (or begun anew) at s₀ -/
structure In (w : World) (s₀ : Shared) (L : Addr) (m : Str → Option Value) (news : List (Addr × Obj)) (s : Shared) : Prop where
  same : ∃ h tk, s = { s₀ with heap := h, toks := tk }
  keep : ∀ b o, b ≠ L → s₀.heap.get? b = some o → s.heap.get? b = some o
  ns : s.heap.Ns L m
  gnd : Gnd w s.heap
  lo : 92 < L
  tk : s₀.toks ≤ s.toks
  t0 : 0 < s₀.toks
  nw : ∀ p ∈ news, p.1 ≠ L ∧ s.heap.get? p.1 = some p.2

namespace In
variable {w : World} {s₀ s : Shared} {L : Addr} {m : Str → Option Value} {news : List (Addr × Obj)}

theorem tok (I : In w s₀ L m news s) {k : Nat} (hk : s.toks ≤ k) : In w s₀ L m news { s with toks := k } :=
  ⟨let ⟨h, _, e⟩ := I.same; ⟨h, k, by rw [e]⟩, I.keep, I.ns, I.gnd, I.lo, Nat.le_trans I.tk hk, I.t0, I.nw⟩
theorem pos (I : In w s₀ L m news s) : 0 < s.toks := Nat.lt_of_lt_of_le I.t0 I.tk
/-- all that stands is kept -/
theorem on (I : In w s₀ L m news s) {h' : Heap} {k : Nat} (ht : s.toks ≤ k) (hk : ∀ b o, s.heap.get? b = some o → h'.get? b = some o) : In w s₀ L m news { s with heap := h', toks := k } :=
  ⟨let ⟨_, _, e⟩ := I.same; ⟨h', k, by rw [e]⟩, fun b o hb e => hk _ _ (I.keep b o hb e), I.ns.keeps hk, I.gnd.keeps hk, I.lo, Nat.le_trans I.tk ht, I.t0, fun p hp => ⟨(I.nw p hp).1, hk _ _ (I.nw p hp).2⟩⟩
theorem keeps {s' : Shared} (I : In w s₀ L m news s) (hk : Keeps s s') (ht : s.toks ≤ s'.toks) : In w s₀ L m news s' := by
  obtain ⟨h', tk, rfl, hk⟩ := hk
  exact I.on ht hk
theorem put (I : In w s₀ L m news s) {h' : Heap} {k : Nat} {m' : Str → Option Value} (ht : s.toks ≤ k) (hn : h'.Ns L m') (hs : Heap.SameBut L s.heap h') : In w s₀ L m' news { s with heap := h', toks := k } :=
  ⟨let ⟨_, _, e⟩ := I.same; ⟨h', k, by rw [e]⟩, fun b o hb e => (hs.2 b hb).trans (I.keep b o hb e), hn, I.gnd.but (X := fun a => a = L) (fun a x y => absurd I.lo (by rw [← x]; exact Nat.not_lt.mpr y)) (fun b o hb e => (hs.2 b hb).trans e),
    I.lo, Nat.le_trans I.tk ht, I.t0, fun p hp => ⟨(I.nw p hp).1, (hs.2 _ (I.nw p hp).1).trans (I.nw p hp).2⟩⟩
theorem push (I : In w s₀ L m news s) (o : Obj) (hf : o.isFreed = false := by rfl) : In w s₀ L m ((s.heap.objs.size, o) :: news) { s with heap := s.heap.push o } := by
  have I' := I.on (k := s.toks) (Nat.le_refl _) (h' := s.heap.push o) fun b o' e => Heap.get?_push_of_some o e
  refine ⟨I'.same, I'.keep, I'.ns, I'.gnd, I'.lo, I'.tk, I'.t0, fun p hp => ?_⟩
  rcases List.mem_cons.mp hp with rfl | hp
  · exact ⟨Nat.ne_of_gt I.ns.lt, Heap.get?_push_size _ hf⟩
  · exact I'.nw p hp
theorem forget (I : In w s₀ L m news s) {news' : List (Addr × Obj)} (h : ∀ p ∈ news', p ∈ news) : In w s₀ L m news' s :=
  ⟨I.same, I.keep, I.ns, I.gnd, I.lo, I.tk, I.t0, fun p hp => I.nw p (h p hp)⟩
theorem congr (I : In w s₀ L m news s) {m' : Str → Option Value} (h : m = m') : In w s₀ L m' news s := h ▸ I
/-- more is known -/
theorem more (I : In w s₀ L m news s) {a : Addr} {o : Obj} (h : s.heap.get? a = some o) (hl : a ≠ L) : In w s₀ L m ((a, o) :: news) s :=
  ⟨I.same, I.keep, I.ns, I.gnd, I.lo, I.tk, I.t0, fun p hp => (List.mem_cons.mp hp).elim (fun e => e ▸ ⟨hl, h⟩) (I.nw p)⟩
theorem anew (I : In w s₀ L m news s) : In w s L m news s :=
  ⟨⟨s.heap, s.toks, rfl⟩, fun _ _ _ e => e, I.ns, I.gnd, I.lo, Nat.le_refl _, I.pos, I.nw⟩
/-- the frame is left -/
theorem out (I : In w s₀ L m news s) (hL : s₀.heap.get? L = none) : Keeps s₀ s := by
  obtain ⟨h, tk, rfl⟩ := I.same
  exact ⟨h, tk, rfl, fun b o e => I.keep b o (fun z => by rw [z, hL] at e; cases e) e⟩
end In

/-- the names of a frame, written out -/
def loc (l : List (Str × Value)) : Str → Option Value := fun x => l.lookup x
def put (x : Str) (v : Value) : List (Str × Value) → List (Str × Value)
  | [] => [(x, v)]
  | (y, u) :: r => if y = x then (x, v) :: r else (y, u) :: put x v r
theorem loc_put (x : Str) (v : Value) : ∀ l : List (Str × Value), (fun y => if y = x then some v else loc l y) = loc (put x v l)
  | [] => by
    funext y
    by_cases h : y = x
    · subst h; simp [loc, put, List.lookup]
    · have : (y == x) = false := by simpa using h
      simp [loc, put, List.lookup, h, this]
  | (z, u) :: r => by
    have ih := loc_put x v r
    funext y
    have ihy := congrFun ih y
    simp only [loc] at ihy ⊢
    by_cases hz : z = x
    · subst hz
      by_cases h : y = z
      · subst h; simp [put, List.lookup]
      · have : (y == z) = false := by simpa using h
        simp [put, List.lookup, h, this]
    · by_cases h : y = x
      · subst h
        have hyz : (y == z) = false := by simpa using fun e => hz e.symm
        simp only [if_true] at ihy
        simp [put, hz, List.lookup, hyz, ← ihy]
      · simp only [h, if_false] at ihy ⊢
        simp only [put, hz, if_false, List.lookup]
        split
        · rfl
        · exact ihy

section
variable {M : Model} {A : Around} {E : Value → Shared → Prop} {w : World} {s₀ s : Shared} {L : Addr} {l : List (Str × Value)} {m : Str → Option Value} {news : List (Addr × Obj)} {env : Env}

theorem st {x : Str} {v : Value} {Q : Unit → Shared → Prop} (I : In w s₀ L (loc l) news s) (h : ∀ s', In w s₀ L (loc (put x v l)) news s' → Q () s')
    (hL : env.locals = L := by rfl) (hl : env.kindOf x = some .local := by rfl) (hp : (env.scope.kind == .class || (env.scope.kind == .module && env.locals != env.globals)) = false := by rfl) :
    wpAny M A (storeName env x v) Q E s := by
  subst hL
  refine wpAny_storeName_local hl I.ns (fun h' hn hs => h _ ?_) hp
  rw [loc_put] at hn
  exact I.put (Nat.le_succ _) hn hs
theorem ldl {x : Str} {v : Value} {pos : Pos} {Q : Value → Shared → Prop} (I : In w s₀ L (loc l) news s) (hv : l.lookup x = some v) (h : Q v s)
    (hL : env.locals = L := by rfl) (hk : env.scope.kind = .function := by rfl) (hl : env.kindOf x = some .local := by rfl) (hd : (x == ("__debug__" : Str)) = false := by decide) :
    wpAny M A (eval (.Name x pos) env) Q E s := by
  subst hL
  exact wpAny_Name (wpAny_loadName_local hk hl I.ns hv h) hd
theorem ldg {x : Str} {v : Value} {pos : Pos} {Q : Value → Shared → Prop} (G : Gnd w s.heap) (e : nsIn (KF w) mainGlobals x = some (some v)) (h : Q v s)
    (hg : env.globals = mainGlobals := by rfl) (hk : env.scope.kind = .function := by rfl) (hx : env.kindOf x = some .globalImplicit := by rfl) (hd : (x == ("__debug__" : Str)) = false := by decide) :
    wpAny M A (eval (.Name x pos) env) Q E s := by
  obtain ⟨mg, hm⟩ := G.g
  exact Name_function_global hk hx (loadGlobal_global (env := env) (by rw [hg]; exact hm) (mg_of G.k hm e) h) hd
theorem ldb {x : Str} {v : Value} {pos : Pos} {Q : Value → Shared → Prop} (G : Gnd w s.heap) (e : nsIn (KF w) mainGlobals x = some none) (hv : bootBuiltins x = some v) (h : Q v s) (hn : x ≠ "__name__" := by decide)
    (hg : env.globals = mainGlobals := by rfl) (hb : env.builtins = builtinsNs := by rfl) (hk : env.scope.kind = .function := by rfl) (hx : env.kindOf x = some .globalImplicit := by rfl) (hd : (x == ("__debug__" : Str)) = false := by decide) :
    wpAny M A (eval (.Name x pos) env) Q E s := by
  obtain ⟨mg, hm⟩ := G.g
  obtain ⟨mb, hbn, hbe⟩ := G.b
  exact Name_function_global hk hx (loadGlobal_builtin (env := env) (by rw [hg]; exact hm) (mg_none_of G.k hm e) (by rw [hb]; exact hbn) ((hbe x hn).trans hv) h) hd
theorem ldc {x : Str} {k : Nat} {pos : Pos} {Q : Value → Shared → Prop} (I : In w s₀ L m news s) (h : ∀ t s', s.toks ≤ t → t < s'.toks → In w s₀ L m news s' → Q (.str x t) s') :
    wpAny M A (eval (.Constant (.str x) k pos) env) Q E s := wpAny_Constant_str (h _ _ (Nat.le_refl _) (Nat.lt_succ_self _) (I.tok (Nat.le_succ _)))
end
end
end Mine

end PartM0

section PartM1
open PySem PySem.W PyProof.Rows PySem.Calls
set_option Elab.async false
set_option maxRecDepth 100000
namespace Mine
noncomputable section

/-- what a def of the text does, told by its call: nothing that stood is changed -/
def Fn (w : World) (f : Addr) (vals : List Value) (post : Shared → Value → Shared → Prop) (s : Shared) : Prop :=
  ∀ A : Around, A.handled = none → A.depth + 8 < recursionLimit → A.units + 60 < cLine →
    wpAny (model pg w) A (call (.ref f) vals) (fun v s' => Keeps s s' ∧ post s v s') (fun _ _ => False) s

theorem enter {w : World} {A : Around} {s : Shared} {a : Addr} {vals : List Value} {binds : List (Str × Value)} {body : List Stmt} {Q : Value → Shared → Prop} {E : Value → Shared → Prop}
    (G : Gnd w s.heap) (ht : 0 < s.toks) (hroom : A.depth < recursionLimit)
    (hbody : (fdAt w a).body = .stmts body) (hbind : bindArgs (fdAt w a) ⟨vals, []⟩ = pure binds) (hloc : (binds.all fun x => decide ((fdAt w a).scope.names.lookup x.1 = some .local)) = true)
    (h : ∀ s₁ L, s.heap.get? L = none → In w s L (loc binds.reverse) [] s₁ →
      wpAny (model pg w) (A.deeper (callEnv (fdAt w a) L a)) (execs body (callEnv (fdAt w a) L a)) (fun f s' => Q (match f with | .ret v => v | _ => .none) s') (fun _ _ => False) s₁)
    (ho : ∃ c d sl, (KF w).lookup a = some ⟨c, d, .func (fdAt w a), sl⟩ := by exact ⟨_, _, _, rfl⟩)
    (hcd : codeIn (KF w) (fdAt w a).code (fdAt w a).qualname = true := by rfl)
    (hcell : ((fdAt w a).scope.names.all fun x => decide (x.2 ≠ .cell)) = true := by rfl)
    (hco : (fdAt w a).scope.isCoroutine = false := by rfl) (hgen : (fdAt w a).scope.isGenerator = false := by rfl) (hk : (fdAt w a).scope.kind = .function := by rfl) :
    wpAny (model pg w) A (call (.ref a) vals) Q E s := by
  obtain ⟨c, d, sl, ho⟩ := ho
  have hfr : s.heap.get? s.heap.objs.size = none := by
    cases e : s.heap.get? s.heap.objs.size with
    | none => rfl
    | some o => exact absurd (Heap.lt_size e) (Nat.lt_irrefl _)
  refine wpAny_call (codeAny_call_plain hroom (G.k a _ ho) rfl G.c (codeRec_of G.k hcd) hbody hbind
    (fun x hx => of_decide_eq_true (List.all_eq_true.mp hcell x hx)) (fun x hx => of_decide_eq_true (List.all_eq_true.mp hloc x hx)) (fun h₀ hns keep => ?_) hco hgen hk)
  refine wpAny_mono (h _ s.heap.objs.size hfr ⟨⟨h₀, _, rfl⟩, fun b o _ e => keep b o e, hns, G.keeps keep, G.size, Nat.le_add_right _ _, ht, fun p hp => nomatch hp⟩) (fun f s' h' => ?_) (fun _ _ x => x.elim)
  cases f <;> exact h'

section
variable {A : Around} {E : Value → Shared → Prop} {w : World} {s₀ s : Shared} {L : Addr} {l : List (Str × Value)} {news : List (Addr × Obj)} {env : Env}

/-- x.replace('..', '..') upon a name -/
theorem ev_replace {y cs zs : Str} {x c z : List Nat} {t : Tok} {k1 k2 : Nat} {p4 p5 p6 p7 p8 : Pos} {Q : Value → Shared → Prop} (I : In w s₀ L (loc l) news s) (hv : l.lookup y = some (.str (S x) t))
    (hc : cs = S c) (hz : zs = S z) (hne : c ≠ z) (hc0 : c ≠ []) (hx : x.length ≤ 100000) (hzl : z.length ≤ 14)
    (h : ∀ t' s', In w s₀ L (loc l) news s' → Q (.str (S (rpl c z x)) t') s')
    (hL : env.locals = L := by rfl) (hk : env.scope.kind = .function := by rfl) (hl : env.kindOf y = some .local := by rfl) (hd : (y == ("__debug__" : Str)) = false := by decide) (hline : (p5.endLine == p8.line) = true := by rfl) :
    wpAny (model pg w) A (eval (.Call (.Attribute (.Name y p4) (Str.ofString "replace") p5) [.Constant (.str cs) k1 p6, .Constant (.str zs) k2 p7] [] p8) env) Q E s := by
  subst hc hz
  refine Call_method2 rfl rfl hline (ldl I hv ?_ hL hk hl hd)
  refine ⟨"str", _, F.plainAttrs_str, F.slot_str_replace, F.type_str_replace, typeIs_str _ _ _, (fun _ e => nomatch e), ?_⟩
  refine callWith_builtin rfl (evalArgs_plain (spliced_cons (ldc I fun u s₁ hu1 hu2 I₁ => spliced_cons (ldc I₁ fun v s₂ hv1 hv2 I₂ => spliced_nil ?_))))
  have hu0 : u ≠ 0 := Nat.ne_of_gt (Nat.lt_of_lt_of_le I.pos hu1)
  have huv : u < v := Nat.lt_of_lt_of_le hu2 hv1
  refine wpAny_with_toks (n := s₂.toks) (Nat.le_refl _) (SC.replace hu0 (Nat.ne_of_gt (Nat.lt_of_le_of_lt (Nat.zero_le _) huv)) (Nat.ne_of_lt huv) ?_ ?_ fun t' k ht => ?_)
  · cases e : S c == S z with
    | false => rfl
    | true => exact absurd (S_inj (eq_of_beq e)) hne
  · rw [S_length, S_length]
    have h1 : (x.length + 1) * z.length ≤ (x.length + 1) * 14 := Nat.mul_le_mul_left _ hzl
    omega
  · rw [replace_S x c z hc0]
    exact h t' _ (I₂.tok ht)
end
end
end Mine

end PartM1

section PartM2
open PySem PySem.W PyProof.Rows PySem.Calls
set_option Elab.async false
set_option maxRecDepth 100000
namespace Mine
noncomputable section

theorem rpl_one (c : Nat) (z x : List Nat) : rpl [c] z x = rep1 c z x := S_inj (by rw [← replace_S x [c] z (by simp), replace_S1])
/-- the escape by a table -/
def escBy (T : List (Nat × List Nat)) (x : List Nat) : List Nat := x.flatMap fun k => (T.lookup k).getD [k]
def freeOf (c : Nat) (T : List (Nat × List Nat)) : Bool := T.all fun p => p.1 != c && !p.2.contains c
theorem lookup_snoc (T : List (Nat × List Nat)) (c k : Nat) (r : List Nat) : (T ++ [(c, r)]).lookup k = ((T.lookup k).or (if k = c then some r else none)) := by
  induction T with
  | nil =>
    by_cases h : k = c
    · subst h; simp [List.lookup]
    · have : (k == c) = false := by simpa using h
      simp [List.lookup, this, h]
  | cons p T ih =>
    obtain ⟨a, z⟩ := p
    simp only [List.cons_append, List.lookup]
    split
    · rfl
    · exact ih
theorem lookup_mem {T : List (Nat × List Nat)} {k : Nat} {z : List Nat} (h : T.lookup k = some z) : (k, z) ∈ T := by
  induction T with
  | nil => cases h
  | cons p T ih =>
    obtain ⟨a, y⟩ := p
    simp only [List.lookup] at h
    split at h
    · rename_i e
      rw [beq_iff_eq.mp e]
      cases h
      exact .head _
    · exact .tail _ (ih h)
theorem rep1_esc (T : List (Nat × List Nat)) (c : Nat) (r x : List Nat) (hf : freeOf c T = true) : rep1 c r (escBy T x) = escBy (T ++ [(c, r)]) x := by
  have one : ∀ k, rep1 c r ((T.lookup k).getD [k]) = ((T ++ [(c, r)]).lookup k).getD [k] := by
    intro k
    rw [lookup_snoc]
    cases e : T.lookup k with
    | none =>
      by_cases h : k = c
      · subst h; simp [rep1]
      · simp [rep1, h]
    | some z =>
      have := List.all_eq_true.mp hf _ (lookup_mem e)
      simp only [Bool.and_eq_true, Bool.not_eq_true'] at this
      have hz : c ∉ z := by
        intro hm
        have h2 := this.2
        rw [List.contains_iff_mem.mpr hm] at h2
        cases h2
      simp [rep1_free c r z hz]
  unfold escBy
  induction x with
  | nil => rfl
  | cons k x ih =>
    rw [List.flatMap_cons, List.flatMap_cons, rep1_append, one, ih]
theorem escBy_nil (x : List Nat) : escBy [] x = x := by simp [escBy]
theorem escBy_le (T : List (Nat × List Nat)) (hT : (T.all fun p => decide (p.2.length ≤ 6)) = true) (x : List Nat) : (escBy T x).length ≤ 6 * x.length := by
  induction x with
  | nil => simp [escBy]
  | cons k x ih =>
    have : ((T.lookup k).getD [k]).length ≤ 6 := by
      cases e : T.lookup k with
      | none => simp
      | some z => exact of_decide_eq_true (List.all_eq_true.mp hT _ (lookup_mem e))
    simp only [escBy, List.flatMap_cons, List.length_append, List.length_cons] at ih ⊢
    omega

theorem loc_put_same {x : Str} {v : Value} {l : List (Str × Value)} (h : l.lookup x = some v) : loc (put x v l) = loc l := by
  rw [← loc_put]
  funext y
  by_cases e : y = x
  · subst e; simp [loc, h]
  · simp [e]
theorem lookup_put (x : Str) (v : Value) (l : List (Str × Value)) : (put x v l).lookup x = some v := by
  have := congrFun (loc_put x v l) x
  simpa [loc] using this.symm

section
variable {A : Around} {E : Value → Shared → Prop} {w : World} {s₀ s : Shared} {L : Addr} {l : List (Str × Value)} {news : List (Addr × Obj)} {env : Env}

theorem rep_stmt {n y cs zs : Str} {x c z : List Nat} {t : Tok} {k1 k2 : Nat} {p3 p4 p5 p6 p7 p8 p9 : Pos} {Q : Flow → Shared → Prop} (I : In w s₀ L (loc l) news s) (hv : l.lookup y = some (.str (S x) t))
    (hx : x.length ≤ 100000)
    (h : ∀ t' s', In w s₀ L (loc (put n (.str (S (rpl c z x)) t') l)) news s' → Q .next s')
    (hc : cs = S c) (hz : zs = S z) (hne : c ≠ z) (hc0 : c ≠ [])  (hzl : z.length ≤ 14)
    (hL : env.locals = L := by rfl) (hk : env.scope.kind = .function := by rfl) (hl : env.kindOf y = some .local := by rfl) (hd : (y == ("__debug__" : Str)) = false := by decide) (hline : (p5.endLine == p8.line) = true := by rfl)
    (hln : env.kindOf n = some .local := by rfl) (hp : (env.scope.kind == .class || (env.scope.kind == .module && env.locals != env.globals)) = false := by rfl) :
    wpAny (model pg w) A (exec (.Assign [.Name n p3] (.Call (.Attribute (.Name y p4) (Str.ofString "replace") p5) [.Constant (.str cs) k1 p6, .Constant (.str zs) k2 p7] [] p8) p9) env) Q E s := by
  refine wpAny_Assign_Name (ev_replace I hv hc hz hne hc0 hx hzl (fun t' s' I' => ?_) hL hk hl hd hline)
  exact st I' (fun s'' I'' => h t' s'' I'') hL hln hp

theorem esc_stmt {n cs zs : Str} {x z : List Nat} {c : Nat} {t : Tok} {k0 k1 k2 : Nat} {p0 p1 p2 p3 p4 p5 p6 p7 p8 p9 p10 : Pos} {Q : Flow → Shared → Prop} (I : In w s₀ L (loc l) news s) (hv : l.lookup n = some (.str (S x) t))
    (hx : x.length ≤ 100000)
    (h : ∀ t' s', In w s₀ L (loc (put n (.str (S (rep1 c z x)) t') l)) news s' → Q .next s')
    (hc : cs = S [c]) (hz : zs = S z) (hne : [c] ≠ z) (hzl : z.length ≤ 14)
    (hL : env.locals = L := by rfl) (hk : env.scope.kind = .function := by rfl) (hd : (n == ("__debug__" : Str)) = false := by decide) (hline : (p5.endLine == p8.line) = true := by rfl)
    (hln : env.kindOf n = some .local := by rfl) (hp : (env.scope.kind == .class || (env.scope.kind == .module && env.locals != env.globals)) = false := by rfl) :
    wpAny (model pg w) A (exec (.If (.Compare (.Constant (.str cs) k0 p0) [.In] [.Name n p1] p2) [.Assign [.Name n p3] (.Call (.Attribute (.Name n p4) (Str.ofString "replace") p5) [.Constant (.str cs) k1 p6, .Constant (.str zs) k2 p7] [] p8) p9] [] p10) env) Q E s := by
  refine wpAny_If (wpAny_isTrue_Compare1 (ldc I fun u s₁ _ _ I₁ => ldl I₁ hv ?_ hL hk hln hd))
  rw [hc]
  refine SB.contains (wpAny_truthy_bool ?_)
  rw [contains_S]
  by_cases hm : c ∈ x
  · rw [decide_eq_true hm, if_pos rfl]
    refine wpAny_execs_cons (rep_stmt (c := [c]) I₁ hv hx (fun t' s' I' => ?_) rfl hz hne (by simp) hzl hL hk hln hd hline hln hp)
    rw [rpl_one] at I'
    exact wpAny_execs_nil (h t' s' I')
  · rw [decide_eq_false hm, if_neg Bool.false_ne_true]
    refine wpAny_execs_nil (h t _ ?_)
    rw [rep1_free c z x hm]
    exact I₁.congr (loc_put_same hv).symm
end

/-- the five tables -/
def T1 : List (Nat × List Nat) := [(38, [38, 97, 109, 112, 59]), (60, [38, 108, 116, 59]), (62, [38, 103, 116, 59])]
def T2 : List (Nat × List Nat) := [(38, [38, 97, 109, 112, 59]), (60, [38, 108, 116, 59]), (62, [38, 103, 116, 59]), (34, [38, 113, 117, 111, 116, 59]), (13, [38, 35, 49, 51, 59]), (10, [38, 35, 49, 48, 59]), (9, [38, 35, 48, 57, 59])]
def T3 : List (Nat × List Nat) := [(38, [38, 97, 109, 112, 59]), (62, [38, 103, 116, 59]), (34, [38, 113, 117, 111, 116, 59])]
def T4 : List (Nat × List Nat) := [(38, [38, 97, 109, 112, 59]), (60, [38, 108, 116, 59]), (62, [38, 103, 116, 59]), (13, [38, 35, 120, 68, 59])]
def T5 : List (Nat × List Nat) := [(38, [38, 97, 109, 112, 59]), (60, [38, 108, 116, 59]), (34, [38, 113, 117, 111, 116, 59]), (9, [38, 35, 120, 57, 59]), (10, [38, 35, 120, 65, 59]), (13, [38, 35, 120, 68, 59])]


section
variable {A : Around} {E : Value → Shared → Prop} {w : World} {s₀ s : Shared} {L : Addr} {l : List (Str × Value)} {news : List (Addr × Obj)} {env : Env}
theorem esc_next {n cs zs : Str} {x z : List Nat} {c : Nat} (T : List (Nat × List Nat)) {t : Tok} {k0 k1 k2 : Nat} {p0 p1 p2 p3 p4 p5 p6 p7 p8 p9 p10 : Pos} {rest : List Stmt} {Q : Flow → Shared → Prop} (I : In w s₀ L (loc l) news s) (hx : x.length ≤ 10000)
    (hv : l.lookup n = some (.str (S (escBy T x)) t))
    (h : ∀ t' s', In w s₀ L (loc (put n (.str (S (escBy (T ++ [(c, z)]) x)) t') l)) news s' → wpAny (model pg w) A (execs rest env) Q E s')
    (hc : cs = S [c]) (hz : zs = S z) (hT : (T.all fun p => decide (p.2.length ≤ 6)) = true := by decide) (hf : freeOf c T = true := by decide) (hne : [c] ≠ z := by decide) (hzl : z.length ≤ 14 := by decide)
    (hL : env.locals = L := by rfl) (hk : env.scope.kind = .function := by rfl) (hd : (n == ("__debug__" : Str)) = false := by decide) (hline : (p5.endLine == p8.line) = true := by rfl)
    (hln : env.kindOf n = some .local := by rfl) (hp : (env.scope.kind == .class || (env.scope.kind == .module && env.locals != env.globals)) = false := by rfl) :
    wpAny (model pg w) A (execs (.If (.Compare (.Constant (.str cs) k0 p0) [.In] [.Name n p1] p2) [.Assign [.Name n p3] (.Call (.Attribute (.Name n p4) (Str.ofString "replace") p5) [.Constant (.str cs) k1 p6, .Constant (.str zs) k2 p7] [] p8) p9] [] p10 :: rest) env) Q E s := by
  have hle := escBy_le T hT x
  refine wpAny_execs_cons (esc_stmt I hv (by omega) (fun t' s' I' => ?_) hc hz hne hzl hL hk hd hline hln hp)
  rw [rep1_esc T c z x hf] at I'
  exact h t' s' I'
theorem ret_name {n : Str} {v : Value} {p q : Pos} {rest : List Stmt} {Q : Flow → Shared → Prop} (I : In w s₀ L (loc l) news s) (hv : l.lookup n = some v) (h : Q (.ret v) s)
    (hL : env.locals = L := by rfl) (hk : env.scope.kind = .function := by rfl) (hln : env.kindOf n = some .local := by rfl) (hd : (n == ("__debug__" : Str)) = false := by decide) :
    wpAny (model pg w) A (execs (.Return (some (.Name n p)) q :: rest) env) Q E s := wpAny_execs_cons (wpAny_Return_some (ldl I hv h hL hk hln hd))
end

theorem esc1 {w : World} {s : Shared} {x : List Nat} {t : Tok} (G : Gnd w s.heap) (ht : 0 < s.toks) (hx : x.length ≤ 10000) :
    Fn w 35 [.str (S x) t] (fun _ v _ => ∃ t', v = .str (S (escBy T1 x)) t') s := by
  intro A hh hd hu
  refine enter (binds := [("text", .str (S x) t)]) G ht (by omega) rfl rfl rfl fun s₁ L hL I => ?_
  refine wpAny_execs_cons (wpAny_Try_except ?_)
  refine esc_next [] (c := 38) (z := [38, 97, 109, 112, 59]) I hx (by rw [escBy_nil]; rfl) (fun t₁ s₁ I => ?_) (by decide +kernel) (by decide +kernel)
  refine esc_next _ (c := 60) (z := [38, 108, 116, 59]) I hx (lookup_put ..) (fun t₁ s₁ I => ?_) (by decide +kernel) (by decide +kernel)
  refine esc_next _ (c := 62) (z := [38, 103, 116, 59]) I hx (lookup_put ..) (fun t₁ s₁ I => ?_) (by decide +kernel) (by decide +kernel)
  exact ret_name I (lookup_put ..) ⟨I.out hL, _, rfl⟩
theorem esc2 {w : World} {s : Shared} {x : List Nat} {t : Tok} (G : Gnd w s.heap) (ht : 0 < s.toks) (hx : x.length ≤ 10000) :
    Fn w 42 [.str (S x) t] (fun _ v _ => ∃ t', v = .str (S (escBy T2 x)) t') s := by
  intro A hh hd hu
  refine enter (binds := [("text", .str (S x) t)]) G ht (by omega) rfl rfl rfl fun s₁ L hL I => ?_
  refine wpAny_execs_cons (wpAny_Try_except ?_)
  refine esc_next [] (c := 38) (z := [38, 97, 109, 112, 59]) I hx (by rw [escBy_nil]; rfl) (fun t₁ s₁ I => ?_) (by decide +kernel) (by decide +kernel)
  refine esc_next _ (c := 60) (z := [38, 108, 116, 59]) I hx (lookup_put ..) (fun t₁ s₁ I => ?_) (by decide +kernel) (by decide +kernel)
  refine esc_next _ (c := 62) (z := [38, 103, 116, 59]) I hx (lookup_put ..) (fun t₁ s₁ I => ?_) (by decide +kernel) (by decide +kernel)
  refine esc_next _ (c := 34) (z := [38, 113, 117, 111, 116, 59]) I hx (lookup_put ..) (fun t₁ s₁ I => ?_) (by decide +kernel) (by decide +kernel)
  refine esc_next _ (c := 13) (z := [38, 35, 49, 51, 59]) I hx (lookup_put ..) (fun t₁ s₁ I => ?_) (by decide +kernel) (by decide +kernel)
  refine esc_next _ (c := 10) (z := [38, 35, 49, 48, 59]) I hx (lookup_put ..) (fun t₁ s₁ I => ?_) (by decide +kernel) (by decide +kernel)
  refine esc_next _ (c := 9) (z := [38, 35, 48, 57, 59]) I hx (lookup_put ..) (fun t₁ s₁ I => ?_) (by decide +kernel) (by decide +kernel)
  exact ret_name I (lookup_put ..) ⟨I.out hL, _, rfl⟩
theorem esc3 {w : World} {s : Shared} {x : List Nat} {t : Tok} (G : Gnd w s.heap) (ht : 0 < s.toks) (hx : x.length ≤ 10000) :
    Fn w 49 [.str (S x) t] (fun _ v _ => ∃ t', v = .str (S (escBy T3 x)) t') s := by
  intro A hh hd hu
  refine enter (binds := [("text", .str (S x) t)]) G ht (by omega) rfl rfl rfl fun s₁ L hL I => ?_
  refine wpAny_execs_cons (wpAny_Try_except ?_)
  refine esc_next [] (c := 38) (z := [38, 97, 109, 112, 59]) I hx (by rw [escBy_nil]; rfl) (fun t₁ s₁ I => ?_) (by decide +kernel) (by decide +kernel)
  refine esc_next _ (c := 62) (z := [38, 103, 116, 59]) I hx (lookup_put ..) (fun t₁ s₁ I => ?_) (by decide +kernel) (by decide +kernel)
  refine esc_next _ (c := 34) (z := [38, 113, 117, 111, 116, 59]) I hx (lookup_put ..) (fun t₁ s₁ I => ?_) (by decide +kernel) (by decide +kernel)
  exact ret_name I (lookup_put ..) ⟨I.out hL, _, rfl⟩
theorem esc4 {w : World} {s : Shared} {x : List Nat} {t : Tok} (G : Gnd w s.heap) (ht : 0 < s.toks) (hx : x.length ≤ 10000) :
    Fn w 56 [.str (S x) t] (fun _ v _ => ∃ t', v = .str (S (escBy T4 x)) t') s := by
  intro A hh hd hu
  refine enter (binds := [("text", .str (S x) t)]) G ht (by omega) rfl rfl rfl fun s₁ L hL I => ?_
  refine wpAny_execs_cons (wpAny_Try_except ?_)
  refine esc_next [] (c := 38) (z := [38, 97, 109, 112, 59]) I hx (by rw [escBy_nil]; rfl) (fun t₁ s₁ I => ?_) (by decide +kernel) (by decide +kernel)
  refine esc_next _ (c := 60) (z := [38, 108, 116, 59]) I hx (lookup_put ..) (fun t₁ s₁ I => ?_) (by decide +kernel) (by decide +kernel)
  refine esc_next _ (c := 62) (z := [38, 103, 116, 59]) I hx (lookup_put ..) (fun t₁ s₁ I => ?_) (by decide +kernel) (by decide +kernel)
  refine esc_next _ (c := 13) (z := [38, 35, 120, 68, 59]) I hx (lookup_put ..) (fun t₁ s₁ I => ?_) (by decide +kernel) (by decide +kernel)
  exact ret_name I (lookup_put ..) ⟨I.out hL, _, rfl⟩
theorem esc5 {w : World} {s : Shared} {x : List Nat} {t : Tok} (G : Gnd w s.heap) (ht : 0 < s.toks) (hx : x.length ≤ 10000) :
    Fn w 63 [.str (S x) t] (fun _ v _ => ∃ t', v = .str (S (escBy T5 x)) t') s := by
  intro A hh hd hu
  refine enter (binds := [("text", .str (S x) t)]) G ht (by omega) rfl rfl rfl fun s₁ L hL I => ?_
  refine wpAny_execs_cons (wpAny_Try_except ?_)
  refine esc_next [] (c := 38) (z := [38, 97, 109, 112, 59]) I hx (by rw [escBy_nil]; rfl) (fun t₁ s₁ I => ?_) (by decide +kernel) (by decide +kernel)
  refine esc_next _ (c := 60) (z := [38, 108, 116, 59]) I hx (lookup_put ..) (fun t₁ s₁ I => ?_) (by decide +kernel) (by decide +kernel)
  refine esc_next _ (c := 34) (z := [38, 113, 117, 111, 116, 59]) I hx (lookup_put ..) (fun t₁ s₁ I => ?_) (by decide +kernel) (by decide +kernel)
  refine esc_next _ (c := 9) (z := [38, 35, 120, 57, 59]) I hx (lookup_put ..) (fun t₁ s₁ I => ?_) (by decide +kernel) (by decide +kernel)
  refine esc_next _ (c := 10) (z := [38, 35, 120, 65, 59]) I hx (lookup_put ..) (fun t₁ s₁ I => ?_) (by decide +kernel) (by decide +kernel)
  refine esc_next _ (c := 13) (z := [38, 35, 120, 68, 59]) I hx (lookup_put ..) (fun t₁ s₁ I => ?_) (by decide +kernel) (by decide +kernel)
  exact ret_name I (lookup_put ..) ⟨I.out hL, _, rfl⟩

end
end Mine

end PartM2

section PartFL
open PySem PySem.Calls
set_option Elab.async false
set_option maxRecDepth 100000
namespace Mine

/- filter(len, (texts)): what the library lacks -/
theorem sl_filter_iter : Slot "filter" "__iter__" "filter.__iter__" :=
  .of (owner := "filter") (n := "__iter__") (by rw [typeLookup_type, builtinLookup_eq_fast]; kernel_rfl) (by decide +kernel) (by decide +kernel) (by decide +kernel)
    (by first | exact .inl (by decide +kernel) | exact .inr (by decide +kernel)) (by rw [isSubtype_type]; kernel_rfl)
theorem sl_filter_next : Slot "filter" "__next__" "filter.__next__" :=
  .of (owner := "filter") (n := "__next__") (by rw [typeLookup_type, builtinLookup_eq_fast]; kernel_rfl) (by decide +kernel) (by decide +kernel) (by decide +kernel)
    (by first | exact .inl (by decide +kernel) | exact .inr (by decide +kernel)) (by rw [isSubtype_type]; kernel_rfl)
theorem sl_filter_init : Slot "filter" "__init__" "object.__init__" :=
  .of (owner := "object") (n := "__init__") (by rw [typeLookup_type, builtinLookup_eq_fast]; kernel_rfl) (by decide +kernel) (by decide +kernel) (by decide +kernel)
    (by first | exact .inl (by decide +kernel) | exact .inr (by decide +kernel)) (by rw [isSubtype_type]; kernel_rfl)
theorem ow_filter : Manifest.owners.lookup (String.ofList ['r', 'e', 't', 'l', 'i', 'f'].reverse) = some Manifest.sig_filter := by kernel_rfl
theorem ar_filter_iter (a : Value) : argsOk "filter.__iter__" ⟨[a], []⟩ := by
  unfold argsOk; rw [signature?_of (id := "filter.__iter__") (n := ['_', '_', 'r', 'e', 't', 'i', '_', '_']) (o := ['r', 'e', 't', 'l', 'i', 'f']) (by kernel_rfl) ow_filter]; kernel_rfl
theorem ar_filter_next (a : Value) : argsOk "filter.__next__" ⟨[a], []⟩ := by
  unfold argsOk; rw [signature?_of (id := "filter.__next__") (n := ['_', '_', 't', 'x', 'e', 'n', '_', '_']) (o := ['r', 'e', 't', 'l', 'i', 'f']) (by kernel_rfl) ow_filter]; kernel_rfl
theorem en_filter_next : entryFor table "filter.__next__" = some Builtin.«filter.__next__» := entryFor_of_tree (by kernel_rfl)
theorem en_filter_new : entryFor table "filter.__new__" = some Builtin.«filter.__new__» := entryFor_of_tree (by kernel_rfl)
theorem en_filter_iter : entryFor table "filter.__iter__" = some Builtin.«dict_keyiterator.__iter__» :=
  entryFor_alias (id' := "dict_keyiterator.__iter__") (by kernel_rfl) (by first | rfl | decide +kernel | (unfold String.splitOn; simp +decide [String.splitOnAux])) (by decide +kernel) (by kernel_rfl)
theorem mro_filter : mroOf (.type "filter") = pure [.type "filter", .type "object"] := by rw [mroOf_type]; kernel_rfl
theorem lk_filter_new : typeLookup (.type "filter") "__new__" = pure (some (.builtin "filter.__new__")) := by rw [typeLookup_type, builtinLookup_eq_fast]; kernel_rfl
theorem cd_filter : TypeCalled "filter" "filter.__new__" "object.__init__" :=
  ⟨by decide +kernel, by decide +kernel, ⟨_, _, mro_filter⟩, madeBy_type mro_filter lk_filter_new (by decide +kernel), by decide +kernel, by rw [isSubtype_type]; kernel_rfl, sl_filter_init⟩
theorem tc_filter (a b : Value) : checkTypeCall "filter" ⟨[a, b], []⟩ = pure () := by kernel_rfl
theorem nc_filter (a b : Value) : checkBuiltinCall "filter.__new__" ⟨[.type "filter", a, b], []⟩ = pure () := by kernel_rfl
theorem sub_filter : isSubtype (.type "filter") (.type "filter") = pure true := by rw [isSubtype_type]; kernel_rfl

abbrev filterObj (it : Addr) : Obj := { cls := .type "filter", dict := none, data := .fields #[.builtin "len", .ref it], slots := #[] }
abbrev tupIter (t : Addr) : Obj := { cls := .type "tuple_iterator", data := .fields #[.ref t, .int 0 0] }
abbrev IsFilter (h : Heap) (f it : Addr) : Prop := h.get? f = some (filterObj it)

theorem meets_filter_new (T : Addr) (xs : Array Value) :
    Meets (Builtin.«filter.__new__» ⟨[.type "filter", .builtin "len", .ref T], []⟩) (fun _ R s => s.heap.IsTuple T xs ∧
      R (.ok (.ret (.ref (s.heap.push (tupIter T)).objs.size))) { s with heap := (s.heap.push (tupIter T)).push (filterObj s.heap.objs.size) }) :=
  .of_wp fun prog w A R s h => by
    obtain ⟨hp, g, d, tk, os⟩ := s; obtain ⟨hl1, h⟩ := h
    have hsub := sub_filter
    have hL1 : Heap.IsTuple (Shared.heap ⟨hp, g, d, tk, os⟩) T xs := hl1
    wp_walk using wpAny_pyIter_tuple hL1
    exact ⟨_, rfl, h⟩

section
variable {prog : Program} {w : World} {A : Around} {E : Value → Shared → Prop} {s : Shared}
theorem call_filter {T : Addr} {xs : Array Value} {Q : Value → Shared → Prop} (hl : s.heap.IsTuple T xs)
    (h : Q (.ref (s.heap.objs.size + 1)) { s with heap := (s.heap.push (tupIter T)).push (filterObj s.heap.objs.size) }) :
    wpAny (model prog w) A (call (.type "filter") [.builtin "len", .ref T]) Q E s := by
  refine callType_new cd_filter (by decide) (tc_filter _ _) (nc_filter _ _) (fun obj => F.args_object_init_3 obj _ _) en_filter_new (meets_filter_new T xs) ⟨hl, ?_⟩
  show _ ∧ _
  have z1 : (s.heap.push (tupIter T)).objs.size = s.heap.objs.size + 1 := Heap.size_push ..
  refine ⟨⟨_, Heap.get?_push_size _ rfl, rfl⟩, ?_⟩
  rw [z1]
  exact h

theorem tup_next_item {it t : Addr} {i : Nat} {items} {x : Value} {Q : Option Value → Shared → Prop} (hit : s.heap.IsTupleIter it t i)
    (ht : s.heap.IsTuple t items) (hx : items[i]? = some x)
    (hQ : ∀ h', h'.IsTupleIter it t (i + 1) → Heap.SameBut it s.heap h' → Q (some x) { s with heap := h' }) :
    wpAny (model prog w) A (callSpecial? (.ref it) (Str.ofString "__next__")) Q E s := by
  obtain ⟨o, ho, hc, hd⟩ := id hit
  obtain ⟨ol, hol, _, nl, hdl⟩ := ht
  refine wpAny_callSpecial?_slot (name := Str.ofString "__next__") hit.typeIs F.slot_tuple_iterator_next
    (wpAny_call_entry F.slot_tuple_iterator_next hit.typeIs F.entry_tuple_iterator_next ?_ (F.args_tuple_iterator_next_1 _))
  show wpAny _ _ (field (.ref it) 0 >>= _) _ _ s
  refine wpAny_bind (wpAny_field ho hd (x := .ref t) rfl ?_)
  show wpAny _ _ (if (Value.ref t == Value.none) = true then _ else _) _ _ s
  rw [if_neg (show ¬ ((Value.ref t == Value.none) = true) from Bool.false_ne_true)]
  show wpAny _ _ (field (.ref it) 1 >>= _) _ _ s
  refine wpAny_bind (wpAny_field ho hd (x := .int i 0) rfl ?_)
  show wpAny _ _ (seqItems? (.ref t) >>= _) _ _ s
  refine wpAny_bind (wpAny_seqItems hol hdl ?_)
  simp only [Int.toNat_natCast, hx]
  refine wpAny_bind (wpAny_setField ho hd (by simp) (wpAny_pure ⟨x, rfl, hQ _ ?_ (Heap.SameBut.update ..)⟩))
  exact ⟨_, Heap.get?_update_self _ ho (Obj.isFreed_of_fields (Obj.data_mapFields hd _)), (Obj.cls_mapFields ..).trans hc, by
    rw [Obj.data_mapFields hd]; simp [rawInt]⟩

theorem tup_next_end {it t : Addr} {i : Nat} {items} {Q : Option Value → Shared → Prop} (hh : A.handled = none)
    (hit : s.heap.IsTupleIter it t i) (ht : s.heap.IsTuple t items) (hx : items[i]? = none)
    (hE : ∀ h' e, Heap.ExtBut it s.heap h' → (∃ o, h'.get? e = some o ∧ o.cls = .type "StopIteration") → E (.ref e) { s with heap := h' }) :
    wpAny (model prog w) A (callSpecial? (.ref it) (Str.ofString "__next__")) Q E s := by
  obtain ⟨o, ho, hc, hd⟩ := id hit
  obtain ⟨ol, hol, _, nl, hdl⟩ := ht
  refine wpAny_callSpecial?_slot (name := Str.ofString "__next__") hit.typeIs F.slot_tuple_iterator_next
    (wpAny_call_entry F.slot_tuple_iterator_next hit.typeIs F.entry_tuple_iterator_next ?_ (F.args_tuple_iterator_next_1 _))
  show wpAny _ _ (field (.ref it) 0 >>= _) _ _ s
  refine wpAny_bind (wpAny_field ho hd (x := .ref t) rfl ?_)
  show wpAny _ _ (if (Value.ref t == Value.none) = true then _ else _) _ _ s
  rw [if_neg (show ¬ ((Value.ref t == Value.none) = true) from Bool.false_ne_true)]
  show wpAny _ _ (field (.ref it) 1 >>= _) _ _ s
  refine wpAny_bind (wpAny_field ho hd (x := .int i 0) rfl ?_)
  show wpAny _ _ (seqItems? (.ref t) >>= _) _ _ s
  refine wpAny_bind (wpAny_seqItems hol hdl ?_)
  simp only [Int.toNat_natCast, hx]
  refine wpAny_bind (wpAny_rule (wpAny_bind (wpAny_setField ho hd (by simp) ?_)))
  show wpAny _ _ (newExc (.type "StopIteration") [] >>= _) _ _ _
  refine wpAny_bind ?_
  simp only [newExc, newTuple]
  refine wpAny_bind (wpAny_newObj_type ?_ (by size_fits))
  refine wpAny_bind (m := firstArgMember _ _) (wpAny_of_eq (a := Value.none) (by first | rfl | (simp only [firstArgMember]; rfl)) ?_)
  refine wpAny_newObj_type ?_ (by size_fits)
  simp only [raiseNew]
  refine wpAny_bind (wpAny_handled ?_)
  first | rw [show A.in1.handled = none from hh] | rw [hh]
  refine wpAny_bind (wpAny_pure (wpAny_throw ?_))
  exact hE _ _ (((Heap.SameBut.update ..).extBut.push _).push _) ⟨_, Heap.get?_push_size _ rfl, rfl⟩
end

/-- the items from the i-th on; the place behind the next one that is no empty text -/
structure Texts (items : Array Value) (xs : List Str) : Prop where
  n : items.size = xs.length
  at_ : ∀ i (h : i < xs.length), ∃ t, items[i]? = some (.str xs[i] t)

section
variable {prog : Program} {w : World} {A : Around} {s : Shared}
theorem filter_next {f it t : Addr} {items : Array Value} {xs : List Str} (X : Texts items xs) (hl : ∀ x ∈ xs, x.length < 2 ^ 62) (hft : f ≠ it) (htt : t ≠ it) (R : Result → Shared → Prop) (hh : A.handled = none) :
    ∀ (n i : Nat) (s : Shared), xs.length - i = n → IsFilter s.heap f it → s.heap.IsTupleIter it t i → s.heap.IsTuple t items →
      (∀ j (h : j < xs.length) h' tk u, i ≤ j → (∀ k (hk : k < xs.length), i ≤ k → k < j → xs[k].length = 0) → xs[j].length ≠ 0 → h'.IsTupleIter it t (j + 1) → Heap.ExtBut it s.heap h' → R (.ok (.ret (.str xs[j] u))) { s with heap := h', toks := tk }) →
      ((∀ k (hk : k < xs.length), i ≤ k → xs[k].length = 0) → ∀ h' tk e, Heap.ExtBut it s.heap h' → (∃ o, h'.get? e = some o ∧ o.cls = .type "StopIteration") → R (.error (.ref e)) { s with heap := h', toks := tk }) →
      wpAny (model prog w) A.in1 (Builtin.«filter.__next__» ⟨[.ref f], []⟩) (fun fin s' => match fin with | .done f => R (.ok f) s' | .again c' => c'.quiet = true ∧ codeAny (model prog w) A c' R s') (fun e s' => R (.error e) s') s := by
  intro n
  induction n with
  | zero =>
    intro i s hn hf hit ht _ hE
    show wpAny _ _ (field (.ref f) 0 >>= _) _ _ s
    refine wpAny_bind (wpAny_field hf rfl (x := .builtin "len") rfl ?_)
    refine wpAny_bind (wpAny_field hf rfl (x := .ref it) rfl ?_)
    refine wpAny_bind (tup_next_end hh hit ht (by rw [Array.getElem?_eq_none]; rw [X.n]; omega) fun h' e hx he => ?_)
    exact hE (fun k hk hik => by omega) h' s.toks e hx he
  | succ n ih =>
    intro i s hn hf hit ht hR hE
    have hlt : i < xs.length := by omega
    obtain ⟨u, hu⟩ := X.at_ i hlt
    show wpAny _ _ (field (.ref f) 0 >>= _) _ _ s
    refine wpAny_bind (wpAny_field hf rfl (x := .builtin "len") rfl ?_)
    refine wpAny_bind (wpAny_field hf rfl (x := .ref it) rfl ?_)
    refine wpAny_bind (tup_next_item hit ht hu fun h' hit' hs' => ?_)
    show wpAny _ _ (holding [Value.str xs[i] u] (do let good ← call (Value.builtin "len") [Value.str xs[i] u]; holding [good] (truthy good)) >>= fun keep => if keep = true then ret (Value.str xs[i] u) else again (.builtin "filter.__next__" ⟨[.ref f], []⟩)) _ _ _
    have hl1 : xs[i].length < 2 ^ 62 := hl _ (List.getElem_mem hlt)
    refine wpAny_bind (wpAny_holding (wpAny_bind (P.len_str (by omega) (wpAny_holding ?_))))
    refine P.truthy_int ?_
    · by_cases h0 : xs[i].length = 0
      · rw [show (((xs[i].length : Nat) : Int) != 0) = false by rw [h0]; rfl]
        show wpAny _ _ (again (.builtin "filter.__next__" ⟨[.ref f], []⟩)) _ _ _
        refine wpAny_pure ⟨plainId_quiet sl_filter_next.plain _, codeAny_builtin en_filter_next ?_⟩
        rw [Around.under_plainId sl_filter_next.plain]
        refine ih (i + 1) _ (by omega) (hs'.extBut _ _ hft hf) hit' (ht.extBut hs'.extBut htt) (fun j hj h₂ tk v hij hz hne hi2 hx => ?_) (fun hz h₂ tk e hx he => ?_)
        · exact hR j hj h₂ tk v (by omega) (fun k hk hik hkj => by
            by_cases e : k = i
            · subst e; exact h0
            · exact hz k hk (by omega) hkj) hne hi2 fun b o hb e => hx b o hb (hs'.extBut b o hb e)
        · exact hE (fun k hk hik => by
            by_cases e : k = i
            · subst e; exact h0
            · exact hz k hk (by omega)) h₂ tk e (fun b o hb e => hx b o hb (hs'.extBut b o hb e)) he
      · rw [show (((xs[i].length : Nat) : Int) != 0) = true by simpa using h0]
        show wpAny _ _ (ret (Value.str xs[i] u)) _ _ _
        refine wpAny_pure ?_
        exact hR i hlt h' _ u (Nat.le_refl _) (fun k _ h1 h2 => by omega) h0 hit' hs'.extBut

theorem call_filter_next {E : Value → Shared → Prop} {Q : Value → Shared → Prop} {f it t : Addr} {i : Nat} {items : Array Value} {xs : List Str} (X : Texts items xs) (hl : ∀ x ∈ xs, x.length < 2 ^ 62) (hft : f ≠ it) (htt : t ≠ it) (hh : A.handled = none)
    (h1 : IsFilter s.heap f it) (h4 : s.heap.IsTupleIter it t i) (h2 : s.heap.IsTuple t items)
    (hQ : ∀ j (h : j < xs.length) h' tk u, i ≤ j → (∀ k (hk : k < xs.length), i ≤ k → k < j → xs[k].length = 0) → xs[j].length ≠ 0 → h'.IsTupleIter it t (j + 1) → Heap.ExtBut it s.heap h' → Q (.str xs[j] u) { s with heap := h', toks := tk })
    (hE : (∀ k (hk : k < xs.length), i ≤ k → xs[k].length = 0) → ∀ h' tk e, Heap.ExtBut it s.heap h' → (∃ o, h'.get? e = some o ∧ o.cls = .type "StopIteration") → E (.ref e) { s with heap := h', toks := tk }) :
    wpAny (model prog w) A (call (.builtin "filter.__next__") [.ref f]) Q E s := by
  have hT : s.TypeIs (.ref f) "filter" := ⟨_, h1, rfl⟩
  refine wpAny_call (codeAny_call_builtin sl_filter_next.plain en_filter_next (sl_filter_next.check _ _ _ _ _ _ _ _ hT (ar_filter_next _) ?_))
  exact filter_next X hl hft htt (fun r s' => match r with | .ok (.ret v) => Q v s' | .ok _ => False | .error e => E e s') hh (xs.length - i) i s rfl h1 h4 h2 hQ hE

/-- the places of the texts that are not empty -/
def full (xs : List Str) : List Nat := (List.range xs.length).filter fun i => decide ((xs.getD i "").length ≠ 0)
theorem full_spec (xs : List Str) : ∀ j p : Nat, (full xs)[j]? = some p → p < xs.length ∧ (xs.getD p "").length ≠ 0 := by
  intro j p h
  have := List.mem_of_getElem? h
  unfold full at this
  rw [List.mem_filter] at this
  exact ⟨List.mem_range.mp this.1, of_decide_eq_true this.2⟩

/-- the filter's place: j full texts are behind it -/
def filterAt (xs : List Str) (j i : Nat) : Prop := i ≤ xs.length ∧ ((List.range i).filter fun k => decide ((xs.getD k "").length ≠ 0)).length = j
theorem full_split (xs : List Str) (i : Nat) (hi : i ≤ xs.length) : full xs = ((List.range i).filter fun k => decide ((xs.getD k "").length ≠ 0)) ++ ((List.range' i (xs.length - i)).filter fun k => decide ((xs.getD k "").length ≠ 0)) := by
  unfold full
  rw [← List.filter_append]
  congr 1
  rw [List.range_eq_range', List.range_eq_range']
  have : xs.length = i + (xs.length - i) := by omega
  conv => lhs; rw [this]
  rw [← List.range'_append]
  simp

theorem IsTupleIter_at {h h' : Heap} {it t : Addr} {i : Nat} (x : h.IsTupleIter it t i) (e : ∀ o, h.get? it = some o → h'.get? it = some o) : h'.IsTupleIter it t i := let ⟨o, ho, r⟩ := x; ⟨o, e o ho, r⟩
theorem IsTuple_at {h h' : Heap} {t : Addr} {items : Array Value} (x : h.IsTuple t items) (e : ∀ o, h.get? t = some o → h'.get? t = some o) : h'.IsTuple t items := let ⟨o, ho, r⟩ := x; ⟨o, e o ho, r⟩

theorem walks_filter {f it t : Addr} {items : Array Value} {xs : List Str} (X : Texts items xs) (hl : ∀ x ∈ xs, x.length < 2 ^ 62) (hft : f ≠ it) (htt : t ≠ it) (hh : A.handled = none) :
    Walks prog w A f [f, it, t] [it] (full xs).length (fun j v => ∃ p u, (full xs)[j]? = some p ∧ v = .str (xs.getD p "") u)
      (fun j h => IsFilter h f it ∧ h.IsTuple t items ∧ ∃ i, filterAt xs j i ∧ h.IsTupleIter it t i) where
  sub := fun b hb => by simp at hb; simp [hb]
  frame := fun j h h' st hk => by
    obtain ⟨h1, h2, i, h3, h4⟩ := st
    exact ⟨hk f (by simp) _ h1, IsTuple_at h2 (hk t (by simp)), i, h3, IsTupleIter_at h4 (hk it (by simp))⟩
  item := fun j s Q E hj st hQ => by
    obtain ⟨h1, h2, i, ⟨hi, hc⟩, h4⟩ := st
    have hT : s.TypeIs (.ref f) "filter" := ⟨_, h1, rfl⟩
    have hsp := full_split xs i hi
    unfold pyNext
    refine wpAny_bind (wpAny_attempt (wpAny_callSpecial?_slot (name := Str.ofString "__next__") hT sl_filter_next (call_filter_next X hl hft htt hh h1 h4 h2 (fun k hk h' tk u hik hz hne hit' hx => ?_) (fun hz h' tk e hx he => ?_))))
    · have hp : (full xs)[j]? = some k := by
        rw [hsp, List.getElem?_append_right (by omega), hc, Nat.sub_self]
        have e : List.range' i (xs.length - i) = List.range' i (k - i) ++ k :: List.range' (k + 1) (xs.length - k - 1) := by
          have h0 : xs.length - i = (k - i) + (1 + (xs.length - k - 1)) := by omega
          rw [h0, ← List.range'_append, ← List.range'_append]
          have h5 : i + 1 * (k - i) = k := by omega
          rw [h5]
          simp
        rw [e, List.filter_append]
        have z : (List.range' i (k - i)).filter (fun k => decide ((xs.getD k "").length ≠ 0)) = [] := by
          rw [List.filter_eq_nil_iff]
          intro a ha
          have := List.mem_range'_1.mp ha
          have ha' : a < xs.length := by omega
          have := hz a ha' (by omega) (by omega)
          simp [List.getD_eq_getElem?_getD, ha', this]
        rw [z, List.nil_append, List.filter_cons]
        rw [if_pos (by simpa [List.getD_eq_getElem?_getD, hk] using hne)]
        rfl
      show wpAny _ _ (pure _) _ _ _
      refine wpAny_pure (hQ _ _ tk ⟨k, u, hp, by simp [List.getD_eq_getElem?_getD, hk]⟩ ⟨hx _ _ hft h1, IsTuple_at h2 fun o e => hx _ o htt e, k + 1, ⟨by omega, ?_⟩, hit'⟩ fun b o hb e => hx b o (by simpa using hb) e)
      have e : List.range (k + 1) = List.range i ++ List.range' i (k + 1 - i) := by
        rw [List.range_eq_range', List.range_eq_range']
        have h0 : k + 1 = i + (k + 1 - i) := by omega
        conv => lhs; rw [h0]
        rw [← List.range'_append]
        simp
      rw [e, List.filter_append, List.length_append, hc]
      have e2 : List.range' i (k + 1 - i) = List.range' i (k - i) ++ [k] := by
        have h0 : k + 1 - i = (k - i) + 1 := by omega
        rw [h0, ← List.range'_append]
        have h5 : i + 1 * (k - i) = k := by omega
        rw [h5]
        rfl
      rw [e2, List.filter_append]
      have z : (List.range' i (k - i)).filter (fun k => decide ((xs.getD k "").length ≠ 0)) = [] := by
        rw [List.filter_eq_nil_iff]
        intro a ha
        have := List.mem_range'_1.mp ha
        have ha' : a < xs.length := by omega
        have := hz a ha' (by omega) (by omega)
        simp [List.getD_eq_getElem?_getD, ha', this]
      rw [z, List.nil_append, List.filter_cons]
      rw [if_pos (by simpa [List.getD_eq_getElem?_getD, hk] using hne)]
      rfl
    · exfalso
      have z : (List.range' i (xs.length - i)).filter (fun k => decide ((xs.getD k "").length ≠ 0)) = [] := by
        rw [List.filter_eq_nil_iff]
        intro a ha
        have := List.mem_range'_1.mp ha
        have ha' : a < xs.length := by omega
        have := hz a ha' (by omega)
        simp [List.getD_eq_getElem?_getD, ha', this]
      rw [hsp, z, List.append_nil, hc] at hj
      exact Nat.lt_irrefl _ hj
  done := fun s Q E st hQ => by
    obtain ⟨h1, h2, i, ⟨hi, hc⟩, h4⟩ := st
    have hT : s.TypeIs (.ref f) "filter" := ⟨_, h1, rfl⟩
    have hsp := full_split xs i hi
    have hnil : (List.range' i (xs.length - i)).filter (fun k => decide ((xs.getD k "").length ≠ 0)) = [] := by
      have := congrArg List.length hsp
      rw [List.length_append, hc] at this
      exact List.eq_nil_of_length_eq_zero (by omega)
    unfold pyNext
    refine wpAny_bind (wpAny_attempt (wpAny_callSpecial?_slot (name := Str.ofString "__next__") hT sl_filter_next (call_filter_next X hl hft htt hh h1 h4 h2 (fun k hk h' tk u hik hz hne hit' hx => ?_) (fun hz h' tk e hx he => ?_))))
    · exfalso
      have := (List.filter_eq_nil_iff.mp hnil) k (List.mem_range'_1.mpr (by omega))
      simp [List.getD_eq_getElem?_getD, hk] at this
      exact hne this
    · obtain ⟨o, ho, hcl⟩ := he
      refine wpAny_bind (wpAny_isInstance (T := "StopIteration") (b := true) ⟨o, ho, hcl⟩ isSubtype_stop ?_)
      exact wpAny_pure (hQ _ _ fun b o hb e => hx b o (by simpa using hb) e)
  self := fun j s Q E st hQ => by
    have hT : s.TypeIs (.ref f) "filter" := ⟨_, st.1, rfl⟩
    refine wpAny_pyIter_slot hT sl_filter_iter (wpAny_call_entry sl_filter_iter hT en_filter_iter ?_ (ar_filter_iter _))
    show wpAny _ _ (ret (.ref f)) _ _ s
    exact wpAny_pure ⟨_, rfl, "filter", _, hT, sl_filter_next.lookup, hQ⟩
end
end Mine

end PartFL

section PartM3
open PySem PySem.W PyProof.Rows PySem.Calls
set_option Elab.async false
set_option maxRecDepth 100000
namespace Mine
noncomputable section

/-- the table of _platform's code object, which its generator expression grows -/
def Tab (h : Heap) : Prop := ∃ ps, h.IsCode 20 16 ps ∧ h.TableAt 20 16 ps
theorem Tab.keeps {h h' : Heap} (T : Tab h) (hk : ∀ b o, h.get? b = some o → h'.get? b = some o) : Tab h' := let ⟨ps, a, b⟩ := T; ⟨ps, a.keeps hk, b.keeps hk⟩
theorem Tab.at' {h h' : Heap} (T : Tab h) (hk : ∀ b o, b ≤ 92 → h.get? b = some o → h'.get? b = some o) : Tab h' := by
  obtain ⟨ps, ⟨o, vs, file, tf, flags, tg, inF, text, tt, op, a, r1, r2, r3, r4, r5, r6, b, r⟩, ⟨⟨oc, vc, hoc, rc⟩, ht⟩⟩ := T
  exact ⟨ps, ⟨o, vs, file, tf, flags, tg, inF, text, tt, op, hk _ _ (by decide) a, r1, r2, r3, r4, r5, r6, hk _ _ (by decide) b, r⟩, ⟨⟨oc, vc, hk _ _ (by decide) hoc, rc⟩, hk _ _ (by decide) ht⟩⟩
theorem Tab.but {h h' : Heap} {a : Addr} (T : Tab h) (hs : Heap.ExtBut a h h') (h1 : 20 ≠ a) (h2 : 16 ≠ a) : Tab h' := let ⟨ps, x, y⟩ := T; ⟨ps, x.extBut hs h1 h2, y.extBut hs h1 h2⟩

section
variable {M : Model} {A : Around} {E : Value → Shared → Prop} {s : Shared}
theorem gen_code {env : Env} {pos : Pos} {qualname : Str} {scope : Scope} {Q : Value → Shared → Prop} (hc : env.code = .ref 20) (T : Tab s.heap)
    (hQ : ∀ code h' tk, s.toks ≤ tk → Heap.ExtBut 16 s.heap h' → s.heap.objs.size ≤ h'.objs.size → Tab h' → Q code { s with heap := h', toks := tk }) :
    wpAny M A (genexprCode env pos qualname scope) Q E s := by
  obtain ⟨ps, hok, htab⟩ := T
  cases hnf : codeAmong pos ps.toList with
  | none =>
    refine wpAny_with_toks (Nat.le_refl s.toks) (wpAny_genexprCodeX hc hok htab hnf fun c' h' tk hx h1 h2 h3 _ h4 _ ht => ?_)
    exact hQ _ _ _ ht hx (by omega) ⟨_, h3, h4⟩
  | some cv =>
    have hok' := hok
    obtain ⟨o, vs, file, tf, flags, tg, inF, text, tt, op, ho, hd, h11, h2, h7, h9, h10, hop, hpd, htr, hne⟩ := hok'
    unfold genexprCode codeAt
    rw [hc, if_neg (show ¬ ((Value.ref 20 == Value.none) = true) from Bool.false_ne_true)]
    refine wpAny_bind (wpAny_fieldsOf ho hd ?_)
    rw [h11]
    refine wpAny_bind (wpAny_fieldsOf hop hpd ?_)
    rw [hnf]
    exact wpAny_pure (hQ cv s.heap s.toks (Nat.le_refl _) (Heap.ExtBut.refl _ _) (Nat.le_refl _) ⟨ps, hok, htab⟩)
theorem gen_builtins {w : World} {running : Addr} {Q : Addr → Shared → Prop} (G : Gnd w s.heap) (h : Q builtinsNs s) : wpAny M A (builtinsFor mainGlobals running) Q E s := by
  obtain ⟨mg, hm⟩ := G.g
  obtain ⟨ob, h1, h2, h3, h4⟩ := G.m
  exact wpAny_builtinsFor hm (mg_of G.k hm (v := .ref 4) rfl) (by decide) h1 h2 h3 h4 h
end
end
end Mine

end PartM3

section PartM4
open PySem PySem.W PyProof.Rows PySem.Calls
set_option Elab.async false
set_option maxRecDepth 100000
namespace Mine
noncomputable section

theorem passing_all (n : Nat) : passing (fun _ => true) n 0 = List.range n := by simp [passing]
theorem full_map (xs : List Str) (f : Str → Str) : (full xs).map (fun p => f (xs.getD p "")) = (xs.filter fun x => decide (x.length ≠ 0)).map f := by
  unfold full
  have e : xs = (List.range xs.length).map fun i => xs.getD i "" := by
    apply List.ext_getElem
    · simp
    · intro i h1 h2
      simp [List.getD_eq_getElem?_getD, h1]
  have e2 : xs.filter (fun x => decide (x.length ≠ 0)) = ((List.range xs.length).map fun i => xs.getD i "").filter (fun x => decide (x.length ≠ 0)) := by rw [← e]
  rw [e2, List.filter_map, List.map_map]
  rfl

section
variable {A : Around} {E : Value → Shared → Prop} {w : World} {s : Shared} {env : Env}

theorem ev_filter {T : Addr} {items : Array Value} {p6 p7 p8 p9 : Pos} {s₀ : Shared} {L : Addr} {l : List (Str × Value)} {news : List (Addr × Obj)} {Q : Value → Shared → Prop}
    (I : In w s₀ L (loc l) news s) (hv : l.lookup (Str.ofString "args") = some (.ref T)) (hT : s.heap.IsTuple T items)
    (h : Q (.ref (s.heap.objs.size + 1)) { s with heap := (s.heap.push (tupIter T)).push (filterObj s.heap.objs.size) })
    (hL : env.locals = L := by rfl) (hg : env.globals = mainGlobals := by rfl) (hb : env.builtins = builtinsNs := by rfl) (hk : env.scope.kind = .function := by rfl)
    (hx1 : env.kindOf (Str.ofString "filter") = some .globalImplicit := by rfl) (hx2 : env.kindOf (Str.ofString "len") = some .globalImplicit := by rfl) (hx3 : env.kindOf (Str.ofString "args") = some .local := by rfl) :
    wpAny (model pg w) A (eval (.Call (.Name (Str.ofString "filter") p6) [.Name (Str.ofString "len") p7, .Name (Str.ofString "args") p8] [] p9) env) Q E s := by
  show wpAny (model pg w) A (do callWith p9 (← eval (.Name (Str.ofString "filter") p6) env) [] (backTo p9 (starEach [.Name (Str.ofString "len") p7, .Name (Str.ofString "args") p8] env)) (backToKw p9 (keywordEach [] env))) Q E s
  refine wpAny_bind (ldb (v := .type "filter") I.gnd rfl rfl ?_ (by decide) hg hb hk hx1)
  refine PySem.callWith_type rfl (evalArgs_plain (spliced_cons ?_))
  refine ldb (v := .builtin "len") I.gnd rfl rfl ?_ (by decide) hg hb hk hx2
  refine spliced_cons (ldl I hv ?_ hL hk hx3)
  exact spliced_nil (call_filter hT h)

set_option maxHeartbeats 1000000 in
theorem ev_join {T : Addr} {items : Array Value} {xs : List Str} {sep : Str} {k0 : Nat} {scope : Scope} {p0 p1 p2 p3 p4 p5 p6 p7 p8 p9 p10 p11 : Pos} {s₀ : Shared} {L : Addr} {l : List (Str × Value)} {news : List (Addr × Obj)} {Q : Value → Shared → Prop}
    (I : In w s₀ L (loc l) news s) (hv : l.lookup (Str.ofString "args") = some (.ref T)) (hT : s.heap.IsTuple T items) (X : Texts items xs) (hT16 : T ≠ 16) (G : AllBare s.gens) (hTab : Tab s.heap)
    (hl : ∀ x ∈ xs, x.length ≤ 100000) (hn : xs.length ≤ 100) (hsep : sep.length = 1) (hh : A.handled = none) (hroom : A.depth < recursionLimit)
    (h : ∀ t' s', s'.os = s.os → AllBare s'.gens → s.toks ≤ s'.toks → Tab s'.heap → (∀ b o, b ≠ 16 → s.heap.get? b = some o → s'.heap.get? b = some o) →
      Q (.str (Txt.join sep ((xs.filter fun x => decide (x.length ≠ 0)).map Txt.strip)) t') s')
    (hL : env.locals = L := by rfl) (hg : env.globals = mainGlobals := by rfl) (hb : env.builtins = builtinsNs := by rfl) (hk : env.scope.kind = .function := by rfl)
    (hx1 : env.kindOf (Str.ofString "filter") = some .globalImplicit := by rfl) (hx2 : env.kindOf (Str.ofString "len") = some .globalImplicit := by rfl) (hx3 : env.kindOf (Str.ofString "args") = some .local := by rfl)
    (hcode : env.code = .ref 20 := by rfl) (hline : (p1.endLine == p11.line) = true := by rfl) (hline2 : (p3.endLine == p4.line) = true := by rfl)
    (hco : scope.isCoroutine = false := by rfl) (hclos : closureFor scope env = pure [] := by rfl) (hcell : (scope.names.all fun y => decide (y.2 ≠ .cell)) = true := by rfl) (h0 : scope.names.lookup (".0" : Str) = some NameKind.local := by rfl)
    (hx : scope.names.lookup (Str.ofString "x") = some .local := by rfl) (hkind : scope.kind = .function := by rfl) :
    wpAny (model pg w) A (eval (.Call (.Attribute (.Constant (.str sep) k0 p0) (Str.ofString "join") p1) [.GeneratorExp (.Call (.Attribute (.Name (Str.ofString "x") p2) (Str.ofString "strip") p3) [] [] p4)
      [⟨.Name (Str.ofString "x") p5, .Call (.Name (Str.ofString "filter") p6) [.Name (Str.ofString "len") p7, .Name (Str.ofString "args") p8] [] p9, [], 0⟩] scope p10] [] p11) env) Q E s := by
  have hcell' : ∀ y ∈ scope.names, y.2 ≠ .cell := fun y hy => of_decide_eq_true (List.all_eq_true.mp hcell y hy)
  have hTlt : T < s.heap.objs.size := let ⟨_, e, _⟩ := hT; Heap.lt_size e
  have h92 := I.gnd.size
  refine wpAny_with_toks (n := s.toks) (Nat.le_refl _) ?_
  refine Call_method1 rfl rfl hline (wpAny_Constant_str ?_)
  refine ⟨"str", _, F.plainAttrs_str, F.slot_str_join, F.type_str_join, typeIs_str _ _ _, (fun _ e => nomatch e), ?_⟩
  refine callWith_builtin rfl (evalArgs_plain (spliced_cons ?_))
  have I₁ := I.tok (k := s.toks + 1) (Nat.le_succ _)
  generalize ht₀ : s.toks = t₀
  have hs₁ : s.toks ≤ s.toks + 1 := Nat.le_succ _
  generalize hS₁ : ({ s with toks := t₀ + 1 } : Shared) = s₁
  rw [ht₀, hS₁] at I₁
  have eh : s₁.heap = s.heap := by rw [← hS₁]
  have eg : s₁.gens = s.gens := by rw [← hS₁]
  have eo : s₁.os = s.os := by rw [← hS₁]
  have et : s.toks ≤ s₁.toks := by rw [← hS₁, ht₀]; exact Nat.le_succ _
  refine wpAny_GeneratorExp_walksQ hh hco hclos hcell' h0 hx hkind hroom ?_ (fun _ => rfl)
  refine ev_filter I₁ hv (eh ▸ hT) ?_ hL hg hb hk hx1 hx2 hx3
  generalize hH : (s₁.heap.push (tupIter T)).push (filterObj s₁.heap.objs.size) = H
  have hf : IsFilter H (s₁.heap.objs.size + 1) s₁.heap.objs.size := by
    rw [← hH]
    have := Heap.get?_push_size (s₁.heap.push (tupIter T)) (o := filterObj s₁.heap.objs.size) rfl
    rwa [Heap.size_push] at this
  have hit : H.IsTupleIter s₁.heap.objs.size T 0 := by rw [← hH]; exact ⟨_, Heap.get?_push_of_some _ (Heap.get?_push_size _ rfl), rfl, rfl⟩
  have hkH : ∀ b o, s₁.heap.get? b = some o → H.get? b = some o := fun b o e => by rw [← hH]; exact Heap.get?_push_of_some _ (Heap.get?_push_of_some _ e)
  have hsz : H.objs.size = s₁.heap.objs.size + 2 := by rw [← hH, Heap.size_push, Heap.size_push]
  have hTH : H.IsTuple T items := IsTuple_at (eh ▸ hT) fun o e => hkH _ o e
  have hlx : ∀ x ∈ xs, x.length < 2 ^ 62 := fun x hx => Nat.lt_of_le_of_lt (hl x hx) (by decide)
  have hTne : T ≠ s₁.heap.objs.size := by rw [eh]; exact Nat.ne_of_lt hTlt
  have hst : filterAt xs 0 0 := ⟨Nat.zero_le _, by simp⟩
  refine (walks_filter (A := A) X hlx (Nat.succ_ne_self _) hTne hh).self 0 { s₁ with heap := H } _ _ ⟨hf, hTH, 0, hst, hit⟩ ?_
  have GH : Gnd w H := I₁.gnd.keeps hkH
  refine ⟨GH.c, ?_⟩
  refine gen_code hcode (Tab.keeps (eh ▸ hTab) hkH) fun code h₃ tk₃ ht₃ hx₃ hz₃ hT₃ => ?_
  rw [hg]
  have G₃ : Gnd w h₃ := GH.but (X := fun a => a = 16) (fun a x _ => x) fun b o hb e => hx₃ b o hb e
  refine gen_builtins G₃ ?_
  have n16 : s₁.heap.objs.size ≠ 16 := by rw [eh]; omega
  have n16' : s₁.heap.objs.size + 1 ≠ 16 := by rw [eh]; omega
  have hf₃ : IsFilter h₃ (s₁.heap.objs.size + 1) s₁.heap.objs.size := hx₃ _ _ n16' hf
  have hit₃ : h₃.IsTupleIter s₁.heap.objs.size T 0 := IsTupleIter_at hit fun o e => hx₃ _ o n16 e
  have hTH₃ : h₃.IsTuple T items := IsTuple_at hTH fun o e => hx₃ _ o hT16 e
  refine ⟨s₁.heap.objs.size + 1, [s₁.heap.objs.size + 1, s₁.heap.objs.size, T], [s₁.heap.objs.size], (full xs).length, _, _, (fun _ => true), (fun i y => ∃ p u, (full xs)[i]? = some p ∧ y = .str (Txt.strip (xs.getD p "")) u), rfl,
    (fun A' hA => walks_filter X hlx (Nat.succ_ne_self _) hTne hA), ⟨hf₃, hTH₃, 0, hst, hit₃⟩, ?_, G₃.c, ?_, ?_, ?_⟩
  · intro b hb
    have hz : s₁.heap.objs.size + 2 ≤ h₃.objs.size := hsz ▸ hz₃
    have hTl : T < s₁.heap.objs.size := by rw [eh]; exact hTlt
    simp at hb
    rcases hb with rfl | rfl | rfl
    · exact Nat.lt_of_lt_of_le (Nat.lt_succ_self _) hz
    · exact Nat.lt_of_lt_of_le (Nat.lt_succ_of_lt (Nat.lt_succ_self _)) hz
    · exact Nat.lt_of_lt_of_le (Nat.lt_of_lt_of_le hTl (Nat.le_add_right _ _)) hz
  · intro hb
    have : cStatics = s₁.heap.objs.size := by simpa using hb
    rw [eh] at this
    rw [← this] at h92
    exact absurd h92 (by decide)
  · intro href hkr
    refine ⟨fun A' E' i v s₂ m₂ hA hP hns hm _ => wpAny_tests_nil ⟨rfl, s₂.heap, s₂.toks, rfl, fun _ _ e => e⟩, fun A' E' i v s₂ m₂ hA hP _ hns hm _ => ?_⟩
    obtain ⟨p, u, hp, rfl⟩ := hP
    refine Call_method0 rfl hline2 (wpAny_Name (wpAny_loadName_local (env := genEnv scope [] _ code builtinsNs env) hkind hx hns hm ?_))
    refine SB.strip (fun t' k => ⟨⟨p, t', hp, rfl⟩, s₂.heap, k, rfl, fun _ _ e => e⟩) ?_
    have hsp := full_spec xs i p hp
    have : xs.getD p "" ∈ xs := by
      rw [List.getD_eq_getElem?_getD, List.getElem?_eq_getElem hsp.1]
      exact List.getElem_mem hsp.1
    have := hl _ this
    rw [sizeLine_eq]
    omega
  · intro a h₅ tk gs hbare ha hz₅ hk₅ W hst₅
    have W := W.in4_2
    refine spliced_nil ?_
    have hpl : (passing (fun _ => true) (full xs).length 0).length = (full xs).length := by rw [passing_all]; simp
    have hfl : (full xs).length ≤ 100 := by
      have h1 : (full xs).length ≤ (List.range xs.length).length := List.length_filter_le _ _
      rw [List.length_range] at h1
      omega
    refine SC.joinGen W (fun i s' st => st.1.typeIs) hst₅ ?_ (List.mem_cons_self ..) (fun i v hv => ?_) (fun s' lt hm hacc => ?_) ?_
    · intro b hb
      show b < h₅.objs.size
      rw [hz₅]
      rcases List.mem_cons.mp hb with rfl | hb
      · exact Nat.lt_succ_self _
      · rcases List.mem_cons.mp hb with rfl | hb
        · exact Nat.lt_succ_of_lt ha
        · exact Nat.lt_succ_of_lt (Nat.lt_trans (List.mem_range.mp hb) ha)
    · obtain ⟨_, _, p, u, _, rfl⟩ := hv
      exact ⟨_, _, rfl⟩
    · have hlen : lt.length = (full xs).length := by
        have := hacc.1
        rw [hpl] at this
        simpa [strValues] using this
      have elt : lt.map (·.1) = (full xs).map (fun p => Txt.strip (xs.getD p "")) := by
        apply List.ext_getElem
        · simp [hlen]
        · intro j h1 h2
          have hj : j < lt.length := by simpa using h1
          have hjf : j < (full xs).length := hlen ▸ hj
          obtain ⟨i, hi, p, u, hp, hv⟩ := hacc.2 j (.str lt[j].1 lt[j].2) (by simp [strValues, List.getElem?_eq_getElem hj])
          rw [passing_all] at hi
          have hij : i = j := by
            rw [List.getElem?_range hjf] at hi
            exact (Option.some.inj hi).symm
          subst hij
          rw [List.getElem?_eq_getElem hjf] at hp
          have := Option.some.inj hp
          injection hv with h3 _
          simp [h3, this]
      have hB : ∀ y ∈ lt.map (·.1), y.length ≤ 100000 := by
        intro y hy
        rw [elt, full_map xs Txt.strip] at hy
        obtain ⟨z, hz, rfl⟩ := List.mem_map.mp hy
        have := hl z (List.mem_filter.mp hz).1
        have h2 : (Txt.strip z).length ≤ z.length := by
          show (Txt.stripBy _ true true z).length ≤ z.length
          rw [PyProof.Rows.stripBy_eq]
          have e1 := congrArg List.length (StrLaws.strSub_toList z (stripLo Unicode.isSpace true z) (stripHi Unicode.isSpace true z (stripLo Unicode.isSpace true z)))
          simp [Str.length] at e1 ⊢
          omega
        omega
      have hfit : (lt.map (·.1)).length * 100000 + (lt.map (·.1)).length * sep.length ≤ 16777216 := by
        rw [hsep, List.length_map, hlen]
        generalize (full xs).length = q at hfl
        omega
      have hjf := StrLaws.joinFits (sep := sep) hB hfit
      refine ⟨?_, fun t' k hk => ?_⟩
      · unfold JoinOk
        rw [hjf]; rfl
      · rw [elt, full_map xs Txt.strip]
        have up : ∀ b o, b ≠ 16 → s.heap.get? b = some o → s'.heap.get? b = some o := fun b o hb e => by
          have hb1 : b < s.heap.objs.size := Heap.lt_size e
          have e5 : h₅.get? b = some o := hk₅ _ _ (hx₃ b o hb (hkH b o (eh ▸ e)))
          refine hm.heap b o (fun hmem => ?_) e5
          have hz : s₁.heap.objs.size + 2 ≤ h₃.objs.size := hsz ▸ hz₃
          rcases List.mem_cons.mp hmem with e | e
          · have e' : b = h₃.objs.size := e
            rw [e', ← eh] at hb1
            exact absurd (Nat.lt_of_le_of_lt (Nat.le_add_right _ 2) (Nat.lt_of_le_of_lt hz hb1)) (Nat.lt_irrefl _)
          · have e' : b = s₁.heap.objs.size := by simpa using e
            rw [e', eh] at hb1
            exact absurd hb1 (Nat.lt_irrefl _)
        have htab : Tab s'.heap := (hT₃.keeps hk₅).at' fun b o hb e => hm.heap b o (fun hmem => by
          have hz : s₁.heap.objs.size + 2 ≤ h₃.objs.size := hsz ▸ hz₃
          rcases List.mem_cons.mp hmem with e | e
          · have e' : b = h₃.objs.size := e
            rw [e'] at hb
            exact absurd (Nat.lt_of_lt_of_le (eh ▸ h92) (Nat.le_trans (Nat.le_add_right _ 2) (Nat.le_trans hz hb))) (by decide)
          · have e' : b = s₁.heap.objs.size := by simpa using e
            rw [e', eh] at hb
            exact absurd (Nat.lt_of_lt_of_le h92 hb) (by decide)) e
        have gb : AllBare s'.gens := AllBare.movedS (AllBare.push (eg ▸ G) hbare) hm
        exact h t' { s' with toks := k } (hm.os.trans eo) gb (ht₀ ▸ hk) htab up
    · rw [hpl, sizeLine_eq]
      omega
end
end
end Mine

end PartM4

section PartM5
open PySem PySem.W PyProof.Rows PySem.Calls
set_option Elab.async false
set_option maxRecDepth 100000
namespace Mine
noncomputable section

theorem slice_post {x : Str} {t : Tok} {l u : Option (Int × Tok)} {s : Shared} {Q : Value → Shared → Prop} (hsz : x.length ≤ sizeLine) (h : ∀ t' k, s.toks ≤ k → Q (.str (Txt.slice x (l.map (·.1)) (u.map (·.1))) t') { s with toks := k }) :
    (sliceMade x t l u none).post Q s := by
  show (if ((1 : Int) == 1 && (Builtin.Str.strSliceIndices (l.map (·.1)) (u.map (·.1)) 1 x.length).length == x.length) = true then Made.val (.str x t) else Made.str ⟨((Builtin.Str.strSliceIndices (l.map (·.1)) (u.map (·.1)) 1 x.length).filterMap (x.cps[·]?)).toArray⟩).post Q s
  have hle := Txt.slice_le x (l.map (·.1)) (u.map (·.1))
  unfold Txt.slice at h hle
  split
  · rename_i hc
    rw [if_pos hc] at h
    exact h t s.toks (Nat.le_refl _)
  · rename_i hc
    rw [if_neg hc] at h hle
    exact ⟨Nat.le_trans hle hsz, h _ _ (Nat.le_succ _)⟩

section
variable {A : Around} {E : Value → Shared → Prop} {w : World} {s₀ s : Shared} {L : Addr} {l : List (Str × Value)} {m : Str → Option Value} {news : List (Addr × Obj)} {env : Env}

theorem ev_neg1 {k : Nat} {p q : Pos} {Q : Value → Shared → Prop} (I : In w s₀ L m news s) (h : ∀ t s', In w s₀ L m news s' → Q (.int (-1) t) s') :
    wpAny (model pg w) A (eval (.UnaryOp .USub (.Constant (.int 1) k p) q) env) Q E s :=
  wpAny_UnaryOp (wpAny_Constant_int (PyProof.Rows.neg_int (h _ _ ((I.tok (Nat.le_succ _)).tok (Nat.le_succ _)))))

theorem ev_last {y : Str} {x : List Nat} {t : Tok} {k : Nat} {p1 p2 p3 p4 p5 : Pos} {Q : Value → Shared → Prop} (I : In w s₀ L (loc l) news s) (hv : l.lookup y = some (.str (S x) t)) (hx : x.length ≤ 100000)
    (h : ∀ t' s', In w s₀ L (loc l) news s' → Q (.str (S (x.drop (x.length - 1))) t') s')
    (hL : env.locals = L := by rfl) (hk : env.scope.kind = .function := by rfl) (hl : env.kindOf y = some .local := by rfl) (hd : (y == ("__debug__" : Str)) = false := by decide) :
    wpAny (model pg w) A (eval (.Subscript (.Name y p1) (.Slice (some (.UnaryOp .USub (.Constant (.int 1) k p2) p3)) none none p4) p5) env) Q E s := by
  refine wpAny_Subscript_str_slice (ldl I hv ?_ hL hk hl hd)
  refine evalPart_some_step (ev_neg1 I fun t₁ s₁ I₁ => evalPart_none_step ?_)
  refine ⟨S x, t, some (-1, t₁), none, rfl, rfl, rfl, ?_⟩
  have I₂ := (I₁.push { cls := .type "slice", data := .fields #[.int (-1) t₁, .none, .none] }).forget (news' := news) (fun p hp => .tail _ hp)
  refine slice_post (by rw [S_length, sizeLine_eq]; omega) fun t' k hk' => ?_
  show Q (.str (Txt.slice (S x) (some (-1)) none) t') _
  rw [slice_last]
  exact h t' _ (I₂.tok hk')

theorem ev_init {y : Str} {x : List Nat} {t : Tok} {k : Nat} {p1 p2 p3 p4 p5 : Pos} {Q : Value → Shared → Prop} (I : In w s₀ L (loc l) news s) (hv : l.lookup y = some (.str (S x) t)) (hx : x.length ≤ 100000)
    (h : ∀ t' s', In w s₀ L (loc l) news s' → Q (.str (S (x.take (x.length - 1))) t') s')
    (hL : env.locals = L := by rfl) (hk : env.scope.kind = .function := by rfl) (hl : env.kindOf y = some .local := by rfl) (hd : (y == ("__debug__" : Str)) = false := by decide) :
    wpAny (model pg w) A (eval (.Subscript (.Name y p1) (.Slice none (some (.UnaryOp .USub (.Constant (.int 1) k p2) p3)) none p4) p5) env) Q E s := by
  refine wpAny_Subscript_str_slice (ldl I hv ?_ hL hk hl hd)
  refine evalPart_none_step (evalPart_some_step (ev_neg1 I fun t₁ s₁ I₁ => ?_))
  refine ⟨S x, t, none, some (-1, t₁), rfl, rfl, rfl, ?_⟩
  have I₂ := (I₁.push { cls := .type "slice", data := .fields #[.none, .int (-1) t₁, .none] }).forget (news' := news) (fun p hp => .tail _ hp)
  refine slice_post (by rw [S_length, sizeLine_eq]; omega) fun t' k hk' => ?_
  show Q (.str (Txt.slice (S x) none (some (-1))) t') _
  rw [slice_init]
  exact h t' _ (I₂.tok hk')

/-- the while that makes runs of hyphens one -/
theorem wh_coll {n y cs zs : Str} {x : List Nat} {t : Tok} {k0 k1 k2 : Nat} {p0 p1 p2 p3 p4 p5 p6 p7 p8 p9 p10 p11 p12 p13 p14 p15 p16 : Pos} {rest : List Stmt} {Q : Flow → Shared → Prop}
    (I : In w s₀ L (loc l) news s) (hv : l.lookup n = some (.str (S x) t)) (hx : x.length ≤ 100000) (hc : cs = S [45, 45]) (hz : zs = S [45]) (hny : n ≠ y)
    (h : ∀ t' l' s', In w s₀ L (loc l') news s' → l'.lookup n = some (.str (S (coll x)) t') → wpAny (model pg w) A (execs rest env) Q E s')
    (hL : env.locals = L := by rfl) (hk : env.scope.kind = .function := by rfl) (hln : env.kindOf n = some .local := by rfl) (hly : env.kindOf y = some .local := by rfl) (hd : (n == ("__debug__" : Str)) = false := by decide) (hd2 : (y == ("__debug__" : Str)) = false := by decide)
    (hline : (p5.endLine == p8.line) = true := by rfl) (hp : (env.scope.kind == .class || (env.scope.kind == .module && env.locals != env.globals)) = false := by rfl) :
    wpAny (model pg w) A (execs (.While (.Constant (.bool true) k0 p0) [.Assign [.Name y p3] (.Call (.Attribute (.Name n p4) (Str.ofString "replace") p5) [.Constant (.str cs) k1 p6, .Constant (.str zs) k2 p7] [] p8) p9,
      .If (.Compare (.Name y p10) [.Eq] [.Name n p11] p12) [.Break p13] [] p14, .Assign [.Name n p15] (.Name y p16) p2] [] p1 :: rest) env) Q E s := by
  refine wpAny_execs_cons (wpAny_While ?_)
  refine codeAny_whileLoop (fun k s' => ∃ l' x' t', In w s₀ L (loc l') news s' ∧ l'.lookup n = some (.str (S x') t') ∧ coll x' = coll x ∧ x'.length ≤ 100000 ∧ x'.length = k) ?_ x.length ⟨l, x, t, I, hv, rfl, hx, rfl⟩
  rintro k s' ⟨l', x', t', I', hv', hcx, hlx, rfl⟩
  refine wpAny_isTrue_value (wpAny_Constant_bool (wpAny_truthy_bool ?_))
  rw [if_pos rfl]
  refine wpAny_execs_cons (rep_stmt I' hv' hlx (fun t₁ s₁ I₁ => ?_) hc hz (by decide) (by decide) (by decide) hL hk hln hd hline hly hp)
  have hlu : (put y (.str (S (rpl [45, 45] [45] x')) t₁) l').lookup y = some (.str (S (rpl [45, 45] [45] x')) t₁) := lookup_put ..
  have hln' : (put y (.str (S (rpl [45, 45] [45] x')) t₁) l').lookup n = some (.str (S x') t') := by
    have := congrFun (loc_put y (.str (S (rpl [45, 45] [45] x')) t₁) l') n
    simp only [hny, if_false, loc] at this
    rw [← this, hv']
  obtain ⟨r1, r2, r3⟩ := rpl_len x'.length x' (Nat.le_refl _)
  refine wpAny_execs_cons (wpAny_If (wpAny_isTrue_Compare1 (ldl I₁ hlu (ldl I₁ hln' ?_ hL hk hln hd) hL hk hly hd2)))
  refine P.eq_str (wpAny_truthy_bool ?_)
  rw [S_list, S_list]
  by_cases he : rpl [45, 45] [45] x' = x'
  · rw [he]
    simp only [beq_self_eq_true, if_true]
    refine wpAny_execs_cons (wpAny_Break ?_)
    refine h t' _ _ I₁ ?_
    rw [hln', ← hcx, r3 he]
  · rw [show (rpl [45, 45] [45] x' == x') = false by simpa using he]
    simp only [Bool.false_eq_true, if_false]
    refine wpAny_execs_nil ?_
    refine wpAny_execs_cons (wpAny_Assign_Name (ldl I₁ hlu ?_ hL hk hly hd2))
    refine st I₁ (fun s₂ I₂ => ?_) hL hln hp
    exact wpAny_execs_nil ⟨_, r2 he, _, _, t₁, I₂, lookup_put .., by rw [coll_rpl _ _ (Nat.le_refl _), hcx], by omega, rfl⟩

theorem charAt_last (y : List Nat) (c : Nat) : Txt.charAt (S (y ++ [c])) (-1) = some c := by
  unfold Txt.charAt
  rw [StrLaws.seqIndex_neg (by decide) (by rw [S_length]; simp; omega), S_length]
  simp only [Option.bind_some]
  have e : (-1 + ((y ++ [c]).length : Nat) : Int).toNat = y.length := by simp; omega
  rw [e]
  simp [S]
theorem item_last (y : List Nat) (c : Nat) : Txt.item (S (y ++ [c])) (-1) = S [c] := by
  unfold Txt.item
  rw [charAt_last]; rfl

/-- the while that strikes hyphens at the end -/
theorem wh_unt {n zs : Str} {x : List Nat} {t : Tok} {k0 k1 k2 : Nat} {p1 p2 p3 p4 p5 p6 p7 p8 p9 p10 p11 p12 p13 p14 p15 p16 : Pos} {rest : List Stmt} {Q : Flow → Shared → Prop}
    (I : In w s₀ L (loc l) news s) (hv : l.lookup n = some (.str (S x) t)) (hx : x.length ≤ 100000) (hz : zs = S [45])
    (h : ∀ t' l' s', In w s₀ L (loc l') news s' → l'.lookup n = some (.str (S (unt x)) t') → wpAny (model pg w) A (execs rest env) Q E s')
    (hL : env.locals = L := by rfl) (hk : env.scope.kind = .function := by rfl) (hln : env.kindOf n = some .local := by rfl) (hd : (n == ("__debug__" : Str)) = false := by decide)
    (hp : (env.scope.kind == .class || (env.scope.kind == .module && env.locals != env.globals)) = false := by rfl) :
    wpAny (model pg w) A (execs (.While (.BoolOp .And [.Name n p1, .Compare (.Subscript (.Name n p2) (.UnaryOp .USub (.Constant (.int 1) k0 p3) p4) p5) [.Eq] [.Constant (.str zs) k1 p6] p7] p8)
      [.Assign [.Name n p9] (.Subscript (.Name n p10) (.Slice none (some (.UnaryOp .USub (.Constant (.int 1) k2 p11) p12)) none p13) p14) p15] [] p16 :: rest) env) Q E s := by
  refine wpAny_execs_cons (wpAny_While ?_)
  refine codeAny_whileLoop (fun k s' => ∃ l' x' t', In w s₀ L (loc l') news s' ∧ l'.lookup n = some (.str (S x') t') ∧ unt x' = unt x ∧ x'.length ≤ 100000 ∧ x'.length = k) ?_ x.length ⟨l, x, t, I, hv, rfl, hx, rfl⟩
  rintro k s' ⟨l', x', t', I', hv', hcx, hlx, rfl⟩
  refine wpAny_isTrue_BoolOp (wpAny_allTrue_And_cons (wpAny_isTrue_value (ldl I' hv' ?_ hL hk hln hd)))
  refine P.truthy_str (by rw [S_length]; omega) ?_
  have I₁ := (I'.tok (k := s'.toks + 1 + 1) (by omega))
  rcases List.eq_nil_or_concat x' with rfl | ⟨y, c, rfl⟩
  · rw [show ((((S []).length : Nat) : Int) != 0) = false from rfl]
    simp only [Bool.false_eq_true, if_false]
    exact wpAny_execs_nil (h t' l' _ I₁ (by rw [hv', ← hcx]; rfl))
  · rw [List.concat_eq_append] at *
    rw [show ((((S (y ++ [c])).length : Nat) : Int) != 0) = true by rw [S_length]; simp; omega]
    simp only [if_true]
    refine wpAny_allTrue_And_cons (wpAny_isTrue_Compare1 (Subscript_ (ldl I₁ hv' (ev_neg1 I₁ fun t₂ s₂ I₂ => ?_) hL hk hln hd)))
    refine subscriptTail_builtin (typeIs_str _ _ _) F.slot_str_getitem.lookup (SB.getItem (by decide) (by rw [charAt_last]; rfl) ?_)
    have I₃ := (I₂.tok (k := s₂.toks + 1) (by omega))
    refine ldc I₃ fun t₄ s₄ _ _ I₄ => ?_
    rw [hz, item_last]
    refine P.eq_str (wpAny_truthy_bool ?_)
    rw [S_list, S_list]
    by_cases hc : c = 45
    · subst hc
      simp only [beq_self_eq_true, if_true]
      refine wpAny_allTrue_And_nil ?_
      simp only [if_true]
      refine wpAny_execs_cons (wpAny_Assign_Name (ev_init I₄ hv' hlx (fun t₅ s₅ I₅ => ?_) hL hk hln hd))
      refine st I₅ (fun s₆ I₆ => ?_) hL hln hp
      have e : (y ++ [45]).take ((y ++ [45]).length - 1) = y := by simp
      rw [e] at I₆
      refine wpAny_execs_nil ⟨y.length, by simp, _, y, t₅, I₆, lookup_put .., ?_, ?_, rfl⟩
      · rw [← hcx, unt_snoc, if_pos rfl]
      · simp at hlx; omega
    · rw [show ([c] == [45]) = false by simpa using hc]
      simp only [Bool.false_eq_true, if_false]
      refine wpAny_execs_nil (h t' l' _ I₄ ?_)
      rw [hv', ← hcx, unt_snoc, if_neg hc]
end
end
end Mine

end PartM5

section PartM6
open PySem PySem.W PyProof.Rows PySem.Calls
set_option Elab.async false
set_option maxRecDepth 100000
namespace Mine
noncomputable section

theorem rep1_len (c d : Nat) (x : List Nat) : (rep1 c [d] x).length = x.length := by
  induction x with
  | nil => rfl
  | cons k x ih =>
    have e : rep1 c [d] (k :: x) = (if k = c then [d] else [k]) ++ rep1 c [d] x := by simp [rep1]
    rw [e, List.length_append, ih]
    split <;> simp <;> omega
theorem rpl_le (y : List Nat) (hy : y ≠ []) (n : Nat) : ∀ x : List Nat, x.length ≤ n → (rpl y [] x).length ≤ x.length := by
  induction n with
  | zero =>
    intro x h
    have : x = [] := List.eq_nil_of_length_eq_zero (Nat.le_zero.mp h)
    subst this; exact Nat.le_refl _
  | succ n ih =>
    intro x h
    cases x with
    | nil => exact Nat.le_refl _
    | cons a r =>
      cases hp : y.isPrefixOf (a :: r) with
      | false =>
        rw [rpl_miss _ _ _ _ hp]
        have := ih r (by simp at h; omega)
        simp; omega
      | true =>
        rw [rpl_hit _ _ _ hy hp (by simp)]
        have hl : 1 ≤ y.length := by cases y with | nil => exact absurd rfl hy | cons _ _ => simp
        have := ih ((a :: r).drop y.length) (by simp at h ⊢; omega)
        simp at this ⊢
        omega
theorem coll_le (x : List Nat) : (coll x).length ≤ x.length := by
  induction x with
  | nil => exact Nat.le_refl _
  | cons a r ih =>
    unfold coll
    split
    · simp; omega
    · simp; omega
theorem strp_le (p : Nat → Bool) (x : List Nat) : (strp p x).length ≤ x.length := by
  unfold strp
  rw [List.length_reverse]
  have h1 := (List.dropWhile_suffix (l := (x.dropWhile p).reverse) p).length_le
  have h2 := (List.dropWhile_suffix (l := x) p).length_le
  rw [List.length_reverse] at h1
  omega
theorem jn_le (sep : List Nat) (l : List (List Nat)) : (jn sep l).length ≤ (l.map List.length).sum + l.length * sep.length := by
  induction l with
  | nil => exact Nat.zero_le _
  | cons x r ih =>
    cases r with
    | nil => simp [jn]
    | cons y q =>
      have e : jn sep (x :: y :: q) = x ++ sep ++ jn sep (y :: q) := rfl
      rw [e]
      simp only [List.length_append, List.map_cons, List.sum_cons, List.length_cons, Nat.succ_mul] at ih ⊢
      omega

theorem mem_le_sum {fs : List (List Nat)} {y : List Nat} (h : y ∈ fs) : y.length ≤ (fs.map List.length).sum := by
  induction fs with
  | nil => cases h
  | cons a r ih =>
    simp only [List.map_cons, List.sum_cons]
    rcases List.mem_cons.mp h with rfl | h
    · omega
    · have := ih h; omega
def uk : List Nat := [117, 110, 107, 110, 111, 119, 110]
def subs (x : List Nat) : List Nat := rep1 41 [45] (rep1 40 [45] (rep1 34 [45] (rep1 59 [45] (rep1 58 [45] (rep1 92 [45] (rep1 47 [45] (rep1 32 [95] x)))))))
theorem subs_len (x : List Nat) : (subs x).length = x.length := by simp only [subs, rep1_len]
/-- what _platform makes of its texts -/
def platRow (fs : List (List Nat)) : List Nat := jn [45] ((fs.filter fun x => decide (x.length ≠ 0)).map (strp Unicode.isSpace))
def plat (fs : List (List Nat)) : List Nat := unt (coll (rpl uk [] (subs (platRow fs))))
theorem platRow_le (fs : List (List Nat)) : (platRow fs).length ≤ (fs.map List.length).sum + fs.length := by
  have h := jn_le [45] ((fs.filter fun x => decide (x.length ≠ 0)).map (strp Unicode.isSpace))
  have h2 : (((fs.filter fun x => decide (x.length ≠ 0)).map (strp Unicode.isSpace)).map List.length).sum ≤ (fs.map List.length).sum := by
    induction fs with
    | nil => exact Nat.le_refl _
    | cons x r ih =>
      have := strp_le Unicode.isSpace x
      rw [List.filter_cons]
      split
      · simp only [List.map_cons, List.sum_cons]
        have ih' := ih (jn_le _ _)
        omega
      · simp only [List.map_cons, List.sum_cons]
        have ih' := ih (jn_le _ _)
        omega
  have h3 : (fs.filter fun x => decide (x.length ≠ 0)).length ≤ fs.length := List.length_filter_le _ _
  simp only [List.length_map, List.length_cons, List.length_nil] at h
  unfold platRow
  omega

theorem bind_star (w : World) (vals : List Value) : bindArgs (fdAt w 21) ⟨vals, []⟩ = (newTuple vals >>= fun v => pure [(Str.ofString "args", v)]) := by
  cases vals with
  | nil => rfl
  | cons a r => rfl

theorem texts_S {fs : List (List Nat)} {vals : List Value} (hn : vals.length = fs.length) (hv : ∀ i (h : i < fs.length), ∃ t, vals[i]? = some (.str (S fs[i]) t)) : Texts vals.toArray (fs.map S) :=
  ⟨by simp [hn], fun i h => by
    have h' : i < fs.length := by simpa using h
    obtain ⟨t, e⟩ := hv i h'
    exact ⟨t, by simpa using e⟩⟩

theorem In.rebase16 {w : World} {s₀ s s' : Shared} {L : Addr} {m : Str → Option Value} {news : List (Addr × Obj)} (I : In w s₀ L m news s) (hk : ∀ b o, b ≠ 16 → s.heap.get? b = some o → s'.heap.get? b = some o) (ht : s.toks ≤ s'.toks) : In w s' L m [] s' :=
  ⟨⟨s'.heap, s'.toks, rfl⟩, fun _ _ _ e => e, I.ns.at' fun o e => hk _ o (fun z => by have := I.lo; rw [z] at this; exact absurd this (by decide)) e, I.gnd.but (X := fun a => a = 16) (fun _ x _ => x) fun b o hb e => hk b o hb e,
    I.lo, Nat.le_refl _, Nat.lt_of_lt_of_le I.pos ht, fun p hp => nomatch hp⟩

section
variable {A : Around} {w : World} {s₀ s : Shared} {L : Addr} {news : List (Addr × Obj)} {E : Value → Shared → Prop}
theorem rep_one {env : Env} {l : List (Str × Value)} {n cs zs : Str} {x : List Nat} {c z : Nat} {t : Tok} {k1 k2 : Nat} {p3 p4 p5 p6 p7 p8 p9 : Pos} {rest : List Stmt} {Q : Flow → Shared → Prop} (I : In w s₀ L (loc l) news s) (hv : l.lookup n = some (.str (S x) t))
    (hx : x.length ≤ 100000)
    (h : ∀ t' l' s', In w s₀ L (loc l') news s' → l'.lookup n = some (.str (S (rep1 c [z] x)) t') → wpAny (model pg w) A (execs rest env) Q E s')
    (hc : cs = S [c]) (hz : zs = S [z]) (hne : [c] ≠ [z] := by decide)
    (hL : env.locals = L := by rfl) (hk : env.scope.kind = .function := by rfl) (hd : (n == ("__debug__" : Str)) = false := by decide) (hline : (p5.endLine == p8.line) = true := by rfl)
    (hln : env.kindOf n = some .local := by rfl) (hp : (env.scope.kind == .class || (env.scope.kind == .module && env.locals != env.globals)) = false := by rfl) :
    wpAny (model pg w) A (execs (.Assign [.Name n p3] (.Call (.Attribute (.Name n p4) (Str.ofString "replace") p5) [.Constant (.str cs) k1 p6, .Constant (.str zs) k2 p7] [] p8) p9 :: rest) env) Q E s := by
  refine wpAny_execs_cons (rep_stmt I hv hx (fun t' s' I' => ?_) hc hz hne (by simp) (by simp) hL hk hln hd hline hln hp)
  rw [rpl_one] at I'
  exact h t' _ s' I' (lookup_put ..)
end

set_option maxHeartbeats 2000000 in
theorem plat_body {w : World} {A : Around} {s₀ s : Shared} {L T : Addr} {vals : List Value} {fs : List (List Nat)} {news : List (Addr × Obj)} (I : In w s₀ L (loc [(Str.ofString "args", .ref T)]) news s) (hT : s.heap.IsTuple T vals.toArray) (hT16 : T ≠ 16)
    (hg : AllBare s.gens) (hTab : Tab s.heap) (hn : vals.length = fs.length) (hv : ∀ i (h : i < fs.length), ∃ t, vals[i]? = some (.str (S fs[i]) t)) (hfs : fs.length ≤ 100) (hsum : (fs.map List.length).sum ≤ 90000) (hh : A.handled = none) (hroom : A.depth < recursionLimit) :
    wpAny (model pg w) A (execs (bodyOf (fdAt w 21)) (callEnv (fdAt w 21) L 21)) (fun f s' => (s'.os = s.os ∧ AllBare s'.gens ∧ s.toks ≤ s'.toks ∧ Tab s'.heap ∧ Gnd w s'.heap ∧ (∀ b o, b ≠ 16 → b ≠ L → s.heap.get? b = some o → s'.heap.get? b = some o)) ∧ ∃ t, f = .ret (.str (S (plat fs)) t)) (fun _ _ => False) s := by
  have X := texts_S hn hv
  have hl : ∀ x ∈ fs.map S, x.length ≤ 100000 := by
    intro x hx
    obtain ⟨y, hy, rfl⟩ := List.mem_map.mp hx
    rw [S_length]
    have : y.length ≤ (fs.map List.length).sum := mem_le_sum hy
    omega
  refine wpAny_execs_cons (wpAny_Assign_Name ?_)
  refine ev_join I rfl hT X hT16 hg hTab hl (by simpa using hfs) rfl hh hroom fun t₁ s₁ ho₁ hg₁ ht₁ hT₁ hk₁ => ?_
  have I₁ := I.rebase16 hk₁ ht₁
  have ej : Txt.join (Str.ofString "-") (((fs.map S).filter fun x => decide (x.length ≠ 0)).map Txt.strip) = S (platRow fs) := by
    rw [show Str.ofString "-" = S [45] by decide +kernel]
    have e1 : ((fs.map S).filter fun x => decide (x.length ≠ 0)).map Txt.strip = ((fs.filter fun x => decide (x.length ≠ 0)).map (strp Unicode.isSpace)).map S := by
      rw [List.filter_map, List.map_map, List.map_map]
      have e2 : ((fun x : Str => decide (x.length ≠ 0)) ∘ S) = fun x : List Nat => decide (x.length ≠ 0) := by funext x; simp [S_length]
      have e3 : (Txt.strip ∘ S) = (S ∘ strp Unicode.isSpace) := by funext x; exact stripBy_S Unicode.isSpace x
      rw [e2, e3]
    rw [e1, join_S]
    rfl
  rw [ej]
  have hr := platRow_le fs
  have hx0 : (platRow fs).length ≤ 100000 := by omega
  refine st I₁ fun s₂ I₂ => ?_
  have r1 : (rep1 32 [95] (platRow fs)).length ≤ 100000 := by rw [rep1_len]; exact hx0
  have r2 : (rep1 47 [45] (rep1 32 [95] (platRow fs))).length ≤ 100000 := by rw [rep1_len]; exact r1
  refine rep_one (c := 32) (z := 95) I₂ (lookup_put ..) hx0 (fun t l₃ s₃ I₃ v₃ => ?_) (by decide +kernel) (by decide +kernel)
  refine rep_one (c := 47) (z := 45) I₃ v₃ r1 (fun t l₄ s₄ I₄ v₄ => ?_) (by decide +kernel) (by decide +kernel)
  refine rep_one (c := 92) (z := 45) I₄ v₄ r2 (fun t l₅ s₅ I₅ v₅ => ?_) (by decide +kernel) (by decide +kernel)
  refine rep_one (c := 58) (z := 45) I₅ v₅ (by rw [rep1_len]; exact r2) (fun t l₆ s₆ I₆ v₆ => ?_) (by decide +kernel) (by decide +kernel)
  refine rep_one (c := 59) (z := 45) I₆ v₆ (by rw [rep1_len, rep1_len]; exact r2) (fun t l₇ s₇ I₇ v₇ => ?_) (by decide +kernel) (by decide +kernel)
  refine rep_one (c := 34) (z := 45) I₇ v₇ (by rw [rep1_len, rep1_len, rep1_len]; exact r2) (fun t l₈ s₈ I₈ v₈ => ?_) (by decide +kernel) (by decide +kernel)
  refine rep_one (c := 40) (z := 45) I₈ v₈ (by rw [rep1_len, rep1_len, rep1_len, rep1_len]; exact r2) (fun t l₉ s₉ I₉ v₉ => ?_) (by decide +kernel) (by decide +kernel)
  refine rep_one (c := 41) (z := 45) I₉ v₉ (by rw [rep1_len, rep1_len, rep1_len, rep1_len, rep1_len]; exact r2) (fun t la sa Ia va => ?_) (by decide +kernel) (by decide +kernel)
  have hs0 : (subs (platRow fs)).length ≤ 100000 := by rw [subs_len]; exact hx0
  have va' : la.lookup (Str.ofString "platform") = some (.str (S (subs (platRow fs))) t) := va
  refine wpAny_execs_cons (rep_stmt (c := uk) (z := []) Ia va' hs0 (fun t sb Ib => ?_) (by decide +kernel) (by decide +kernel) (by decide) (by decide) (by decide))
  have hb0 : (rpl uk [] (subs (platRow fs))).length ≤ 100000 := Nat.le_trans (rpl_le uk (by decide) _ _ (Nat.le_refl _)) hs0
  refine wh_coll Ib (lookup_put ..) hb0 (by decide +kernel) (by decide +kernel) (by decide +kernel) (fun t lc sc Ic vc => ?_)
  refine wh_unt Ic vc (Nat.le_trans (coll_le _) hb0) (by decide +kernel) (fun t ld sd Id vd => ?_)
  refine ret_name Id vd ?_
  obtain ⟨hd, tkd, rfl⟩ := Id.same
  exact ⟨⟨ho₁, hg₁, Nat.le_trans ht₁ Id.tk, hT₁.at' fun b o hb e => Id.keep b o (fun z => absurd Id.lo (by rw [← z]; exact Nat.not_lt.mpr hb)) e, Id.gnd, fun b o h1 h2 e => Id.keep b o h2 (hk₁ b o h1 e)⟩, t, rfl⟩

set_option maxHeartbeats 1000000 in
theorem platform {w : World} {A : Around} {s : Shared} {vals : List Value} {fs : List (List Nat)} (G : Gnd w s.heap) (ht : 0 < s.toks) (hg : AllBare s.gens) (hT : Tab s.heap)
    (hn : vals.length = fs.length) (hv : ∀ i (h : i < fs.length), ∃ t, vals[i]? = some (.str (S fs[i]) t)) (hfs : fs.length ≤ 100) (hsum : (fs.map List.length).sum ≤ 90000) (hh : A.handled = none) (hroom : A.depth + 8 < recursionLimit) :
    wpAny (model pg w) A (call (.ref 21) vals) (fun v s' => (s'.os = s.os ∧ AllBare s'.gens ∧ s.toks ≤ s'.toks ∧ Tab s'.heap ∧ Gnd w s'.heap ∧ (∀ b o, b ≠ 16 → s.heap.get? b = some o → s'.heap.get? b = some o)) ∧ ∃ t, v = .str (S (plat fs)) t) (fun _ _ => False) s := by
  have ho : ∃ c d sl, (KF w).lookup 21 = some ⟨c, d, .func (fdAt w 21), sl⟩ := ⟨_, _, _, rfl⟩
  obtain ⟨c, d, sl, ho⟩ := ho
  refine wpAny_call (codeAny_call_function (by omega) (G.k 21 _ ho) rfl rfl rfl (body := bodyOf (fdAt w 21)) rfl (codeRec_of G.k rfl) ?_)
  rw [bind_star]
  refine wpAny_bind (wpAny_newObj_type ?_ ?_)
  · refine wpAny_pure (wpAny_newFunctionEnv (fun x hx => of_decide_eq_true (List.all_eq_true.mp (show ((fdAt w 21).scope.names.all fun x => decide (x.2 ≠ .cell)) = true from rfl) x hx)) ?_ (fun h₀ hns hsb => ?_) rfl)
    · intro x hx
      obtain rfl : x = _ := List.mem_singleton.mp hx
      rfl
    · generalize hO : ({ cls := .type "tuple", dict := none, data := .seq vals.toArray } : Obj) = O at hns hsb ⊢
      have hOf : O.isFreed = false := by rw [← hO]; rfl
      dsimp only at hns hsb ⊢
      generalize hH : s.heap.push O = H at hns hsb ⊢
      have hHs : H.objs.size = s.heap.objs.size + 1 := by rw [← hH, Heap.size_push]
      have keep : ∀ b o, s.heap.get? b = some o → h₀.get? b = some o := fun b o e => hsb.extBut b o (by have := Heap.lt_size e; rw [hHs]; exact Nat.ne_of_lt (Nat.lt_succ_of_lt this)) (Heap.get?_push_of_some _ (hH ▸ Heap.get?_push_of_some _ e))
      have hOg : h₀.get? s.heap.objs.size = some O := hsb.extBut _ _ (by rw [hHs]; exact Nat.ne_of_lt (Nat.lt_succ_self _)) (Heap.get?_push_of_some _ (hH ▸ Heap.get?_push_size _ hOf))
      have G₀ : Gnd w h₀ := G.keeps keep
      refine ⟨G₀.c, codeAny_func ?_⟩
      have hLn : s.heap.get? H.objs.size = none := by
        cases e : s.heap.get? H.objs.size with
        | none => rfl
        | some o => exact absurd (Heap.lt_size e) (by rw [hHs]; exact Nat.not_lt.mpr (Nat.le_succ _))
      have I : In w s H.objs.size (loc [(Str.ofString "args", .ref s.heap.objs.size)]) [(s.heap.objs.size, O)] { s with heap := h₀, toks := s.toks + 1 } :=
        ⟨⟨h₀, _, rfl⟩, fun b o _ e => keep b o e, hns, G₀, by rw [hHs]; exact Nat.lt_succ_of_lt G.size, Nat.le_succ _, ht, fun p hp => by
          obtain rfl : p = _ := List.mem_singleton.mp hp
          exact ⟨by rw [hHs]; exact Nat.ne_of_lt (Nat.lt_succ_self _), hOg⟩⟩
      refine wpAny_mono (Q := fun f s' => ((s'.os = s.os ∧ AllBare s'.gens ∧ s.toks ≤ s'.toks ∧ Tab s'.heap ∧ Gnd w s'.heap ∧ (∀ b o, b ≠ 16 → s.heap.get? b = some o → s'.heap.get? b = some o)) ∧ ∃ t, f = .ret (.str (S (plat fs)) t))) (E := fun _ _ => False) ?_ (fun f s' h' => ?_) (fun _ _ x => x.elim)
      · have hTup : h₀.IsTuple s.heap.objs.size vals.toArray := ⟨O, hOg, by rw [← hO], 0, by rw [← hO]⟩
        refine wpAny_mono (plat_body I hTup (fun z => absurd G.size (by rw [z]; decide)) hg (hT.keeps keep) hn hv hfs hsum hh ?_) (fun f s' h' => ?_) (fun _ _ x => x)
        · show A.depth + 1 < recursionLimit
          omega
        · obtain ⟨⟨a1, a2, a3, a4, a5, a6⟩, a7⟩ := h'
          exact ⟨⟨a1, a2, Nat.le_trans (Nat.le_succ _) a3, a4, a5, fun b o hb e => a6 b o hb (fun z => by rw [z, hLn] at e; cases e) (keep b o e)⟩, a7⟩
      · obtain ⟨h1, t, rfl⟩ := h'
        exact ⟨h1, t, rfl⟩
  · show vals.toArray.size ≤ sizeLine
    rw [List.size_toArray, sizeLine_eq]
    omega
end
end Mine

end PartM6

section PartM7
open PySem PySem.W PyProof.Rows PySem.Calls
set_option Elab.async false
set_option maxRecDepth 100000
namespace Mine
noncomputable section

theorem In.trans {w : World} {s₀ s₁ s₂ : Shared} {L : Addr} {m m' : Str → Option Value} {news news' : List (Addr × Obj)} (I : In w s₀ L m news s₁) (J : In w s₁ L m' news' s₂) : In w s₀ L m' news' s₂ :=
  ⟨let ⟨_, _, e⟩ := I.same; let ⟨h, k, e'⟩ := J.same; ⟨h, k, by rw [e', e]⟩, fun b o hb e => J.keep b o hb (I.keep b o hb e), J.ns, J.gnd, J.lo, Nat.le_trans I.tk J.tk, I.t0, J.nw⟩
/-- an iterator has gone on -/
theorem In.walk {w : World} {s₀ s : Shared} {L : Addr} {m : Str → Option Value} {news : List (Addr × Obj)} (I : In w s₀ L m news s) {wr : List Addr} {h' : Heap} {k : Nat}
    (hwr : ∀ b ∈ wr, s₀.heap.get? b = none ∧ 92 < b ∧ b ≠ L ∧ ∀ p ∈ news, p.1 ≠ b) (ht : s.toks ≤ k) (hk : ∀ b o, b ∉ wr → s.heap.get? b = some o → h'.get? b = some o) : In w s₀ L m news { s with heap := h', toks := k } :=
  ⟨let ⟨_, _, e⟩ := I.same; ⟨h', k, by rw [e]⟩, fun b o hb e => hk b o (fun hm => by rw [(hwr b hm).1] at e; cases e) (I.keep b o hb e), I.ns.at' fun o e => hk _ o (fun hm => (hwr _ hm).2.2.1 rfl) e,
    I.gnd.but (X := fun a => a ∈ wr) (fun a x y => absurd (hwr a x).2.1 (Nat.not_lt.mpr y)) (fun b o hb e => hk b o hb e), I.lo, Nat.le_trans I.tk ht, I.t0, fun p hp => ⟨(I.nw p hp).1, hk _ _ (fun hm => (hwr _ hm).2.2.2 p hp rfl) (I.nw p hp).2⟩⟩

theorem In.self_walk {w : World} {s₀ s : Shared} {L : Addr} {m : Str → Option Value} {news : List (Addr × Obj)} (I : In w s₀ L m news s) {wr : List Addr} {h' : Heap} {k : Nat}
    (hwr : ∀ b ∈ wr, 92 < b ∧ b ≠ L ∧ ∀ p ∈ news, p.1 ≠ b) (ht : s.toks ≤ k) (hk : ∀ b o, b ∉ wr → s.heap.get? b = some o → h'.get? b = some o) : In w { s with heap := h', toks := k } L m news { s with heap := h', toks := k } :=
  ⟨⟨h', k, rfl⟩, fun _ _ _ e => e, I.ns.at' fun o e => hk _ o (fun hm => (hwr _ hm).2.1 rfl) e,
    I.gnd.but (X := fun a => a ∈ wr) (fun a x y => absurd (hwr a x).1 (Nat.not_lt.mpr y)) (fun b o hb e => hk b o hb e), I.lo, Nat.le_refl _, Nat.lt_of_lt_of_le I.pos ht, fun p hp => ⟨(I.nw p hp).1, hk _ _ (fun hm => (hwr _ hm).2.2 p hp rfl) (I.nw p hp).2⟩⟩

section
variable {A : Around} {w : World} {E : Value → Shared → Prop}

/-- a for over an iterator: its turns change the frame alone -/
theorem for_in {sB s : Shared} {L it : Addr} {l : List (Str × Value)} {news : List (Addr × Obj)} {env : Env} {x : Str} {px : Pos} {body : List Stmt} {fp wr : List Addr} {n : Nat} {P : Nat → Value → Prop} {St : Nat → Heap → Prop} {R : Result → Shared → Prop}
    (W : Walks pg w A it fp wr n P St) (hLf : L ∉ fp) (hwr : ∀ b ∈ wr, sB.heap.get? b = none ∧ 92 < b ∧ b ≠ L ∧ ∀ p ∈ news, p.1 ≠ b) (F : Nat → List (Str × Value) → Prop)
    (I : In w sB L (loc l) news s) (hF : F 0 l) (hSt : St 0 s.heap)
    (turn : ∀ i v l₁ s₁, i < n → F i l₁ → P i v → In w s₁ L (loc (put x v l₁)) news s₁ → wpAny (model pg w) A (execs body env) (fun f s₃ => f = .next ∧ ∃ l₃, In w s₁ L (loc l₃) news s₃ ∧ F (i + 1) l₃) (fun _ _ => False) s₁)
    (fin : ∀ l₁ s₁, F n l₁ → In w sB L (loc l₁) news s₁ → R (.ok .next) s₁)
    (hL : env.locals = L := by rfl) (hx : env.kindOf x = some .local := by rfl) (hp : (env.scope.kind == .class || (env.scope.kind == .module && env.locals != env.globals)) = false := by rfl) :
    codeAny (model pg w) A (.forLoop (.Name x px) (.ref it) body [] env) R s := by
  refine codeAny_forLoop (fun k s' => ∃ i l', k = n - i ∧ i ≤ n ∧ In w sB L (loc l') news s' ∧ F i l' ∧ St i s'.heap) ?_ n ⟨0, l, rfl, Nat.zero_le _, I, hF, hSt⟩
  rintro k s' ⟨i, l', rfl, hi, I', hF', hSt'⟩
  by_cases hlt : i < n
  · refine wpAny_with_toks (n := s'.toks) (Nat.le_refl _) (W.item i s' _ _ hlt hSt' fun v h₁ tk₁ hPv hSt₁ hk₁ ht₁ => ?_)
    have I₁ : In w sB L (loc l') news { s' with heap := h₁, toks := tk₁ } := I'.walk hwr ht₁ hk₁
    refine wpAny_assign_Name ?_
    subst hL
    refine wpAny_storeName_local hx I₁.ns (fun h₂ hn hs => ?_) hp
    rw [loc_put] at hn
    have I₂ : In w sB env.locals (loc (put x v l')) news { s' with heap := h₂, toks := tk₁ + 1 } := I₁.put (Nat.le_succ _) hn hs
    refine wpAny_mono (turn i v l' _ hlt hF' hPv I₂.anew) (fun f s₃ h₃ => ?_) (fun _ _ x => x.elim)
    obtain ⟨rfl, l₃, I₃, hF₃⟩ := h₃
    refine ⟨n - (i + 1), by omega, i + 1, l₃, rfl, hlt, I₂.trans I₃, hF₃, ?_⟩
    exact W.frame _ _ _ (W.frame _ _ _ hSt₁ fun b hb o e => hs.extBut b o (fun z => hLf (z ▸ hb)) e) fun b hb o e => I₃.keep b o (fun z => hLf (z ▸ hb)) e
  · have hin : i = n := by omega
    subst hin
    refine wpAny_with_toks (n := s'.toks) (Nat.le_refl _) (W.done s' _ _ hSt' fun h₁ tk₁ hk₁ ht₁ => ?_)
    exact wpAny_execs_nil (fin l' _ hF' (I'.walk hwr ht₁ hk₁))
end
end
end Mine

end PartM7

section PartM8
open PySem PySem.W PyProof.Rows PySem.Calls
set_option Elab.async false
set_option maxRecDepth 100000
namespace Mine
noncomputable section

/-- values that are these texts -/
def SV : List Value → List (List Nat) → Prop
  | [], [] => True
  | v :: vs, f :: fs => (∃ t, v = .str (S f) t) ∧ SV vs fs
  | _, _ => False
theorem SV.length : ∀ {vs : List Value} {fs : List (List Nat)}, SV vs fs → vs.length = fs.length
  | [], [], _ => rfl
  | v :: vs, f :: fs, h => by simp [SV.length h.2]
  | [], _ :: _, h => h.elim
  | _ :: _, [], h => h.elim
theorem SV.get : ∀ {vs : List Value} {fs : List (List Nat)}, SV vs fs → ∀ i (h : i < fs.length), ∃ t, vs[i]? = some (.str (S fs[i]) t)
  | [], [], _, i, h => by simp at h
  | v :: vs, f :: fs, h, 0, _ => by obtain ⟨⟨t, rfl⟩, _⟩ := h; exact ⟨t, rfl⟩
  | v :: vs, f :: fs, h, i + 1, hi => by simpa using SV.get h.2 i (by simpa using hi)
  | [], _ :: _, h, _, _ => h.elim
  | _ :: _, [], h, _, _ => h.elim
theorem SV.append : ∀ {vs us : List Value} {fs gs : List (List Nat)}, SV vs fs → SV us gs → SV (vs ++ us) (fs ++ gs)
  | [], _, [], _, _, h => h
  | v :: vs, _, f :: fs, _, h, h' => ⟨h.1, SV.append h.2 h'⟩
  | [], _, _ :: _, _, h, _ => h.elim
  | _ :: _, _, [], _, h, _ => h.elim
theorem SV.snoc_inv : ∀ {vs : List Value} {fs : List (List Nat)} {f : List Nat}, SV vs (fs ++ [f]) → ∃ us t, vs = us ++ [.str (S f) t] ∧ SV us fs
  | [], [], _, h => h.elim
  | [], _ :: _, _, h => h.elim
  | [v], [], f, h => by obtain ⟨⟨t, rfl⟩, _⟩ := h; exact ⟨[], t, rfl, trivial⟩
  | v :: u :: vs, [], f, h => h.2.elim
  | v :: vs, g :: fs, f, h => by
    obtain ⟨us, t, e, h'⟩ := SV.snoc_inv (vs := vs) (fs := fs) (f := f) h.2
    exact ⟨v :: us, t, by rw [e]; rfl, h.1, h'⟩

/-- a display of written texts -/
inductive Consts : List Expr → List (List Nat) → Prop
  | nil : Consts [] []
  | cons {x : Str} {k : Nat} {p : Pos} {r : List Expr} {f : List Nat} {fs : List (List Nat)} : x = S f → Consts r fs → Consts (.Constant (.str x) k p :: r) (f :: fs)
section
variable {M : Model} {A : Around} {E : Value → Shared → Prop} {w : World} {s₀ : Shared} {L : Addr} {m : Str → Option Value} {news : List (Addr × Obj)} {env : Env}
theorem items_consts0 {pos : Pos} {elts : List Expr} {fs : List (List Nat)} (hc : Consts elts fs) : ∀ {s : Shared} {Q : List Value → Shared → Prop}, In w s₀ L m news s →
    (∀ vs s', SV vs fs → In w s₀ L m news s' → Q vs s') → wpAny M A (spliced (backTo pos (starEach elts env))) Q E s := by
  induction hc with
  | nil => intro s Q I h; exact wpAny_items_nil (h [] s trivial I)
  | cons hx hr ih =>
    intro s Q I h
    subst hx
    refine wpAny_items_cons (ldc I fun t s₁ _ _ I₁ => ?_)
    exact ih I₁ fun vs s' hv I' => h _ _ ⟨⟨t, rfl⟩, hv⟩ I'

theorem items_consts {pos : Pos} {elts : List Expr} (fs : List (List Nat)) {s : Shared} {Q : List Value → Shared → Prop} (I : In w s₀ L m news s) (h : ∀ vs s', SV vs fs → In w s₀ L m news s' → Q vs s') (hc : Consts elts fs) :
    wpAny M A (spliced (backTo pos (starEach elts env))) Q E s := items_consts0 hc I h

/-- a new list -/
theorem new_list {s : Shared} {vs : List Value} {Q : Value → Shared → Prop} (I : In w s₀ L m news s) (hsz : vs.length ≤ 100000)
    (h : ∀ D s', s.heap.get? D = none → D = s.heap.objs.size → (∀ b o, s.heap.get? b = some o → s'.heap.get? b = some o) → In w s₀ L m ((D, { cls := .type "list", data := .seq vs.toArray }) :: news) s' → Q (.ref D) s') : wpAny M A (newList vs) Q E s := by
  refine wpAny_newObj_type (h _ _ ?_ rfl (fun b o e => Heap.get?_push_of_some _ e) (I.push { cls := .type "list", data := .seq vs.toArray })) ?_
  · cases e : s.heap.get? s.heap.objs.size with
    | none => rfl
    | some o => exact absurd (Heap.lt_size e) (Nat.lt_irrefl _)
  · show vs.toArray.size ≤ sizeLine
    rw [List.size_toArray, sizeLine_eq]; omega
end

/-- xs[-1] = v -/
theorem set_last {prog : Program} {w : World} {A : Around} {E : Value → Shared → Prop} {s : Shared} {l : Addr} {us : List Value} {u v : Value} {t : Tok} {Q : Unit → Shared → Prop} (hl : s.heap.PlainList l (us ++ [u]).toArray)
    (hQ : ∀ h', h'.PlainList l (us ++ [v]).toArray → Heap.SameBut l s.heap h' → Q () { s with heap := h' }) :
    wpAny (model prog w) A (setItem (.ref l) (.int (-1) t) v) Q E s := by
  have hL := hl.isList
  obtain ⟨ne, ho⟩ := hl
  have hd : ({ cls := .type "list", data := .seq (us ++ [u]).toArray ne } : Obj).data = .seq (us ++ [u]).toArray ne := rfl
  unfold setItem
  try with_reducible refine wpAny_holding ?_
  first | refine wpAny_bind (wpAny_pure ?_) | skip
  refine wpAny_bind (wpAny_sequenceKey hL.typeIs (by decide) ?_)
  refine wpAny_bind (wpAny_callSpecial?_slot (name := Str.ofString "__setitem__") hL.typeIs slot_list_setitem
    (wpAny_call_entry slot_list_setitem hL.typeIs entry_list_setitem ?_ (args_list_setitem _ _ _)))
  show wpAny _ _ (Builtin.List.listSubscript? (.int (-1) t) >>= _) _ _ s
  refine wpAny_bind (wpAny_listSubscript_int (fitsIndex_neg (by decide) (by decide)) ?_)
  have hidx : seqIndex? (-1) (us ++ [u]).toArray.size = some us.length := by
    rw [PySem.seqIndex_neg (by decide) (by simp; omega)]
    simp
    omega
  show wpAny _ _ ((Builtin.List.listItems (.ref l) >>= fun xs => pure ((seqIndex? (-1) xs.size).bind fun i => xs[i]?.map (i, ·))) >>= _) _ _ s
  refine wpAny_bind (wpAny_bind ?_)
  show wpAny _ _ (seqItems? (.ref l) >>= _) _ _ s
  refine wpAny_bind (wpAny_seqItems ho hd (wpAny_pure (wpAny_pure ?_)))
  rw [hidx]
  have hget : (us ++ [u]).toArray[us.length]? = some u := by simp
  simp only [Option.bind_some, hget, Option.map_some]
  show wpAny _ _ (setSeqItemAt l us.length v >>= _) _ _ s
  have hnew : (s.heap.update l (Obj.mapSeq (·.setIfInBounds us.length v))).PlainList l (us ++ [v]).toArray := by
    have e : (us ++ [u]).toArray.setIfInBounds us.length v = (us ++ [v]).toArray := by simp
    refine ⟨if ((us ++ [u]).toArray.setIfInBounds us.length v).size == (us ++ [u]).toArray.size then ne else ne + 1, ?_⟩
    rw [← e]
    exact Heap.get?_update_self _ ho rfl
  refine wpAny_bind (wpAny_setSeqItemAt ho hd ?_)
  first
    | exact wpAny_bind (wpAny_pure (wpAny_pure ⟨.none, rfl, wpAny_pure (hQ _ hnew (Heap.SameBut.update ..))⟩))
    | exact wpAny_pure ⟨.none, rfl, wpAny_pure (hQ _ hnew (Heap.SameBut.update ..))⟩
end
end Mine

end PartM8

section PartM9
open PySem PySem.W PyProof.Rows PySem.Calls
set_option Elab.async false
set_option maxRecDepth 100000
namespace Mine
noncomputable section

def pcs : List (List Nat) := [[117, 110, 107, 110, 111, 119, 110], [117, 110], [107, 110, 111, 119, 110], [97], [108, 116], [35], [32], [45], [95], [47], [92], [58], [59], [40], [41], [38], [60], [62], [34], [13], [10], [9]]
def fstep (F : List (List Nat) × List Nat) (x : Int) : List (List Nat) × List Nat := if 21 < x.fmod 24 then (F.1 ++ [F.2], []) else (F.1, F.2 ++ pcs.getD (x.fmod 24).toNat [])
def ffold (ns : List Int) : List (List Nat) × List Nat := ns.foldl fstep ([], [])
def flat (F : List (List Nat) × List Nat) : List (List Nat) := F.1 ++ [F.2]
def fieldsL (ns : List Int) : List (List Nat) := flat (ffold ns)

theorem mod24 (x : Int) : 0 ≤ x.fmod 24 ∧ x.fmod 24 < 24 := ⟨Int.fmod_nonneg_of_pos _ (by decide), Int.fmod_lt_of_pos _ (by decide)⟩
theorem piece_le (k : Nat) : (pcs.getD k []).length ≤ 7 := by
  by_cases h : k < 22
  · have : ∀ k : Fin 22, (pcs.getD k.1 []).length ≤ 7 := by decide
    exact this ⟨k, h⟩
  · have : pcs.getD k [] = [] := by
      rw [List.getD_eq_getElem?_getD, List.getElem?_eq_none (by show 22 ≤ k; omega)]; rfl
    rw [this]; exact Nat.zero_le _

section
variable {A : Around} {E : Value → Shared → Prop} {w : World} {s₀ s : Shared} {L : Addr} {l : List (Str × Value)} {news : List (Addr × Obj)} {env : Env}

theorem ev_mod {x : Str} {n : Int} {t : Tok} {k : Nat} {p1 p2 p3 : Pos} {Q : Value → Shared → Prop} (I : In w s₀ L (loc l) news s) (hv : l.lookup x = some (.int n t))
    (h : ∀ t' k, s.toks ≤ k → Q (.int (n.fmod 24) t') { s with toks := k })
    (hL : env.locals = L := by rfl) (hk : env.scope.kind = .function := by rfl) (hl : env.kindOf x = some .local := by rfl) (hd : (x == ("__debug__" : Str)) = false := by decide) :
    wpAny (model pg w) A (eval (.BinOp (.Name x p1) .Mod (.Constant (.int 24) k p2) p3) env) Q E s :=
  wpAny_BinOp (ldl I hv (wpAny_Constant_int (mod_int' (by decide) (h _ _ (Nat.le_succ_of_le (Nat.le_succ _))))) hL hk hl hd)

theorem fields_turn {D Pc : Addr} {n : Int} {t : Tok} {vals pvals : List Value} {F : List (List Nat) × List Nat} {po : Obj} {k1 k2 k3 k4 k5 k6 : Nat} {es : Str} {q1 q2 q3 q4 q5 q6 q7 q8 q9 q10 q11 q12 q13 q14 q15 q16 q17 q18 q19 q20 q21 q22 q23 q24 q25 q26 : Pos}
    (I : In w s L (loc l) [(Pc, po)] s) (hx : l.lookup (Str.ofString "x") = some (.int n t)) (hf : l.lookup (Str.ofString "fields") = some (.ref D)) (hpc : l.lookup (Str.ofString "pieces") = some (.ref Pc))
    (hpo : po = { cls := .type "list", data := .seq pvals.toArray }) (hpv : SV pvals pcs) (hD : s.heap.PlainList D vals.toArray) (hV : SV vals (flat F)) (hlen : F.2.length ≤ 1000) (hcnt : F.1.length ≤ 1000) (hes : es = S [])
    (hL : env.locals = L := by rfl) (hk : env.scope.kind = .function := by rfl) (hlx : env.kindOf (Str.ofString "x") = some .local := by rfl) (hlf : env.kindOf (Str.ofString "fields") = some .local := by rfl) (hlp : env.kindOf (Str.ofString "pieces") = some .local := by rfl)
    (hi : interactive env = false := by rfl) (hline : (q7.endLine == q9.line) = true := by rfl) :
    wpAny (model pg w) A (execs [.If (.Compare (.BinOp (.Name (Str.ofString "x") q1) .Mod (.Constant (.int 24) k1 q2) q3) [.Gt] [.Constant (.int 21) k2 q4] q5)
        [.Expr (.Call (.Attribute (.Name (Str.ofString "fields") q6) (Str.ofString "append") q7) [.Constant (.str es) k3 q8] [] q9) q10]
        [.Assign [.Subscript (.Name (Str.ofString "fields") q11) (.UnaryOp .USub (.Constant (.int 1) k4 q12) q13) q14]
          (.BinOp (.Subscript (.Name (Str.ofString "fields") q15) (.UnaryOp .USub (.Constant (.int 1) k5 q16) q17) q18) .Add (.Subscript (.Name (Str.ofString "pieces") q19) (.BinOp (.Name (Str.ofString "x") q20) .Mod (.Constant (.int 24) k6 q21) q22) q23) q24) q25] q26] env)
      (fun f s₃ => f = .next ∧ ∃ vals' h' tk, s₃ = { s with heap := h', toks := tk } ∧ s.toks ≤ tk ∧ (∀ b o, b ≠ D → s.heap.get? b = some o → h'.get? b = some o) ∧ h'.PlainList D vals'.toArray ∧ SV vals' (flat (fstep F n))) (fun _ _ => False) s := by
  have hlenv := hV.length
  have hsz : vals.toArray.size ≤ sizeLine := by
    rw [List.size_toArray, hlenv, sizeLine_eq]
    simp [flat]
    omega
  refine wpAny_execs_cons (wpAny_If (wpAny_isTrue_Compare1 (ev_mod I hx (fun t' k hk' => wpAny_Constant_int (PyProof.Rows.gt_int (wpAny_truthy_bool ?_))) hL hk hlx)))
  have hm := mod24 n
  by_cases hc : 21 < n.fmod 24
  · rw [decide_eq_true hc, if_pos rfl]
    have I₁ : In w s L (loc l) [(Pc, po)] { s with toks := k + 1 } := I.tok (by omega)
    refine wpAny_execs_cons (wpAny_Expr ?_ hi)
    refine Call_method1 rfl rfl hline (ldl I₁ hf ?_ hL hk hlf)
    obtain ⟨nn, hDo⟩ := id hD
    refine ⟨"list", _, PySem.F.plainAttrs_list, PySem.F.slot_list_append, PySem.F.type_list_append, ⟨_, hDo, rfl⟩, (fun a e => by cases e; exact ⟨_, hDo, rfl⟩), ?_⟩
    refine callWith_builtin rfl (evalArgs_plain (spliced_cons (wpAny_Constant_str (spliced_nil ?_))))
    refine wpAny_list_append_plain (s := { s with toks := k + 1 + 1 }) hD (fun h' hp hs => ?_) hsz
    refine wpAny_execs_nil (wpAny_execs_nil ⟨rfl, vals ++ [.str es (k + 1)], h', k + 1 + 1, rfl, by omega, fun b o hb e => hs.extBut b o hb e, by simpa using hp, ?_⟩)
    have e : flat (fstep F n) = flat F ++ [[]] := by simp [flat, fstep, hc]
    rw [e]
    exact hV.append ⟨⟨_, by rw [hes]⟩, trivial⟩
  · rw [decide_eq_false hc, if_neg Bool.false_ne_true]
    have I₁ : In w s L (loc l) [(Pc, po)] { s with toks := k + 1 } := I.tok (by omega)
    obtain ⟨us, u, rfl, hus⟩ := SV.snoc_inv (fs := F.1) (f := F.2) hV
    refine wpAny_execs_cons (wpAny_Assign_Subscript ?_)
    refine wpAny_BinOp (Subscript_ (ldl I₁ hf (wpAny_UnaryOp (wpAny_Constant_int (PyProof.Rows.neg_int ?_))) hL hk hlf))
    have I₂ : In w s L (loc l) [(Pc, po)] { s with toks := k + 1 + 1 + 1 } := I.tok (by omega)
    have hz1 : -(((us ++ [Value.str (S F.2) u]).toArray.size : Nat) : Int) ≤ -1 := by
      rw [List.size_toArray, List.length_append]
      simp only [List.length_cons, List.length_nil]
      omega
    have hz2 : (us ++ [Value.str (S F.2) u]).toArray[((-1 : Int) + ((us ++ [Value.str (S F.2) u]).toArray.size : Nat)).toNat]? = some (.str (S F.2) u) := by
      rw [List.size_toArray, List.length_append]
      simp only [List.length_cons, List.length_nil]
      have e : ((-1 : Int) + ((us.length + (0 + 1) : Nat) : Int)).toNat = us.length := by omega
      rw [e]
      simp
    refine subscriptTail_builtin (T := "list") hD.isList.typeIs PySem.F.slot_list_getitem.lookup (wpAny_getItem_list_neg (x := .str (S F.2) u) hD.isList (by decide) hz1 (by decide) hz2 ?_)
    refine Subscript_ (ldl I₂ hpc (ev_mod I₂ hx (fun t₂ k₂ hk₂ => ?_) hL hk hlx) hL hk hlp)
    have hPo : s.heap.get? Pc = some po := (I.nw (Pc, po) (List.mem_singleton.mpr rfl)).2
    have hPl : s.heap.IsList Pc pvals.toArray := ⟨po, hPo, by rw [hpo], 0, by rw [hpo]⟩
    have hn22 : (n.fmod 24).toNat < pcs.length := by show _ < 22; omega
    obtain ⟨pu, hpu⟩ := hpv.get (n.fmod 24).toNat hn22
    refine subscriptTail_builtin (T := "list") (s := { s with toks := k₂ }) (Heap.IsList.typeIs (s := { s with toks := k₂ }) hPl) PySem.F.slot_list_getitem.lookup (wpAny_getItem_list (s := { s with toks := k₂ }) (x := .str (S pcs[(n.fmod 24).toNat]) pu) hPl hm.1 (by omega) (by simpa using hpu) ?_)
    have hpl : pcs[(n.fmod 24).toNat] = pcs.getD (n.fmod 24).toNat [] := by rw [List.getD_eq_getElem?_getD, List.getElem?_eq_getElem hn22]; rfl
    have hp7 := piece_le (n.fmod 24).toNat
    rw [hpl]
    have hk₂' : s.toks ≤ k₂ := Nat.le_trans (Nat.le_trans hk' (Nat.le_add_right _ 3)) hk₂
    refine wpAny_with_toks (n := s.toks) hk₂' (SB.add (fun t₃ k₃ hk₃ => ?_) (by rw [S_length, S_length, sizeLine_eq]; omega))
    rw [S_append]
    have I₃ : In w s L (loc l) [(Pc, po)] { s with toks := k₃ } := I.tok hk₃
    refine ldl I₃ hf (wpAny_UnaryOp (wpAny_Constant_int (PyProof.Rows.neg_int ?_))) hL hk hlf
    refine set_last (s := { s with toks := k₃ + 1 + 1 }) hD fun h' hp hs => ?_
    refine wpAny_execs_nil (wpAny_execs_nil ⟨rfl, _, h', k₃ + 1 + 1, rfl, Nat.le_trans hk₃ (Nat.le_add_right _ 2), fun b o hb e => hs.extBut b o hb e, hp, ?_⟩)
    have e : flat (fstep F n) = F.1 ++ [F.2 ++ pcs.getD (n.fmod 24).toNat []] := by simp [flat, fstep, hc]
    rw [e]
    exact hus.append ⟨⟨_, rfl⟩, trivial⟩
end
end
end Mine

end PartM9

section PartM10
open PySem PySem.W PyProof.Rows PySem.Calls
set_option Elab.async false
set_option maxRecDepth 100000
namespace Mine
noncomputable section

theorem ints_get : ∀ {vs : List Value} {ns : List Int}, IntsAre vs ns → ∀ i (h : i < ns.length), ∃ t, vs[i]? = some (.int ns[i] t)
  | _, _, .cons n t _, 0, _ => ⟨t, rfl⟩
  | _, _, .cons n t r, i + 1, h => by simpa using ints_get r i (by simpa using h)
theorem ffold_snoc (ns : List Int) (i : Nat) (h : i < ns.length) : ffold (ns.take (i + 1)) = fstep (ffold (ns.take i)) ns[i] := by
  unfold ffold
  rw [List.take_succ_eq_append_getElem h, List.foldl_append]
  rfl
theorem ffold_le : ∀ (ns : List Int) (F : List (List Nat) × List Nat), (ns.foldl fstep F).1.length ≤ F.1.length + ns.length ∧ ((ns.foldl fstep F).1.map List.length).sum + (ns.foldl fstep F).2.length ≤ (F.1.map List.length).sum + F.2.length + 7 * ns.length
  | [], F => ⟨Nat.le_refl _, Nat.le_refl _⟩
  | x :: ns, F => by
    have ih := ffold_le ns (fstep F x)
    have hp := piece_le (x.fmod 24).toNat
    rw [List.foldl_cons]
    by_cases hc : 21 < x.fmod 24
    · have e : fstep F x = (F.1 ++ [F.2], []) := by unfold fstep; rw [if_pos hc]
      rw [e] at ih ⊢
      simp only [List.length_append, List.length_cons, List.length_nil, List.map_append, List.sum_append, List.map_cons, List.map_nil, List.sum_cons, List.sum_nil] at ih ⊢
      omega
    · have e : fstep F x = (F.1, F.2 ++ pcs.getD (x.fmod 24).toNat []) := by unfold fstep; rw [if_neg hc]
      rw [e] at ih ⊢
      simp only [List.length_append, List.length_cons] at ih ⊢
      omega
theorem ffold_len (ns : List Int) : (ffold ns).1.length ≤ ns.length ∧ ((ffold ns).1.map List.length).sum + (ffold ns).2.length ≤ 7 * ns.length := by
  have := ffold_le ns ([], [])
  simpa [ffold] using this

theorem lookup_put_ne {x y : Str} (v : Value) (l : List (Str × Value)) (h : y ≠ x) : (put x v l).lookup y = l.lookup y := by
  have := congrFun (loc_put x v l) y
  simpa [loc, h] using this.symm
set_option maxHeartbeats 1000000 in
theorem law_fields {w : World} {s : Shared} {N : Addr} {nvals : List Value} {ns : List Int} (G : Gnd w s.heap) (ht : 0 < s.toks) (hN : s.heap.IsList N nvals.toArray) (hI : IntsAre nvals ns) (hn : ns.length ≤ 100) :
    Fn w 77 [.ref N] (fun s v s' => ∃ D vals, v = .ref D ∧ s.heap.get? D = none ∧ s'.heap.PlainList D vals.toArray ∧ SV vals (fieldsL ns)) s := by
  intro A hh hd hu
  refine enter (binds := [("numbers", .ref N)]) G ht (by omega) rfl rfl rfl fun s₁ L hL I => ?_
  have hNl : ∃ o, s.heap.get? N = some o := let ⟨o, e, _⟩ := hN; ⟨o, e⟩
  obtain ⟨oN, hNo⟩ := hNl
  have hNL : N ≠ L := fun z => by rw [z, hL] at hNo; cases hNo
  refine wpAny_execs_cons ?_
  refine wpAny_Assign_Name ?_
  refine List_ ?_
  with_reducible refine items_consts pcs I (fun pvals s₂ hpv I₂ => ?_) ?_
  rotate_left
  · repeat (first | exact Consts.nil | refine Consts.cons (by decide +kernel) ?_)
  refine new_list I₂ (by rw [hpv.length]; show 22 ≤ 100000; omega) fun Pc s₃ hPn _ hk₃ I₃ => ?_
  refine st I₃ fun s₄ I₄ => ?_
  refine wpAny_execs_cons ?_
  refine wpAny_Assign_Name ?_
  refine List_ ?_
  with_reducible refine items_consts [[]] I₄ (fun fvals s₅ hfv I₅ => ?_) ?_
  rotate_left
  · repeat (first | exact Consts.nil | refine Consts.cons (by decide +kernel) ?_)
  refine new_list I₅ (by rw [hfv.length]; show 1 ≤ 100000; omega) fun D s₆ hDn hDe hk₆ I₆ => ?_
  refine st I₆ fun s₇ I₇ => ?_
  refine wpAny_execs_cons ?_
  refine wpAny_For ?_
  refine ldl I₇ rfl ?_
  have hN₇ : s₇.heap.IsList N nvals.toArray := hN.at fun o e => I₇.keep N o hNL e
  refine wpAny_pyIter_list hN₇ ?_
  have I₈ := I₇.push { cls := .type "list_iterator", data := .fields #[.ref N, .int 0 0] }
  generalize hit : s₇.heap.objs.size = it at I₈ ⊢
  generalize hs₈ : ({ s₇ with heap := s₇.heap.push { cls := .type "list_iterator", data := .fields #[.ref N, .int 0 0] } } : Shared) = s₈ at I₈ ⊢
  have hitL : it ≠ L := (I₈.nw _ (.head _)).1
  have hlt : ∀ b o, s₇.heap.get? b = some o → b < it := fun b o e => hit ▸ Heap.lt_size e
  have hD₇ := (I₇.nw (D, _) (.head _))
  have hP₇ := (I₇.nw (Pc, _) (.tail _ (.head _)))
  have hitD : it ≠ D := Nat.ne_of_gt (hlt _ _ hD₇.2)
  have hitP : it ≠ Pc := Nat.ne_of_gt (hlt _ _ hP₇.2)
  have hitN : N ≠ it := let ⟨o, e, _⟩ := hN₇; Nat.ne_of_lt (hlt _ _ e)
  have hits : s.heap.get? it = none := by
    cases e : s.heap.get? it with
    | none => rfl
    | some o => exact absurd (hlt _ _ (I₇.keep _ _ hitL e)) (Nat.lt_irrefl _)
  have hDs : s.heap.get? D = none := by
    cases e : s.heap.get? D with
    | none => rfl
    | some o => exact absurd (I₅.keep _ _ hD₇.1 e) (by rw [hDn]; nofun)
  have hDP : D ≠ Pc := fun z => by
    have := (I₅.nw (Pc, _) (.head _)).2
    rw [← z, hDn] at this; cases this
  have hDN : D ≠ N := fun z => by rw [z] at hDs; rw [hDs] at hNo; cases hNo
  have W := Walks.list (prog := pg) (w := w) (A := A.deeper (callEnv (fdAt w 77) L 77)) hh it N hitN nvals.toArray
  have hlen : nvals.toArray.size = ns.length := by rw [List.size_toArray]; exact hI.length
  have hSt₈ : s₈.heap.IsListIter it N 0 ∧ s₈.heap.IsList N nvals.toArray := ⟨⟨_, (I₈.nw _ (.head _)).2, rfl, rfl⟩, hN.at fun o e => I₈.keep N o hNL e⟩
  refine codeAny_forLoop (fun k s' => ∃ i l' vals, k = ns.length - i ∧ i ≤ ns.length ∧ In w s' L (loc l') [(Pc, { cls := .type "list", data := .seq pvals.toArray })] s' ∧ (∃ h tk, s' = { s with heap := h, toks := tk }) ∧ s.toks ≤ s'.toks ∧
    (∀ b o, s.heap.get? b = some o → s'.heap.get? b = some o) ∧ l'.lookup (Str.ofString "fields") = some (.ref D) ∧ l'.lookup (Str.ofString "pieces") = some (.ref Pc) ∧ s'.heap.PlainList D vals.toArray ∧ SV vals (flat (ffold (ns.take i))) ∧ (s'.heap.IsListIter it N i ∧ s'.heap.IsList N nvals.toArray)) ?_ ns.length
    ⟨0, _, fvals, rfl, Nat.zero_le _, (I₈.forget (fun p hp => by rw [List.mem_singleton.mp hp]; exact .tail _ (.tail _ (.head _)))).anew, I₈.same, I₈.tk, fun b o e => I₈.keep b o (fun z => by rw [z, hL] at e; cases e) e, rfl, rfl, ⟨0, (I₈.nw (D, _) (.tail _ (.head _))).2⟩, hfv, hSt₈⟩
  rintro k s' ⟨i, l', vals, rfl, hi, I', hsame, htk, hkp, hlf, hlp, hPD, hSV, hSt⟩
  by_cases hlt' : i < ns.length
  · refine wpAny_with_toks (n := s'.toks) (Nat.le_refl _) (W.item i s' _ _ (by omega) hSt fun v h₁ tk₁ hPv hSt₁ hk₁ ht₁ => ?_)
    obtain ⟨ti, hti⟩ := ints_get hI i hlt'
    obtain rfl : v = .int ns[i] ti := by
      have : nvals[i]? = some v := by simpa using hPv
      rw [hti] at this
      exact (Option.some.inj this).symm
    have h92 : 92 < it := Nat.lt_of_lt_of_le I₇.gnd.size (Nat.le_of_eq hit)
    have hD92 : 92 < D := Nat.lt_of_lt_of_le I₅.gnd.size (Nat.le_of_eq hDe.symm)
    have I₁ := I'.self_walk (wr := [it]) (fun b hb => by
      obtain rfl := List.mem_singleton.mp hb
      exact ⟨h92, hitL, fun p hp => by rw [List.mem_singleton.mp hp]; exact hitP.symm⟩) ht₁ hk₁
    refine wpAny_assign_Name ?_
    refine st I₁ fun s₂ I₂ => ?_
    have I₂' := I₂.anew
    have hk₂ : ∀ b o, b ≠ it → b ≠ L → s'.heap.get? b = some o → s₂.heap.get? b = some o := fun b o h1 h2 e => I₂.keep b o h2 (hk₁ b o (by simpa using h1) e)
    have hPD₂ : s₂.heap.PlainList D vals.toArray := hPD.at fun o e => hk₂ _ o hitD.symm hD₇.1 e
    have hff := ffold_len (ns.take i)
    have htl : (ns.take i).length ≤ 100 := by rw [List.length_take]; omega
    refine wpAny_mono (fields_turn I₂' (lookup_put ..) (by rw [lookup_put_ne _ _ (by decide)]; exact hlf) (by rw [lookup_put_ne _ _ (by decide)]; exact hlp) rfl hpv hPD₂ hSV (by omega) (by omega) (by decide +kernel)) (fun f s₃ h₃ => ?_) (fun _ _ x => x.elim)
    obtain ⟨rfl, vals', h', tk, rfl, htk', hk', hPD', hSV'⟩ := h₃
    have I₃ := I₂.self_walk (wr := [D]) (fun b hb => by
      obtain rfl := List.mem_singleton.mp hb
      exact ⟨hD92, hD₇.1, fun p hp => by rw [List.mem_singleton.mp hp]; exact hDP.symm⟩) htk' (fun b o hb e => hk' b o (by simpa using hb) e)
    have hkk : ∀ b o, b ≠ it → b ≠ L → b ≠ D → s'.heap.get? b = some o → h'.get? b = some o := fun b o h1 h2 h3 e => hk' b o h3 (hk₂ b o h1 h2 e)
    have hsN : ∀ b o, s.heap.get? b = some o → b ≠ it ∧ b ≠ L ∧ b ≠ D := fun b o e => ⟨fun z => (by rw [z, hits] at e; cases e), fun z => (by rw [z, hL] at e; cases e), fun z => (by rw [z, hDs] at e; cases e)⟩
    refine ⟨ns.length - (i + 1), by omega, i + 1, _, vals', rfl, hlt', I₃, ?_, ?_, fun b o e => hkk b o (hsN b o e).1 (hsN b o e).2.1 (hsN b o e).2.2 (hkp b o e), by rw [lookup_put_ne _ _ (by decide)]; exact hlf, by rw [lookup_put_ne _ _ (by decide)]; exact hlp, hPD', ?_, ?_⟩
    · obtain ⟨ha, ka, e1⟩ := hsame
      obtain ⟨hb, kb, e2⟩ := I₂.same
      exact ⟨h', tk, by rw [e2, e1]⟩
    · exact Nat.le_trans htk (Nat.le_trans ht₁ (Nat.le_trans I₂.tk htk'))
    · rw [ffold_snoc ns i hlt']; exact hSV'
    · refine W.frame _ _ _ hSt₁ fun b hb o e => ?_
      have hbL : b ≠ L := fun z => by
        simp at hb
        rcases hb with h | h
        · exact hitL (h.symm.trans z)
        · exact hNL (h.symm.trans z)
      have hbD : b ≠ D := fun z => by
        simp at hb
        rcases hb with h | h
        · exact hitD (h.symm.trans z)
        · exact hDN (z.symm.trans h)
      exact hk' b o hbD (I₂.keep b o hbL e)
  · have hin : i = ns.length := by omega
    subst hin
    refine wpAny_with_toks (n := s'.toks) (Nat.le_refl _) (W.done s' _ _ (by rw [hlen]; exact hSt) fun h₁ tk₁ hk₁ ht₁ => ?_)
    refine wpAny_execs_nil ?_
    have h92 : 92 < it := Nat.lt_of_lt_of_le I₇.gnd.size (Nat.le_of_eq hit)
    have I₁ := I'.self_walk (wr := [it]) (fun b hb => by
      obtain rfl := List.mem_singleton.mp hb
      exact ⟨h92, hitL, fun p hp => by rw [List.mem_singleton.mp hp]; exact hitP.symm⟩) ht₁ hk₁
    refine ret_name I₁ hlf ⟨?_, D, vals, rfl, hDs, hPD.at fun o e => hk₁ _ o (by simpa using hitD.symm) e, ?_⟩
    · obtain ⟨ha, ka, e1⟩ := hsame
      exact ⟨h₁, tk₁, by rw [e1], fun b o e => hk₁ b o (fun hm => by rw [List.mem_singleton.mp hm, hits] at e; cases e) (hkp b o e)⟩
    · rw [List.take_of_length_le (Nat.le_refl _)] at hSV
      exact hSV
end
end Mine

end PartM10

section PartM11
open PySem PySem.W PyProof.Rows PySem.Calls
set_option Elab.async false
set_option maxRecDepth 100000
namespace Mine
noncomputable section

/-- pairs of a sign and a reference -/
def KV : List (Str × Value) → List (Nat × List Nat) → Prop
  | [], [] => True
  | (k, v) :: r, (c, z) :: T => k = S [c] ∧ (∃ t, v = .str (S z) t) ∧ KV r T
  | _, _ => False
theorem KV.length : ∀ {kvs : List (Str × Value)} {T : List (Nat × List Nat)}, KV kvs T → kvs.length = T.length
  | [], [], _ => rfl
  | (_, _) :: _, (_, _) :: _, h => by simp [KV.length h.2.2]
  | [], _ :: _, h => h.elim
  | _ :: _, [], h => h.elim
theorem KV.keys : ∀ {kvs : List (Str × Value)} {T : List (Nat × List Nat)}, KV kvs T → kvs.map (·.1) = T.map fun p => S [p.1]
  | [], [], _ => rfl
  | (_, _) :: _, (_, _) :: _, h => by simp [h.1, KV.keys h.2.2]
  | [], _ :: _, h => h.elim
  | _ :: _, [], h => h.elim
theorem KV.get : ∀ {kvs : List (Str × Value)} {T : List (Nat × List Nat)}, KV kvs T → ∀ i (h : i < T.length), ∃ t, kvs[i]? = some (S [T[i].1], .str (S T[i].2) t)
  | [], [], _, i, h => by simp at h
  | (k, v) :: kvs, (c, z) :: T, h, 0, _ => by
    obtain ⟨rfl, ⟨t, rfl⟩, _⟩ := h
    exact ⟨t, rfl⟩
  | (k, v) :: kvs, (c, z) :: T, h, i + 1, hi => by simpa using KV.get h.2.2 i (by simpa using hi)
  | [], _ :: _, h, _, _ => h.elim
  | _ :: _, [], h, _, _ => h.elim
theorem KV.value : ∀ {kvs : List (Str × Value)} {T : List (Nat × List Nat)}, KV kvs T → ∀ c : Nat, (valueAt kvs (S [c])).isSome = (T.lookup c).isSome
  | [], [], _, _ => rfl
  | (k, v) :: kvs, (c, z) :: T, h, a => by
    obtain ⟨rfl, _, h'⟩ := h
    have ih := KV.value h' a
    unfold valueAt at ih ⊢
    by_cases e : a = c
    · subst e; simp [List.lookup]
    · have e1 : ¬ (S [c] = S [a]) := fun q => e (by have := S_inj q; simpa using this.symm)
      have e2 : (a == c) = false := by simpa using e
      simp only [List.find?_cons, e1, decide_false, List.lookup, e2]
      exact ih
  | [], _ :: _, h, _ => h.elim
  | _ :: _, [], h, _ => h.elim
theorem KV.value_long : ∀ {kvs : List (Str × Value)} {T : List (Nat × List Nat)}, KV kvs T → ∀ x : List Nat, x.length ≠ 1 → valueAt kvs (S x) = none
  | [], [], _, _, _ => rfl
  | (k, v) :: kvs, (c, z) :: T, h, x, hx => by
    obtain ⟨rfl, _, h'⟩ := h
    have ih := KV.value_long h' x hx
    unfold valueAt at ih ⊢
    have e1 : ¬ (S [c] = S x) := fun q => hx (by rw [← S_inj q]; rfl)
    simp only [List.find?_cons, e1, decide_false]
    exact ih
  | [], _ :: _, h, _, _ => h.elim
  | _ :: _, [], h, _, _ => h.elim

/-- a dict object that is this table -/
def TabO (w : World) (o : Obj) (T : List (Nat × List Nat)) : Prop :=
  ∃ kvs : List (Str × Value), (∃ es ep, o.ExactDict ∧ o.data = .dict es ep ∧ KeysOf (PySem.strKind pg w) es ∧ Pairs (PySem.strKind pg w) es.toList kvs ∧ (kvs.map (·.1)).Nodup) ∧ KV kvs T
theorem TabO.dictOf {w : World} {o : Obj} {T : List (Nat × List Nat)} (h : TabO w o T) {hp : Heap} {d : Addr} (hd : hp.get? d = some o) : ∃ kvs, hp.DictOf (PySem.strKind pg w) d kvs ∧ KV kvs T :=
  let ⟨kvs, ⟨es, ep, r⟩, hk⟩ := h; ⟨kvs, ⟨o, es, ep, hd, r⟩, hk⟩

inductive KConsts : List (Option Expr) → List Expr → List (Nat × List Nat) → Prop
  | nil : KConsts [] [] []
  | cons {x y : Str} {k k' : Nat} {p p' : Pos} {ks : List (Option Expr)} {vs : List Expr} {c : Nat} {z : List Nat} {T : List (Nat × List Nat)} : x = S [c] → y = S z → KConsts ks vs T →
      KConsts (some (.Constant (.str x) k p) :: ks) (.Constant (.str y) k' p' :: vs) ((c, z) :: T)
theorem KConsts.shape : ∀ {ks : List (Option Expr)} {vs : List Expr} {T : List (Nat × List Nat)}, KConsts ks vs T → ks.all (·.isSome) = true ∧ ks.length = vs.length ∧ ks.length = T.length := by
  intro ks vs T h
  induction h with
  | nil => exact ⟨rfl, rfl, rfl⟩
  | cons _ _ _ ih => exact ⟨by simpa using ih.1, by simpa using ih.2.1, by simpa using ih.2.2⟩
/-- the pairs that a display has evaluated -/
def PV : List (Value × Value) → List (Nat × List Nat) → Prop
  | [], [] => True
  | (k, v) :: r, (c, z) :: T => (∃ t, k = .str (S [c]) t) ∧ (∃ t, v = .str (S z) t) ∧ PV r T
  | _, _ => False
theorem PV.carries (w : World) : ∀ {vs : List (Value × Value)} {T : List (Nat × List Nat)}, PV vs T → ∃ kvs, Carries (PySem.strKind pg w) vs kvs ∧ KV kvs T
  | [], [], _ => ⟨[], trivial, trivial⟩
  | (k, v) :: r, (c, z) :: T, h => by
    obtain ⟨⟨t, rfl⟩, ⟨u, rfl⟩, h'⟩ := h
    obtain ⟨kvs, h1, h2⟩ := PV.carries w h'
    exact ⟨(S [c], .str (S z) u) :: kvs, ⟨by simp [PySem.strKind, Value.isStrOf], rfl, h1⟩, rfl, ⟨u, rfl⟩, h2⟩
  | [], _ :: _, h => h.elim
  | _ :: _, [], h => h.elim

section
variable {A : Around} {E : Value → Shared → Prop} {w : World} {s₀ : Shared} {L : Addr} {m : Str → Option Value} {news : List (Addr × Obj)} {env : Env}
theorem pairs_consts {pos : Pos} {ks : List (Option Expr)} {vs : List Expr} {T : List (Nat × List Nat)} (hc : KConsts ks vs T) : ∀ {s : Shared} {Q : List (Value × Value) → Shared → Prop}, In w s₀ L m news s →
    (∀ ps s', PV ps T → In w s₀ L m news s' → Q ps s') → wpAny (model pg w) A (evalPairs (pairTrees ks vs env pos)) Q E s := by
  induction hc with
  | nil => intro s Q I h; exact pairTrees_nil_walk (h [] s trivial I)
  | cons hx hy _ ih =>
    intro s Q I h
    subst hx hy
    refine pairTrees_cons_walk (ldc I fun t s₁ _ _ I₁ => ldc I₁ fun u s₂ _ _ I₂ => ?_)
    exact ih I₂ fun ps s' hv I' => h _ _ ⟨⟨t, rfl⟩, ⟨u, rfl⟩, hv⟩ I'

theorem ev_dict {pos : Pos} {ks : List (Option Expr)} {vs : List Expr} (T : List (Nat × List Nat)) {s : Shared} {Q : Value → Shared → Prop} (I : In w s₀ L m news s)
    (h : ∀ d o s', s₀.heap.get? d = none → 92 < d → TabO w o T → In w s₀ L m ((d, o) :: news) s' → Q (.ref d) s') (hc : KConsts ks vs T) (hT0 : T ≠ []) (hT15 : T.length ≤ 15) (hnd : (T.map (·.1)).Nodup) :
    wpAny (model pg w) A (eval (.Dict ks vs pos) env) Q E s := by
  obtain ⟨h1, h2, h3⟩ := hc.shape
  refine wpAny_Dict_walk (knd := PySem.strKind pg w) h1 h2 (fun e => hT0 (by rw [e] at h3; exact List.eq_nil_of_length_eq_zero h3.symm)) (by omega) ?_
  have I₁ := I.push { cls := .type "dict", data := .dict #[] }
  refine pairs_consts hc I₁ fun ps s' hp I' => ?_
  obtain ⟨kvs, hcar, hkv⟩ := hp.carries w
  have hd := (I'.nw _ (.head _))
  have hdo : s'.heap.DictOf (PySem.strKind pg w) s.heap.objs.size [] := ⟨_, #[], 0, hd.2, ⟨rfl, rfl, rfl⟩, rfl, by intro e he; simp at he, .nil, .nil⟩
  have hkeys : (kvs.map (·.1)).Nodup := by
    have e : T.map (fun p => S [p.1]) = (T.map (·.1)).map (fun c => S [c]) := by simp
    rw [hkv.keys, e]
    exact List.Pairwise.map _ (fun a b hab e => hab (by have := S_inj e; simpa using this)) hnd
  refine ⟨kvs, hcar, hdo, fun h' hm hs => ?_⟩
  rw [merged_nil_of_nodup _ hkeys] at hm
  obtain ⟨o, es, ep, ho, r⟩ := hm
  have hlt : ∀ p ∈ news, p.1 ≠ s.heap.objs.size := fun p hp => Nat.ne_of_lt (Heap.lt_size (I.nw p hp).2)
  have hs0 : s₀.heap.get? s.heap.objs.size = none := by
    cases e : s₀.heap.get? s.heap.objs.size with
    | none => rfl
    | some o => exact absurd (Heap.lt_size (I.keep _ _ hd.1 e)) (Nat.lt_irrefl _)
  have I₂ := (I'.forget (news' := news) fun p hp => .tail _ hp).walk (wr := [s.heap.objs.size]) (k := s'.toks + ps.length) (fun b hb => by
    obtain rfl := List.mem_singleton.mp hb
    exact ⟨hs0, I.gnd.size, hd.1, hlt⟩) (Nat.le_add_right _ _) (fun b o hb e => hs.extBut b o (by simpa using hb) e)
  exact h _ o _ hs0 I.gnd.size ⟨kvs, ⟨es, ep, r⟩, hkv⟩ (I₂.more ho hd.1)
end

def TS : List (List (Nat × List Nat)) := [T1, T2, T3, T4, T5]

set_option maxHeartbeats 1000000 in
theorem law_tables {w : World} {s : Shared} (G : Gnd w s.heap) (ht : 0 < s.toks) :
    Fn w 70 [] (fun s v s' => ∃ D d1 d2 d3 d4 d5 o1 o2 o3 o4 o5, v = .ref D ∧ s.heap.get? D = none ∧ s'.heap.PlainList D #[.ref d1, .ref d2, .ref d3, .ref d4, .ref d5] ∧ TabO w o1 T1 ∧ TabO w o2 T2 ∧ TabO w o3 T3 ∧ TabO w o4 T4 ∧ TabO w o5 T5 ∧
      s'.heap.get? d1 = some o1 ∧ s'.heap.get? d2 = some o2 ∧ s'.heap.get? d3 = some o3 ∧ s'.heap.get? d4 = some o4 ∧ s'.heap.get? d5 = some o5 ∧ ∀ d ∈ [D, d1, d2, d3, d4, d5], s.heap.get? d = none ∧ 92 < d) s := by
  intro A hh hd hu
  refine enter (binds := []) G ht (by omega) rfl rfl rfl fun s₁ L hL I => ?_
  have n1 : T1 ≠ [] ∧ T1.length ≤ 15 ∧ (T1.map (·.1)).Nodup := ⟨by decide, by decide, by decide⟩
  have n2 : T2 ≠ [] ∧ T2.length ≤ 15 ∧ (T2.map (·.1)).Nodup := ⟨by decide, by decide, by decide⟩
  have n3 : T3 ≠ [] ∧ T3.length ≤ 15 ∧ (T3.map (·.1)).Nodup := ⟨by decide, by decide, by decide⟩
  have n4 : T4 ≠ [] ∧ T4.length ≤ 15 ∧ (T4.map (·.1)).Nodup := ⟨by decide, by decide, by decide⟩
  have n5 : T5 ≠ [] ∧ T5.length ≤ 15 ∧ (T5.map (·.1)).Nodup := ⟨by decide, by decide, by decide⟩
  refine wpAny_execs_cons ?_
  refine wpAny_Return_some ?_
  refine List_ ?_
  refine wpAny_items_cons ?_
  with_reducible refine ev_dict T1 I (fun d1 o1 s₁ f1 l1 t1 I => ?_) ?_ n1.1 n1.2.1 n1.2.2
  rotate_left
  · repeat (first | exact KConsts.nil | refine KConsts.cons (by decide +kernel) (by decide +kernel) ?_)
  refine wpAny_items_cons ?_
  with_reducible refine ev_dict T2 I (fun d2 o2 s₂ f2 l2 t2 I => ?_) ?_ n2.1 n2.2.1 n2.2.2
  rotate_left
  · repeat (first | exact KConsts.nil | refine KConsts.cons (by decide +kernel) (by decide +kernel) ?_)
  refine wpAny_items_cons ?_
  with_reducible refine ev_dict T3 I (fun d3 o3 s₃ f3 l3 t3 I => ?_) ?_ n3.1 n3.2.1 n3.2.2
  rotate_left
  · repeat (first | exact KConsts.nil | refine KConsts.cons (by decide +kernel) (by decide +kernel) ?_)
  refine wpAny_items_cons ?_
  with_reducible refine ev_dict T4 I (fun d4 o4 s₄ f4 l4 t4 I => ?_) ?_ n4.1 n4.2.1 n4.2.2
  rotate_left
  · repeat (first | exact KConsts.nil | refine KConsts.cons (by decide +kernel) (by decide +kernel) ?_)
  refine wpAny_items_cons ?_
  with_reducible refine ev_dict T5 I (fun d5 o5 s₅ f5 l5 t5 I => ?_) ?_ n5.1 n5.2.1 n5.2.2
  rotate_left
  · repeat (first | exact KConsts.nil | refine KConsts.cons (by decide +kernel) (by decide +kernel) ?_)
  refine wpAny_items_nil ?_
  have I5 := I
  refine new_list I (by show 5 ≤ 100000; omega) fun D s₆ hDn hDe hk I => ?_
  have g := fun p hp => (I.nw p hp).2
  have hDs : s.heap.get? D = none := by
    cases e : s.heap.get? D with
    | none => rfl
    | some o =>
      have hDL := (I.nw (D, _) (.head _)).1
      exact absurd (I5.keep _ _ hDL e) (by rw [hDn]; nofun)
  exact ⟨I.out hL, D, d1, d2, d3, d4, d5, o1, o2, o3, o4, o5, rfl, hDs, ⟨0, g (D, _) (.head _)⟩, t1, t2, t3, t4, t5, g (d1, o1) (.tail _ (.tail _ (.tail _ (.tail _ (.tail _ (.head _)))))), g (d2, o2) (.tail _ (.tail _ (.tail _ (.tail _ (.head _))))),
    g (d3, o3) (.tail _ (.tail _ (.tail _ (.head _)))), g (d4, o4) (.tail _ (.tail _ (.head _))), g (d5, o5) (.tail _ (.head _)), fun d hd => by
      simp only [List.mem_cons, List.not_mem_nil, or_false] at hd
      rcases hd with rfl | rfl | rfl | rfl | rfl | rfl
      · exact ⟨hDs, by rw [hDe]; exact I5.gnd.size⟩
      · exact ⟨f1, l1⟩
      · exact ⟨f2, l2⟩
      · exact ⟨f3, l3⟩
      · exact ⟨f4, l4⟩
      · exact ⟨f5, l5⟩⟩
end
end Mine

end PartM11

section PartM12
open PySem PySem.W PyProof.Rows PySem.Calls
set_option Elab.async false
set_option maxRecDepth 100000
namespace Mine
noncomputable section

/-- a reference without its semicolon -/
def cut (z : List Nat) : List Nat := z.take (z.length - 1)
/-- the dict of references: signs -/
def SG (kvs : List (Str × Value)) (T : List (Nat × List Nat)) : Prop := kvs.length = T.length ∧ ∀ i (h : i < T.length), ∃ t, kvs[i]? = some (S (cut T[i].2), .str (S [T[i].1]) t)
theorem SG.nil : SG [] [] := ⟨rfl, fun i h => by simp at h⟩
theorem SG.keys {kvs : List (Str × Value)} {T : List (Nat × List Nat)} (h : SG kvs T) : kvs.map (·.1) = T.map fun p => S (cut p.2) := by
  apply List.ext_getElem
  · simp [h.1]
  · intro i h1 h2
    have hi : i < T.length := by simpa using h2
    obtain ⟨t, e⟩ := h.2 i hi
    have hk : i < kvs.length := by rw [h.1]; exact hi
    rw [List.getElem?_eq_getElem hk] at e
    have := Option.some.inj e
    simp [this]
theorem SG.snoc {kvs : List (Str × Value)} {T : List (Nat × List Nat)} {c : Nat} {z : List Nat} {t : Tok} (h : SG kvs T) (hn : cut z ∉ T.map fun p => cut p.2) : SG (stored kvs (S (cut z)) (.str (S [c]) t)) (T ++ [(c, z)]) := by
  have hnk : S (cut z) ∉ kvs.map (·.1) := by
    rw [h.keys]
    intro hm
    obtain ⟨p, hp, e⟩ := List.mem_map.mp hm
    exact hn (List.mem_map.mpr ⟨p, hp, S_inj e⟩)
  have e : stored kvs (S (cut z)) (.str (S [c]) t) = kvs ++ [(S (cut z), .str (S [c]) t)] := by
    unfold stored
    rw [if_neg]
    intro hc
    obtain ⟨kv, h1, h2⟩ := List.any_eq_true.mp hc
    exact hnk (List.mem_map.mpr ⟨kv, h1, of_decide_eq_true h2⟩)
  rw [e]
  refine ⟨by simp [h.1], fun i hi => ?_⟩
  by_cases hlt : i < T.length
  · obtain ⟨u, hu⟩ := h.2 i hlt
    refine ⟨u, ?_⟩
    rw [List.getElem?_append_left (by rw [h.1]; exact hlt), hu]
    simp [List.getElem_append_left hlt]
  · have : i = T.length := by simp at hi; omega
    subst this
    refine ⟨t, ?_⟩
    rw [List.getElem?_append_right (by rw [h.1]; exact Nat.le_refl _), h.1]
    simp

/-- the object that the dict comprehension makes -/
def SGO (w : World) (o : Obj) (T : List (Nat × List Nat)) : Prop :=
  ∃ kvs : List (Str × Value), (∃ es ep, o.ExactDict ∧ o.data = .dict es ep ∧ KeysOf (PySem.strKind pg w) es ∧ Pairs (PySem.strKind pg w) es.toList kvs ∧ (kvs.map (·.1)).Nodup) ∧ SG kvs T
theorem SGO.dictOf {w : World} {o : Obj} {T : List (Nat × List Nat)} (h : SGO w o T) {hp : Heap} {d : Addr} (hd : hp.get? d = some o) : ∃ kvs, hp.DictOf (PySem.strKind pg w) d kvs ∧ SG kvs T :=
  let ⟨kvs, ⟨es, ep, r⟩, hk⟩ := h; ⟨kvs, ⟨o, es, ep, hd, r⟩, hk⟩

section
variable {A : Around} {w : World}
theorem signs_loop {cenv : Env} {it d D C : Addr} {T : List (Nat × List Nat)} {kvs : List (Str × Value)} {ep : Nat} {sB : Shared} {l : List (Str × Value)} {R : Result → Shared → Prop} {iter : Expr} {scope : Scope} {k : Nat} {pos p1 p2 p3 p4 p5 p6 p7 p8 p9 : Pos} {k1 : Nat}
    (hh : A.handled = none) (hT : KV kvs T) (hTn : (T.map fun p => cut p.2).Nodup) (hTl : ∀ p ∈ T, p.2.length ≤ 10) (hT15 : T.length ≤ 15)
    (hitd : it ≠ d) (hitD : it ≠ D) (hitC : it ≠ C) (hdD : d ≠ D) (hdC : d ≠ C) (hDC : D ≠ C) (h9 : 92 < it) (h9D : 92 < D)
    (I : In w sB C (loc l) [] sB) (hit : IsItemIter sB.heap it d 0 kvs.length ep .none .none) (hd : sB.heap.DictAt (PySem.strKind pg w) d kvs ep) (hD : sB.heap.DictOf (PySem.strKind pg w) D [])
    (hC : cenv.locals = C) (hk : cenv.scope.kind = .function) (hs : cenv.kindOf "sign" = some .local) (hr : cenv.kindOf "reference" = some .local)
    (fin : ∀ h' tk m' kvs', h'.Ns C m' → h'.DictOf (PySem.strKind pg w) D kvs' → SG kvs' T → sB.toks ≤ tk → (∀ b o, b ≠ C → b ≠ it → b ≠ D → sB.heap.get? b = some o → h'.get? b = some o) → R (.ok .next) { sB with heap := h', toks := tk }) :
    codeAny (model pg w) A (.compLoop (.DictComp (.Subscript (.Name "reference" p4) (.Slice none (some (.UnaryOp .USub (.Constant (.int 1) k1 p5) p6)) none p7) p8) (.Name "sign" p9) [⟨.Tuple [.Name "sign" p1, .Name "reference" p2] k p3, iter, [], 0⟩] scope pos) 0 (.ref it) (.ref D) cenv) R sB := by
  have hlen := hT.length
  have hp : (cenv.scope.kind == .class || (cenv.scope.kind == .module && cenv.locals != cenv.globals)) = false := by rw [hk]; rfl
  refine codeAny_loop rfl (fun n s' => ∃ i h' tk l' kvs' ok ov, s' = { sB with heap := h', toks := tk } ∧ n = T.length - i ∧ i ≤ T.length ∧ IsItemIter h' it d i kvs.length ep ok ov ∧ h'.DictAt (PySem.strKind pg w) d kvs ep ∧ h'.DictOf (PySem.strKind pg w) D kvs' ∧ SG kvs' (T.take i) ∧
    In w s' C (loc l') [] s' ∧ sB.toks ≤ tk ∧ (∀ b o, b ≠ C → b ≠ it → b ≠ D → sB.heap.get? b = some o → h'.get? b = some o)) ?_ T.length
    ⟨0, sB.heap, sB.toks, l, [], .none, .none, rfl, rfl, Nat.zero_le _, hit, hd, hD, SG.nil, I, Nat.le_refl _, fun _ _ _ _ _ e => e⟩
  rintro n s' ⟨i, h', tk, l', kvs', ok, ov, rfl, rfl, hi, hit', hd', hD', hSG, I', htk, hkeep⟩
  show wpAny _ A ((compTurn _ 0 (.ref it) (.ref D) cenv).onRaise (fun x => do noteFrame x cenv; theTreesLotGoes x)) _ _ _
  refine wpAny_noted ?_
  rw [compTurn_dict]
  refine wpAny_bind (wpAny_standAt (wpAny_bind ?_))
  by_cases hlt : i < T.length
  · obtain ⟨tz, hx⟩ := hT.get i hlt
    refine wpAny_pyNext_items_item hit' hd' hx fun key h₁ hkey hit₁ htup hsz₁ hk₁ => ?_
    have hsign : ∃ ts, key = .str (S [T[i].1]) ts := by
      cases key <;> simp [PySem.strKind, Value.isStrOf] at hkey
      exact ⟨_, by rw [hkey]⟩
    obtain ⟨ts, rfl⟩ := hsign
    have J₁ := I'.self_walk (wr := [it]) (h' := h₁) (k := tk) (fun b hb => by obtain rfl := List.mem_singleton.mp hb; exact ⟨h9, hitC, fun p hp => nomatch hp⟩) (Nat.le_refl _) (fun b o hb e => hk₁ b o (fun z => hb (z ▸ .head _)) e)
    refine wpAny_bind (wpAny_letOwnedTupleGo_items hit₁ fun h₂ hit₂ hs₂ => ?_)
    have J₂ := J₁.self_walk (wr := [it]) (h' := h₂) (k := tk) (fun b hb => by obtain rfl := List.mem_singleton.mp hb; exact ⟨h9, hitC, fun p hp => nomatch hp⟩) (Nat.le_refl _) (fun b o hb e => hs₂.extBut b o (fun z => hb (z ▸ .head _)) e)
    have hil : it < h'.objs.size := Heap.lt_size hit'
    have ht₂ : h₂.get? h'.objs.size = some { cls := .type "tuple", data := .seq #[.str (S [T[i].1]) ts, .str (S T[i].2) tz] } := hs₂.extBut _ _ (Nat.ne_of_gt hil) htup
    refine wpAny_bind (wpAny_assign_Tuple hh ⟨_, ht₂, rfl, _, rfl⟩ rfl rfl fun h₃ hs₃ => ?_)
    have hz₂ : h₂.objs.size = h'.objs.size + 1 := by rw [hs₂.1]; exact hsz₁
    have k₃ : ∀ b o, h₂.get? b = some o → h₃.get? b = some o := fun b o e => hs₃ b o (Nat.ne_of_lt (Heap.lt_size e)) e
    have J₃ : In w { sB with heap := h₃, toks := tk } C (loc l') [] { sB with heap := h₃, toks := tk } := (J₂.on (k := tk) (h' := h₃) (Nat.le_refl _) k₃).anew
    show wpAny _ A (assignInOrder [assign (.Name "sign" p1) cenv, assign (.Name "reference" p2) cenv] [.str (S [T[i].1]) ts, .str (S T[i].2) tz]) _ _ _
    refine wpAny_assignInOrder_more (wpAny_assign_Name (st J₃ (fun s₄ J₄ => ?_) hC hs hp))
    refine wpAny_assignInOrder_more (wpAny_assign_Name (st J₄ (fun s₅ J₅ => ?_) hC hr hp))
    refine wpAny_assignInOrder_none ?_
    refine wpAny_bind (wpAny_pure ?_)
    dsimp only
    rw [if_pos rfl]
    have hsg : (put "reference" (.str (S T[i].2) tz) (put "sign" (.str (S [T[i].1]) ts) l')).lookup ("sign" : Str) = some (.str (S [T[i].1]) ts) := by rw [lookup_put_ne _ _ (by decide), lookup_put]
    refine wpAny_bind (wpAny_bind (ev_init J₅ (lookup_put ..) (Nat.le_trans (hTl _ (List.getElem_mem hlt)) (by show 10 ≤ 100000; omega)) (fun tr s₆ J₆ => ?_) hC hk hr))
    refine wpAny_bind (wpAny_holding (ldl J₆ hsg ?_ hC hk hs))
    refine wpAny_bind (wpAny_standAt (wpAny_holding ?_))
    have hDo : s₆.heap.DictOf (PySem.strKind pg w) D kvs' := hD'.at fun o e => J₆.keep D o hDC (k₃ D o (hs₂.extBut D o (Ne.symm hitD) (hk₁ D o (Ne.symm hitD) e)))
    have hitb : ∀ b, b ∈ [it] → b = it := fun b hb => List.mem_singleton.mp hb
    have hkD : ∀ b o, b ≠ C → b ≠ it → sB.heap.get? b = some o → b ≠ D → s₆.heap.get? b = some o := fun b o h1 h2 e h3 => J₆.keep b o h1 (k₃ b o (hs₂.extBut b o h2 (hk₁ b o h2 (hkeep b o h1 h2 h3 e))))
    have hTk : T.take (i + 1) = T.take i ++ [T[i]] := List.take_succ_eq_append_getElem hlt
    have hnot : cut T[i].2 ∉ (T.take i).map fun p => cut p.2 := by
      intro hm
      have e1 : (T.map fun p => cut p.2) = ((T.take i).map fun p => cut p.2) ++ ((T.drop i).map fun p => cut p.2) := by rw [← List.map_append, List.take_append_drop]
      rw [e1] at hTn
      have := (List.nodup_append.mp hTn).2.2 _ hm _ (List.mem_map.mpr ⟨T[i], by rw [List.drop_eq_getElem_cons hlt]; exact .head _, rfl⟩)
      exact this rfl
    refine wpAny_dictSet_pairs (k := S (cut T[i].2)) (by simp [PySem.strKind, Value.isStrOf, cut]) hDo (fun h₇ hD₇ hs₇ => ?_) (by rw [hSG.1, sizeLine_eq]; have := List.length_take_le i T; omega)
    obtain ⟨h₆, tk₆, rfl⟩ := J₆.same
    refine wpAny_pure ⟨rfl, T.length - (i + 1), by omega, i + 1, h₇, tk₆ + 1, put "reference" (.str (S T[i].2) tz) (put "sign" (.str (S [T[i].1]) ts) l'), stored kvs' (S (cut T[i].2)) (.str (S [T[i].1]) ts), .str (S [T[i].1]) ts, .str (S T[i].2) tz, rfl, rfl, hlt, ?_, ?_, hD₇, ?_, ?_, ?_, ?_⟩
    · exact hs₇.extBut _ _ hitD (J₆.keep _ _ hitC (k₃ _ _ hit₂))
    · exact hd'.at fun o e => hs₇.extBut _ _ hdD (J₆.keep _ _ hdC (k₃ _ _ (hs₂.extBut _ _ (Ne.symm hitd) (hk₁ _ _ (Ne.symm hitd) e))))
    · rw [hTk]; exact hSG.snoc hnot
    · exact J₆.anew.self_walk (wr := [D]) (h' := h₇) (k := tk₆ + 1) (fun b hb => by obtain rfl := List.mem_singleton.mp hb; exact ⟨h9D, hDC, fun p hp => nomatch hp⟩) (Nat.le_succ _) (fun b o hb e => hs₇.extBut b o (fun z => hb (z ▸ .head _)) e)
    · exact Nat.le_succ_of_le (Nat.le_trans htk J₆.tk)
    · exact fun b o h1 h2 h3 e => hs₇.extBut b o h3 (hkD b o h1 h2 e h3)
  · have hin : i = T.length := by omega
    subst hin
    refine wpAny_pyNext_items_end hh hit' hd' (by rw [← hlen]; simp) fun h₁ hs₁ => ?_
    refine wpAny_pure (fin h₁ tk (loc l') kvs' (I'.ns.at' fun o e => hs₁ _ o (Ne.symm hitC) e) (hD'.at fun o e => hs₁ _ o (Ne.symm hitD) e) (by rw [List.take_length] at hSG; exact hSG) htk fun b o h1 h2 h3 e => hs₁ b o h2 (hkeep b o h1 h2 h3 e))
end
end
end Mine

end PartM12

section PartM13
open PySem PySem.W PyProof.Rows PySem.Calls
set_option Elab.async false
set_option maxRecDepth 100000
namespace Mine
noncomputable section
section
variable {A : Around} {E : Value → Shared → Prop} {w : World} {s₀ s : Shared} {L : Addr} {l : List (Str × Value)} {news : List (Addr × Obj)} {env : Env}

theorem fresh_at {h : Heap} {a : Addr} (ha : h.objs.size ≤ a) : h.get? a = none := by
  cases e : h.get? a with
  | none => rfl
  | some o => exact absurd (Heap.lt_size e) (Nat.not_lt.mpr ha)

theorem signs_stmt {d : Addr} {o : Obj} {T : List (Nat × List Nat)} {scope : Scope} {k k1 : Nat} {pos spos py p1 p2 p3 p4 p5 p6 p7 p8 p9 p10 p11 p12 : Pos} {Q : Flow → Shared → Prop}
    (I : In w s₀ L (loc l) news s) (hv : l.lookup ("table" : Str) = some (.ref d)) (hdn : (d, o) ∈ news) (hTO : TabO w o T) (hTn : (T.map fun p => cut p.2).Nodup) (hTl : ∀ p ∈ T, p.2.length ≤ 10) (hT15 : T.length ≤ 15) (h9d : 92 < d)
    (h : ∀ D oD s', 92 < D → SGO w oD T → In w s₀ L (loc (put "signs" (.ref D) l)) ((D, oD) :: news) s' → Q .next s') (hh : A.handled = none)
    (hsw : swapsWith (.DictComp (.Subscript (.Name "reference" p4) (.Slice none (some (.UnaryOp .USub (.Constant (.int 1) k1 p5) p6)) none p7) p8) (.Name "sign" p9) [⟨.Tuple [.Name "sign" p1, .Name "reference" p2] k p3, .Call (.Attribute (.Name "table" p10) "items" p11) [] [] p12, [], 0⟩] scope pos) (some (.Name "signs" py)) spos.line env = pure true := by rfl)
    (hfree : ∀ x ∈ scope.names, x.2 ≠ .free := by decide +kernel) (hcell : ∀ x ∈ scope.names, x.2 ≠ .cell := by decide +kernel) (hkind : scope.kind = .function := by rfl) (hnames : ∀ x ∈ scope.names, x.2 = .local → scope.names.lookup x.1 = some .local := by decide +kernel)
    (hs1 : scope.names.lookup ("sign" : Str) = some .local := by rfl) (hs2 : scope.names.lookup ("reference" : Str) = some .local := by rfl) (hset : ∀ x, foldedSetIterable (.Call (.Attribute (.Name "table" p10) "items" p11) [] [] p12) env x = pure x := by intro _; rfl)
    (hline : (p11.endLine == p12.line) = true := by rfl)
    (hL : env.locals = L := by rfl) (hk : env.scope.kind = .function := by rfl) (hlt : env.kindOf "table" = some .local := by rfl) (hls : env.kindOf "signs" = some .local := by rfl) :
    wpAny (model pg w) A (exec (.Assign [.Name "signs" py] (.DictComp (.Subscript (.Name "reference" p4) (.Slice none (some (.UnaryOp .USub (.Constant (.int 1) k1 p5) p6)) none p7) p8) (.Name "sign" p9) [⟨.Tuple [.Name "sign" p1, .Name "reference" p2] k p3, .Call (.Attribute (.Name "table" p10) "items" p11) [] [] p12, [], 0⟩] scope pos) spos) env) Q E s := by
  have hp : (env.scope.kind == .class || (env.scope.kind == .module && env.locals != env.globals)) = false := by rw [hk]; rfl
  rw [exec_Assign_Name_used _ _ _ _ hsw]
  refine wpAny_bind (wpAny_standAt (wpAny_bind ?_))
  show wpAny _ A (do let _ ← comprehension _ scope env _ newDict false (eval (.Call (.Attribute (.Name "table" p10) "items" p11) [] [] p12) env) (some (assign (.Name "signs" py) env))) _ _ s
  refine wpAny_bind (wpAny_mono (wpAny_comprehension_use (Q := fun _ s' => Q .next s') rfl hset hfree hkind hnames ?_)
    (fun _ s' hq => wpAny_pure (wpAny_pure hq)) fun _ _ e => e)
  have hd := (I.nw _ hdn)
  obtain ⟨kvs, hdo, hkv⟩ := hTO.dictOf hd.2
  obtain ⟨ep, hda⟩ := hdo.dictAt
  have hdlt : d < s.heap.objs.size := Heap.lt_size hd.2
  refine wpAny_Call_items (knd := PySem.strKind pg w) (by
    have : d ≠ sysModules := fun z => by rw [z] at h9d; exact absurd h9d (by decide)
    simpa using this) hdo rfl hline (fun Q' hq => ldl I hv hq hL hk hlt) ?_
  refine wpAny_pyIter_items (knd := PySem.strKind pg w) (d := d) ⟨_, Heap.get?_push_size _ rfl, rfl, rfl⟩ (hda.push _) ?_
  refine wpAny_newObj_type ?_
  refine wpAny_newFunctionEnv hcell (by intro y hy; simp at hy) (fun h₁ hns₁ hsb₁ => ?_) hkind
  dsimp only at hns₁ hsb₁ ⊢
  generalize hH1 : s.heap.push { cls := .type "dict_items", data := .fields #[.ref d] } = H1 at hns₁ hsb₁ ⊢
  generalize hH2 : H1.push { cls := .type "dict_itemiterator", data := .fields #[.none, .bool false, .ref d, .int 0 0, .int kvs.length 0, .int ep 0, .none, .none] } = H2 at hns₁ hsb₁ ⊢
  generalize hH3 : H2.push { cls := .type "dict", dict := none, data := .dict #[] } = H3 at hns₁ hsb₁ ⊢
  have z1 : H1.objs.size = s.heap.objs.size + 1 := by rw [← hH1, Heap.size_push]
  have z2 : H2.objs.size = s.heap.objs.size + 2 := by rw [← hH2, Heap.size_push, z1]
  have z3 : H3.objs.size = s.heap.objs.size + 3 := by rw [← hH3, Heap.size_push, z2]
  have up1 : ∀ b o, s.heap.get? b = some o → H3.get? b = some o := fun b o e => by
    rw [← hH3]; refine Heap.get?_push_of_some _ ?_
    rw [← hH2]; refine Heap.get?_push_of_some _ ?_
    rw [← hH1]; exact Heap.get?_push_of_some _ e
  have old : ∀ b o, H3.get? b = some o → h₁.get? b = some o := fun b o e => hsb₁.extBut b o (Nat.ne_of_lt (Heap.lt_size e)) (Heap.get?_push_of_some _ e)
  have hitH : H3.get? H1.objs.size = some { cls := .type "dict_itemiterator", data := .fields #[.none, .bool false, .ref d, .int 0 0, .int kvs.length 0, .int ep 0, .none, .none] } := by
    rw [← hH3]; refine Heap.get?_push_of_some _ ?_
    rw [← hH2]; exact Heap.get?_push_size _ rfl
  have hDH : H3.get? H2.objs.size = some { cls := .type "dict", dict := none, data := .dict #[] } := by rw [← hH3]; exact Heap.get?_push_size _ rfl
  have hDo : h₁.DictOf (PySem.strKind pg w) H2.objs.size [] := ⟨_, #[], 0, old _ _ hDH, ⟨rfl, rfl, rfl⟩, rfl, by intro e he; simp at he, .nil, .nil⟩
  have hsz := I.gnd.size
  have l3 : 92 < H3.objs.size := by omega
  have I₁ : In w { s with heap := h₁, toks := s.toks + ([] : List (Str × Value)).length } H3.objs.size (loc []) [] { s with heap := h₁, toks := s.toks + ([] : List (Str × Value)).length } :=
    ⟨⟨_, _, rfl⟩, fun _ _ _ e => e, hns₁, I.gnd.keeps fun b o e => old b o (up1 b o e), l3, Nat.le_refl _, I.pos, fun p hp => nomatch hp⟩
  have q12 : H1.objs.size ≠ H2.objs.size := by omega
  have q13 : H1.objs.size ≠ H3.objs.size := by omega
  have q23 : H2.objs.size ≠ H3.objs.size := by omega
  have l1 : 92 < H1.objs.size := by omega
  have l2 : 92 < H2.objs.size := by omega
  have g1 : s.heap.objs.size ≤ H1.objs.size := by omega
  have g2 : s.heap.objs.size ≤ H2.objs.size := by omega
  have g3 : s.heap.objs.size ≤ H3.objs.size := by omega
  have loop : ∀ R : Result → Shared → Prop, (∀ h' tk m' kvs', h'.Ns H3.objs.size m' → h'.DictOf (PySem.strKind pg w) H2.objs.size kvs' → SG kvs' T → s.toks ≤ tk → (∀ b o, b ≠ H3.objs.size → b ≠ H1.objs.size → b ≠ H2.objs.size → h₁.get? b = some o → h'.get? b = some o) → R (.ok .next) { s with heap := h', toks := tk }) →
      codeAny (model pg w) A (.compLoop (.DictComp (.Subscript (.Name "reference" p4) (.Slice none (some (.UnaryOp .USub (.Constant (.int 1) k1 p5) p6)) none p7) p8) (.Name "sign" p9) [⟨.Tuple [.Name "sign" p1, .Name "reference" p2] k p3, .Call (.Attribute (.Name "table" p10) "items" p11) [] [] p12, [], 0⟩] scope pos) 0
      (.ref H1.objs.size) (.ref H2.objs.size) (let c : Env := newEnv scope H3.objs.size env.globals [] env.qual none .none (some env) builtinsNs; { c with scope := scope })) R
      { s with heap := h₁, toks := s.toks + ([] : List (Str × Value)).length } := by
    intro R fin
    exact signs_loop (C := H3.objs.size) (d := d) (D := H2.objs.size) (ep := ep) hh hkv hTn hTl hT15 (Nat.ne_of_gt (Nat.lt_of_lt_of_le hdlt g1)) q12 q13 (Nat.ne_of_lt (Nat.lt_of_lt_of_le hdlt g2)) (Nat.ne_of_lt (Nat.lt_of_lt_of_le hdlt g3)) q23 l1 l2 I₁ (old _ _ hitH) (hda.at fun o e => old _ _ (up1 _ _ e)) hDo rfl hkind hs1 hs2 fin
  have fin : ∀ (h' : Heap) (tk : Nat) m' kvs', h'.Ns H3.objs.size m' → h'.DictOf (PySem.strKind pg w) H2.objs.size kvs' → SG kvs' T → s.toks ≤ tk → (∀ b o, b ≠ H3.objs.size → b ≠ H1.objs.size → b ≠ H2.objs.size → h₁.get? b = some o → h'.get? b = some o) →
      wpAny (model pg w) A (assign (.Name "signs" py) env (.ref H2.objs.size)) (fun _ s'' => ∃ m, s''.heap.Ns H3.objs.size m ∧ ∀ h', Heap.SameBut H3.objs.size s''.heap h' → Q .next { s'' with heap := h' }) E { s with heap := h', toks := tk } := by
    intro h' tk m' kvs' hns hD hSG htk hkeep
    have hk2 : ∀ b o, s.heap.get? b = some o → h'.get? b = some o := fun b o e =>
      hkeep b o (Nat.ne_of_lt (Nat.lt_of_lt_of_le (Heap.lt_size e) g3)) (Nat.ne_of_lt (Nat.lt_of_lt_of_le (Heap.lt_size e) g1)) (Nat.ne_of_lt (Nat.lt_of_lt_of_le (Heap.lt_size e) g2)) (old b o (up1 b o e))
    have J := I.on htk hk2
    have hLs : L < s.heap.objs.size := I.ns.lt
    obtain ⟨oD, hDo', rD⟩ := Heap.dictOf_iff.mp hD
    obtain ⟨oC, _, _, hCo, _⟩ := id hns
    have J' := (J.more (a := H2.objs.size) hDo' (Nat.ne_of_gt (Nat.lt_of_lt_of_le hLs g2))).more (a := H3.objs.size) hCo (Nat.ne_of_gt (Nat.lt_of_lt_of_le hLs g3))
    refine wpAny_assign_Name (st J' (fun s₂ J₂ => ?_) hL hls hp)
    have hC2 := (J₂.nw _ (.head _)).2
    refine ⟨m', hns.at' fun o e => by rw [hCo] at e; cases e; exact hC2, fun h₃ hs₃ => ?_⟩
    have hCn : s.heap.get? H3.objs.size = none := fresh_at g3
    have hC0 : s₀.heap.get? H3.objs.size = none := by
      cases e : s₀.heap.get? H3.objs.size with
      | none => rfl
      | some o' =>
        have := I.keep _ _ (Nat.ne_of_gt (Nat.lt_of_lt_of_le hLs g3)) e
        rw [hCn] at this; cases this
    have J₃ := J₂.forget (news' := (H2.objs.size, oD) :: news) fun p hp => .tail _ hp
    have J₄ := J₃.walk (wr := [H3.objs.size]) (h' := h₃) (k := s₂.toks) (fun b hb => by
      obtain rfl := List.mem_singleton.mp hb
      refine ⟨hC0, l3, Nat.ne_of_gt (Nat.lt_of_lt_of_le hLs g3), fun p hp => ?_⟩
      rcases List.mem_cons.mp hp with rfl | hp
      · exact q23
      · exact Nat.ne_of_lt (Nat.lt_of_lt_of_le (Heap.lt_size (I.nw p hp).2) g3)) (Nat.le_refl _) (fun b o hb e => hs₃.extBut b o (fun z => hb (z ▸ .head _)) e)
    refine h H2.objs.size oD _ l2 ⟨kvs', ?_, hSG⟩ J₄
    exact rD
  exact codeAny_compStart_dict (loop _ fin) (kcp_self (old _ _ hitH) (loop _ fin))
end
end
end Mine

end PartM13

section PartM14
open PySem PySem.W PyProof.Rows PySem.Calls
set_option Elab.async false
set_option maxRecDepth 100000
namespace Mine
noncomputable section

theorem SV.of_texts : ∀ {l : List (Str × Tok)} {fs : List (List Nat)}, l.map (·.1) = fs.map S → SV (strValues l) fs
  | [], [], _ => trivial
  | (x, t) :: l, f :: fs, h => by
    simp only [List.map_cons, List.cons.injEq] at h
    obtain ⟨h1, h2⟩ := h
    exact ⟨⟨t, by rw [← h1]⟩, SV.of_texts h2⟩
  | [], _ :: _, h => by simp at h
  | _ :: _, [], h => by simp at h
/-- a list object -/
def LO (o : Obj) (vals : List Value) : Prop := o.cls = .type "list" ∧ ∃ n, o.data = .seq vals.toArray n
theorem LO.isList {o : Obj} {vals : List Value} (h : LO o vals) {hp : Heap} {a : Addr} (e : hp.get? a = some o) : hp.IsList a vals.toArray := ⟨o, e, h.1, h.2⟩
theorem LO.of {hp : Heap} {a : Addr} {vals : List Value} (h : hp.IsList a vals.toArray) : ∃ o, hp.get? a = some o ∧ LO o vals := let ⟨o, e, c, d⟩ := h; ⟨o, e, c, d⟩
theorem ns_not_list {h : Heap} {L D : Addr} {m : Str → Option Value} {vs : Array Value} (hn : h.Ns L m) (hl : h.IsList D vs) : D ≠ L := by
  rintro rfl
  obtain ⟨o, es, ep, ho, hd, _⟩ := hn
  obtain ⟨o', ho', _, n, hd'⟩ := hl
  rw [ho] at ho'; cases ho'
  rw [hd] at hd'; cases hd'

section
variable {A : Around} {E : Value → Shared → Prop} {w : World} {s₀ s : Shared} {L : Addr} {l : List (Str × Value)} {m : Str → Option Value} {news : List (Addr × Obj)} {env : Env}

/-- x.split('c'), the object already evaluated -/
theorem split_on {cs : Str} {x : List Nat} {c : Nat} {t : Tok} {k1 : Nat} {p6 p8 : Pos} {Q : Value → Shared → Prop} (I : In w s₀ L m news s)
    (hc : cs = S [c]) (hx : x.length ≤ 100000)
    (h : ∀ D o vals s', SV vals (spl c x) → LO o vals → In w s₀ L m ((D, o) :: news) s' → Q (.ref D) s') :
    MethodOnS pg w A E (Str.ofString "split") (.str (S x) t) p8 [(false, eval (.Constant (.str cs) k1 p6) env)] Q s := by
  subst hc
  refine ⟨"str", _, F.plainAttrs_str, F.slot_str_split, F.type_str_split, typeIs_str _ _ _, (fun _ e => nomatch e), ?_⟩
  refine callWith_builtin rfl (evalArgs_plain (spliced_cons (ldc I fun u s₁ hu1 hu2 I₁ => spliced_nil ?_)))
  refine wpAny_with_toks (n := s₁.toks) (Nat.le_refl _) (SCH.split1 (P := fun h' => ∀ b o, s₁.heap.get? b = some o → h'.get? b = some o) (fun h ob hp b o e => Heap.get?_push_of_some _ (hp b o e)) (fun _ _ e => e) rfl (fun D l' h' k hl hp hlist hk => ?_) ?_ ?_)
  · rw [split_S] at hl
    have I₂ := I₁.on hk hp
    obtain ⟨o, ho, hlo⟩ := LO.of hlist
    exact h D o _ _ (SV.of_texts hl) hlo (I₂.more ho (ns_not_list I₂.ns hlist))
  · rw [S_length, sizeLine_eq]; omega
  · rw [length_partsBetween]
    have := StrLaws.occ_length_le (S x) (S [c]) 0 (S x).length ((S x).length + 1)
    rw [S_length] at this ⊢
    rw [sizeLine_eq]; omega
end
end
end Mine

end PartM14

section PartM15
open PySem PySem.W PyProof.Rows PySem.Calls
set_option Elab.async false
set_option maxRecDepth 100000
namespace Mine
noncomputable section

def wrong : List Nat := [119, 114, 111, 110, 103]
def lookR (T : List (Nat × List Nat)) (z : List Nat) : List Nat := match T.find? (fun p => cut p.2 == z) with
  | some p => [p.1]
  | none => wrong
theorem lookR_le (T : List (Nat × List Nat)) (z : List Nat) : (lookR T z).length ≤ 5 := by
  unfold lookR; split <;> simp [wrong]
def readStep (T : List (Nat × List Nat)) (told chunk : List Nat) : List Nat := told ++ lookR T (38 :: chunk.takeWhile (· != 45)) ++ (chunk.dropWhile (· != 45)).drop 1
def readT (T : List (Nat × List Nat)) (name : List Nat) : List Nat := match spl 38 name with
  | [] => []
  | a :: r => r.foldl (readStep T) a
theorem readStep_le (T : List (Nat × List Nat)) (told chunk : List Nat) : (readStep T told chunk).length ≤ told.length + 5 + chunk.length := by
  unfold readStep
  have h1 := lookR_le T (38 :: chunk.takeWhile (· != 45))
  have h2 : (chunk.dropWhile (· != 45)).length ≤ chunk.length := by
    rw [← drop_takeWhile]; simp
  simp only [List.length_append, List.length_drop]
  omega
theorem spl_len (c : Nat) : ∀ x : List Nat, ((spl c x).map List.length).sum + (spl c x).length = x.length + 1
  | [] => rfl
  | k :: r => by
    have ih := spl_len c r
    unfold spl
    split
    · simp only [List.map_cons, List.sum_cons, List.length_cons, List.length_nil]; omega
    · cases e : spl c r with
      | nil => exact absurd e (spl_ne c r)
      | cons p q => rw [e] at ih; simp only [List.map_cons, List.sum_cons, List.length_cons] at ih ⊢; omega
theorem read_len (T : List (Nat × List Nat)) : ∀ (r : List (List Nat)) (a : List Nat), (r.foldl (readStep T) a).length ≤ a.length + 5 * r.length + (r.map List.length).sum
  | [], a => by simp
  | c :: r, a => by
    have ih := read_len T r (readStep T a c)
    have h := readStep_le T a c
    simp only [List.foldl_cons, List.length_cons, List.map_cons, List.sum_cons]
    omega

theorem SG.find : ∀ {kvs : List (Str × Value)} {T : List (Nat × List Nat)}, SG kvs T → ∀ (z : List Nat) (u : Tok), ∃ t, ((valueAt kvs (S z)).getD (.str (S wrong) u)) = .str (S (lookR T z)) t
  | [], [], _, z, u => ⟨u, rfl⟩
  | (k, v) :: kvs, (c, y) :: T, h, z, u => by
    obtain ⟨t, e⟩ := h.2 0 (by simp)
    simp only [List.getElem?_cons_zero, Option.some.injEq, Prod.mk.injEq] at e
    obtain ⟨e1, e2⟩ := e
    simp only [List.getElem_cons_zero] at e1 e2
    have h' : SG kvs T := ⟨by have := h.1; simpa using this, fun i hi => by
      obtain ⟨t, e⟩ := h.2 (i + 1) (by simpa using hi)
      exact ⟨t, by simpa using e⟩⟩
    by_cases hz : cut y = z
    · refine ⟨t, ?_⟩
      simp [valueAt, lookR, e1, e2, hz]
    · obtain ⟨t', e'⟩ := SG.find h' z u
      refine ⟨t', ?_⟩
      have n1 : ¬ (k = S z) := fun q => hz (S_inj (e1.symm.trans q))
      have n2 : (cut y == z) = false := by simpa using hz
      rw [← (show lookR ((c, y) :: T) z = lookR T z by simp [lookR, n2])] at e'
      rw [← e']
      simp [valueAt, n1]
  | [], _ :: _, h, _, _ => by have := h.1; simp at this
  | _ :: _, [], h, _, _ => by have := h.1; simp at this

section
variable {A : Around} {E : Value → Shared → Prop} {w : World} {s₀ s : Shared} {L : Addr} {l : List (Str × Value)} {m : Str → Option Value} {news : List (Addr × Obj)} {env : Env}

/-- x.partition('c') -/
theorem partition_on {cs : Str} {x : List Nat} {c : Nat} {t : Tok} {k1 : Nat} {p6 p8 : Pos} {Q : Value → Shared → Prop} (I : In w s₀ L m news s)
    (hc : cs = S [c]) (hx : x.length ≤ 100000)
    (h : ∀ D ta tb tc s', s'.heap.IsTuple D #[.str (S (x.takeWhile (· != c))) ta, .str (S (if c ∈ x then [c] else [])) tb, .str (S ((x.dropWhile (· != c)).drop 1)) tc] → In w s₀ L m news s' → Q (.ref D) s') :
    MethodOnS pg w A E (Str.ofString "partition") (.str (S x) t) p8 [(false, eval (.Constant (.str cs) k1 p6) env)] Q s := by
  subst hc
  refine ⟨"str", _, F.plainAttrs_str, F.slot_str_partition, F.type_str_partition, typeIs_str _ _ _, (fun _ e => nomatch e), ?_⟩
  refine callWith_builtin rfl (evalArgs_plain (spliced_cons (ldc I fun u s₁ hu1 hu2 I₁ => spliced_nil ?_)))
  have I₂ : In w s₁ L m [] s₁ := I₁.anew.forget fun p hp => nomatch hp
  refine call_meets F.slot_str_partition (typeIs_str _ _ _) F.entry_str_partition (F.args_str_partition_2 _ _) (meets_str_partition (S x) (S [c]) t u rfl (by rw [S_length, sizeLine_eq]; omega)) ?_
  have hp := partition_S x c
  unfold Txt.partition at hp
  revert hp
  cases Builtin.Str.occurrences (S x) (S [c]) 0 (S x).length 1 with
  | nil =>
    intro hp
    simp only [Prod.mk.injEq] at hp
    have I₃ := I₁.on (h' := s₁.heap.push { cls := .type "tuple", data := .seq [.str (S x) t, .str Str.empty s₁.toks, .str Str.empty s₁.toks].toArray }) (k := s₁.toks + 1) (Nat.le_succ _) fun b o e => Heap.get?_push_of_some _ e
    refine h _ t s₁.toks s₁.toks _ ⟨_, Heap.get?_push_size _ rfl, rfl, 0, ?_⟩ I₃
    rw [← hp.1, ← hp.2.1, ← hp.2.2]
  | cons i r =>
    intro hp
    simp only [Prod.mk.injEq] at hp
    have I₃ := I₁.on (h' := s₁.heap.push { cls := .type "tuple", data := .seq [.str (Builtin.Str.strSub (S x) 0 i) s₁.toks, .str (S [c]) u, .str (Builtin.Str.strSub (S x) (i + (S [c]).length) (S x).length) (s₁.toks + 1)].toArray }) (k := s₁.toks + 1 + 1) (Nat.le_succ_of_le (Nat.le_succ _)) fun b o e => Heap.get?_push_of_some _ e
    refine h _ s₁.toks u (s₁.toks + 1) _ ⟨_, Heap.get?_push_size _ rfl, rfl, 0, ?_⟩ I₃
    rw [← hp.1, ← hp.2.1, ← hp.2.2]

/-- three names from a tuple -/
theorem three {a b c : Str} {pa pb pc p : Pos} {k : Nat} {D : Addr} {x y z : Value} {Q : Unit → Shared → Prop} (hh : A.handled = none) (I : In w s₀ L (loc l) news s) (ht : s.heap.IsTuple D #[x, y, z])
    (h : ∀ s', In w s₀ L (loc (put c z (put b y (put a x l)))) news s' → Q () s')
    (hL : env.locals = L := by rfl) (ha : env.kindOf a = some .local := by rfl) (hb : env.kindOf b = some .local := by rfl) (hc : env.kindOf c = some .local := by rfl) (hp : (env.scope.kind == .class || (env.scope.kind == .module && env.locals != env.globals)) = false := by rfl) :
    wpAny (model pg w) A (assign (.Tuple [.Name a pa, .Name b pb, .Name c pc] k p) env (.ref D)) Q E s := by
  refine wpAny_assign_Tuple hh ht rfl rfl fun h₃ hs₃ => ?_
  have k₃ : ∀ b o, s.heap.get? b = some o → h₃.get? b = some o := fun b o e => hs₃ b o (Nat.ne_of_lt (Heap.lt_size e)) e
  have J₃ := I.on (k := s.toks) (h' := h₃) (Nat.le_refl _) k₃
  show wpAny _ A (assignInOrder [assign (.Name a pa) env, assign (.Name b pb) env, assign (.Name c pc) env] [x, y, z]) _ _ _
  refine wpAny_assignInOrder_more (wpAny_assign_Name (st J₃ (fun s₄ J₄ => ?_) hL ha hp))
  refine wpAny_assignInOrder_more (wpAny_assign_Name (st J₄ (fun s₅ J₅ => ?_) hL hb hp))
  refine wpAny_assignInOrder_more (wpAny_assign_Name (st J₅ (fun s₆ J₆ => ?_) hL hc hp))
  exact wpAny_assignInOrder_none (h _ J₆)

/-- adding two texts -/
theorem add_on {x y : List Nat} {t u : Tok} {Q : Value → Shared → Prop} (I : In w s₀ L m news s) (hx : x.length + y.length ≤ 100000) (h : ∀ t' s', In w s₀ L m news s' → Q (.str (S (x ++ y)) t') s') :
    wpAny (model pg w) A (binaryOp .Add (.str (S x) t) (.str (S y) u)) Q E s := by
  refine wpAny_with_toks (n := s.toks) (Nat.le_refl _) (SB.add (fun t₃ k₃ hk₃ => ?_) (by rw [S_length, S_length, sizeLine_eq]; omega))
  rw [S_append]
  exact h t₃ _ (I.tok hk₃)

theorem read_turn {d : Addr} {o : Obj} {T : List (Nat × List Nat)} {told chunk : List Nat} {t u : Tok} {cs cs2 cs3 : Str} {p1 p2 p3 p4 p5 p6 p7 p8 p9 p10 p11 p12 p13 p14 p15 p16 p17 p18 p19 p20 p21 p22 : Pos} {k k1 k2 k3 : Nat} {Q : Flow → Shared → Prop}
    (hh : A.handled = none) (I : In w s₀ L (loc l) news s) (hdn : (d, o) ∈ news) (hd9 : 92 < d) (hSG : SGO w o T) (hs : l.lookup ("signs" : Str) = some (.ref d)) (ht : l.lookup ("told" : Str) = some (.str (S told) t)) (hc : l.lookup ("chunk" : Str) = some (.str (S chunk) u))
    (hlen : told.length + chunk.length ≤ 90000) (hcs : cs = S [45]) (hcs2 : cs2 = S [38]) (hcs3 : cs3 = S wrong)
    (h : ∀ l' t' s', l'.lookup ("signs" : Str) = some (.ref d) → l'.lookup ("told" : Str) = some (.str (S (readStep T told chunk)) t') → In w s₀ L (loc l') news s' → Q .next s')
    (hL : env.locals = L := by rfl) (hk : env.scope.kind = .function := by rfl) (h1 : env.kindOf "reference" = some .local := by rfl) (h2 : env.kindOf "hyphen" = some .local := by rfl) (h3 : env.kindOf "rest" = some .local := by rfl) (h4 : env.kindOf "chunk" = some .local := by rfl) (h5 : env.kindOf "told" = some .local := by rfl) (h6 : env.kindOf "signs" = some .local := by rfl)
    (hline1 : (p5.endLine == p7.line) = true := by rfl) (hline2 : (p11.endLine == p17.line) = true := by rfl) :
    wpAny (model pg w) A (execs [.Assign [.Tuple [.Name "reference" p1, .Name "hyphen" p2, .Name "rest" p3] k p4] (.Call (.Attribute (.Name "chunk" p20) "partition" p5) [.Constant (.str cs) k1 p6] [] p7) p8,
      .Assign [.Name "told" p9] (.BinOp (.BinOp (.Name "told" p10) .Add (.Call (.Attribute (.Name "signs" p21) "get" p11) [.BinOp (.Constant (.str cs2) k2 p12) .Add (.Name "reference" p13) p14, .Constant (.str cs3) k3 p15] [] p17) p16) .Add (.Name "rest" p18) p19) p22] env) Q E s := by
  have hp : (env.scope.kind == .class || (env.scope.kind == .module && env.locals != env.globals)) = false := by rw [hk]; rfl
  refine wpAny_execs_cons (Assign_Tuple ?_)
  refine Call_method1 rfl rfl hline1 (ldl I hc ?_ hL hk h4)
  refine partition_on I hcs (by omega) fun D ta tb tc s₁ htup I₁ => ?_
  refine three hh I₁ htup (fun s₂ I₂ => ?_) hL h1 h2 h3 hp
  refine wpAny_execs_cons (wpAny_Assign_Name ?_)
  have tw : (chunk.takeWhile (· != 45)).length ≤ chunk.length := (List.takeWhile_sublist _).length_le
  have dw : ((chunk.dropWhile (· != 45)).drop 1).length ≤ chunk.length := by rw [← drop_takeWhile]; simp
  refine wpAny_BinOp ?_
  refine wpAny_BinOp ?_
  refine ldl I₂ (v := .str (S told) t) (by rw [lookup_put_ne _ _ (by decide), lookup_put_ne _ _ (by decide), lookup_put_ne _ _ (by decide)]; exact ht) ?_ hL hk h5
  refine Call_method2 rfl rfl hline2 (ldl I₂ (v := .ref d) (by rw [lookup_put_ne _ _ (by decide), lookup_put_ne _ _ (by decide), lookup_put_ne _ _ (by decide)]; exact hs) ?_ hL hk h6)
  obtain ⟨kvs, hdo, hsg⟩ := hSG.dictOf (I₂.nw _ hdn).2
  have hdS : (d == sysModules) = false := by
    have : d ≠ sysModules := fun z => by rw [z] at hd9; exact absurd hd9 (by decide)
    simpa using this
  refine ⟨"dict", _, F.plainAttrs_dict, F.slot_dict_get, F.type_dict_get, hdo.typeIs, hdo.mapOf.noDict, ?_⟩
  refine wpAny_dict_get2 (knd := PySem.strKind pg w) hdS ?_
  subst hcs2 hcs3
  refine wpAny_BinOp ?_
  refine ldc I₂ fun t₁ s₃ _ _ I₃ => ?_
  refine ldl I₃ (v := .str (S (chunk.takeWhile (· != 45))) ta) (by rw [lookup_put_ne _ _ (by decide), lookup_put_ne _ _ (by decide), lookup_put]) ?_ hL hk h1
  refine add_on I₃ (by simp only [List.length_cons, List.length_nil]; omega) fun t₂ s₄ I₄ => ?_
  refine ldc I₄ fun t₃ s₅ _ _ I₅ => ?_
  obtain ⟨kvs', hdo', hsg'⟩ := hSG.dictOf (I₅.nw _ hdn).2
  refine ⟨S ([38] ++ chunk.takeWhile (· != 45)), _, by simp [PySem.strKind, Value.isStrOf], hdo'.mapOf, ?_⟩
  obtain ⟨t₄, e₄⟩ := hsg'.find ([38] ++ chunk.takeWhile (· != 45)) t₃
  rw [e₄]
  have I₆ := I₅.tok (Nat.le_succ _)
  have ll := lookR_le T ([38] ++ chunk.takeWhile (· != 45))
  refine add_on I₆ (by omega) fun t₅ s₆ I₇ => ?_
  refine ldl I₇ (v := .str (S ((chunk.dropWhile (· != 45)).drop 1)) tc) (by rw [lookup_put]) ?_ hL hk h3
  refine add_on I₇ (by rw [List.length_append]; omega) fun t₆ s₇ I₈ => ?_
  refine st I₈ (fun s₈ I₉ => ?_) hL h5 hp
  refine wpAny_execs_nil (h _ t₆ s₈ ?_ (lookup_put ..) I₉)
  rw [lookup_put_ne _ _ (by decide), lookup_put_ne _ _ (by decide), lookup_put_ne _ _ (by decide), lookup_put_ne _ _ (by decide)]
  exact hs
end
end
end Mine

end PartM15

section PartM16
open PySem PySem.W PyProof.Rows PySem.Calls
set_option Elab.async false
set_option maxRecDepth 100000
namespace Mine
noncomputable section

theorem In.fresh {w : World} {s₀ s : Shared} {L : Addr} {m : Str → Option Value} {news : List (Addr × Obj)} (I : In w s₀ L m news s) {a : Addr} (ha : s.heap.objs.size ≤ a) : s₀.heap.get? a = none ∧ 92 < a ∧ a ≠ L ∧ ∀ p ∈ news, p.1 ≠ a := by
  have hL : a ≠ L := Nat.ne_of_gt (Nat.lt_of_lt_of_le I.ns.lt ha)
  refine ⟨?_, Nat.lt_of_lt_of_le I.gnd.size ha, hL, fun p hp => Nat.ne_of_lt (Nat.lt_of_lt_of_le (Heap.lt_size (I.nw p hp).2) ha)⟩
  cases e : s₀.heap.get? a with
  | none => rfl
  | some o => exact absurd (Nat.lt_of_lt_of_le (Heap.lt_size (I.keep _ _ hL e)) ha) (Nat.lt_irrefl _)

section
variable {A : Around} {E : Value → Shared → Prop} {w : World} {s₀ s : Shared} {L : Addr} {l : List (Str × Value)} {m : Str → Option Value} {news : List (Addr × Obj)} {env : Env}

/-- a for over a list that is not changed -/
theorem for_list {X : Addr} {vals : List Value} {x : Str} {px : Pos} {body : List Stmt} {R : Result → Shared → Prop} (hh : A.handled = none) (I : In w s₀ L (loc l) news s) (hX : s.heap.IsList X vals.toArray) (F : Nat → List (Str × Value) → Prop) (hF : F 0 l)
    (turn : ∀ i v l₁ s₁, i < vals.length → F i l₁ → vals[i]? = some v → In w s₁ L (loc (put x v l₁)) news s₁ → wpAny (model pg w) A (execs body env) (fun f s₃ => f = .next ∧ ∃ l₃, In w s₁ L (loc l₃) news s₃ ∧ F (i + 1) l₃) (fun _ _ => False) s₁)
    (fin : ∀ l₁ s₁, F vals.length l₁ → In w s₀ L (loc l₁) news s₁ → R (.ok .next) s₁)
    (hL : env.locals = L := by rfl) (hx : env.kindOf x = some .local := by rfl) (hp : (env.scope.kind == .class || (env.scope.kind == .module && env.locals != env.globals)) = false := by rfl) :
    wpAny (model pg w) A (pyIter (.ref X)) (fun it s' => codeAny (model pg w) A (.forLoop (.Name x px) it body [] env) R s') E s := by
  refine wpAny_pyIter_list hX ?_
  have I₈ := I.on (h' := s.heap.push { cls := .type "list_iterator", data := .fields #[.ref X, .int 0 0] }) (k := s.toks) (Nat.le_refl _) fun b o e => Heap.get?_push_of_some _ e
  have hXlt : X < s.heap.objs.size := let ⟨o, e, _⟩ := hX; Heap.lt_size e
  have W := Walks.list (prog := pg) (w := w) (A := A) hh s.heap.objs.size X (Nat.ne_of_lt hXlt) vals.toArray
  have hXL := ns_not_list I.ns hX
  have fr := I.fresh (Nat.le_refl _)
  rw [List.size_toArray] at W
  refine for_in W (fun hm => ?_) (fun b hb => by obtain rfl := List.mem_singleton.mp hb; exact fr) F I₈ hF ⟨⟨_, Heap.get?_push_size _ rfl, rfl, rfl⟩, hX.push _⟩ (fun i v l₁ s₁ hi hf hv I₁ => turn i v l₁ s₁ hi hf (by simpa using hv) I₁) fin hL hx hp
  rcases List.mem_cons.mp hm with e | hm
  · exact fr.2.2.1 e.symm
  · exact hXL (List.mem_singleton.mp hm).symm

/-- xs[1:] -/
theorem tail_of {y : Str} {D : Addr} {o : Obj} {vals : List Value} {k : Nat} {p1 p2 p4 p5 : Pos} {Q : Value → Shared → Prop} (I : In w s₀ L (loc l) news s) (hv : l.lookup y = some (.ref D)) (hdn : (D, o) ∈ news) (hlo : LO o vals) (hlen : vals.length ≤ 100000)
    (h : ∀ X s', s'.heap.IsList X (vals.drop 1).toArray → In w s₀ L (loc l) news s' → Q (.ref X) s')
    (hL : env.locals = L := by rfl) (hk : env.scope.kind = .function := by rfl) (hl : env.kindOf y = some .local := by rfl) (hd : (y == ("__debug__" : Str)) = false := by decide) :
    wpAny (model pg w) A (eval (.Subscript (.Name y p1) (.Slice (some (.Constant (.int 1) k p2)) none none p4) p5) env) Q E s := by
  refine wpAny_Subscript_list_slice (ldl I hv ?_ hL hk hl hd)
  refine evalPart_some_step (wpAny_Constant_int (evalPart_none_step ?_))
  have hl' := hlo.isList (I.nw _ hdn).2
  refine ⟨D, vals.toArray, some 1, none, rfl, hl', by rw [List.size_toArray, sizeLine_eq]; omega, .int 1 _, .none, ?_⟩
  have e : slicePick vals.toArray (some 1) none none = (vals.drop 1).toArray := by
    have := slicePick_from' vals.toArray 1
    simpa using this
  rw [e]
  refine h _ _ ?_ (I.on (k := s.toks + 1) (Nat.le_succ _) fun b o e => Heap.get?_push_of_some _ (Heap.get?_push_of_some _ e))
  refine ⟨{ cls := .type "list", data := .seq (vals.drop 1).toArray }, ?_, rfl, 0, rfl⟩
  rw [← Heap.size_push s.heap { cls := .type "slice", data := .fields #[.int 1 s.toks, .none, .none] }]
  exact Heap.get?_push_size _ rfl

/-- xs[0] -/
theorem head_of {y : Str} {D : Addr} {o : Obj} {vals : List Value} {v : Value} {k : Nat} {p1 p2 p5 : Pos} {Q : Value → Shared → Prop} (I : In w s₀ L (loc l) news s) (hv : l.lookup y = some (.ref D)) (hdn : (D, o) ∈ news) (hlo : LO o vals) (h0 : vals[0]? = some v)
    (h : ∀ s', In w s₀ L (loc l) news s' → Q v s')
    (hL : env.locals = L := by rfl) (hk : env.scope.kind = .function := by rfl) (hl : env.kindOf y = some .local := by rfl) (hd : (y == ("__debug__" : Str)) = false := by decide) :
    wpAny (model pg w) A (eval (.Subscript (.Name y p1) (.Constant (.int 0) k p2) p5) env) Q E s := by
  refine Subscript_ (ldl I hv (wpAny_Constant_int ?_) hL hk hl hd)
  have I₂ := I.tok (Nat.le_succ _)
  have hl' := hlo.isList (I₂.nw _ hdn).2
  refine subscriptTail_builtin (T := "list") hl'.typeIs PySem.F.slot_list_getitem.lookup (wpAny_getItem_list (x := v) hl' (by decide) (by decide) (by simpa using h0) (h _ I₂))
end

/-- what is asked of a table -/
structure TC (T : List (Nat × List Nat)) : Prop where
  nd : (T.map fun p => cut p.2).Nodup
  le : ∀ p ∈ T, p.2.length ≤ 10
  few : T.length ≤ 15

theorem SV.get' {vals : List Value} {fs : List (List Nat)} (h : SV vals fs) (i : Nat) (hi : i < fs.length) {v : Value} (hv : vals[i]? = some v) : ∃ t, v = .str (S fs[i]) t := by
  obtain ⟨t, e⟩ := h.get i hi
  rw [e] at hv
  exact ⟨t, (Option.some.inj hv).symm⟩

set_option maxHeartbeats 400000 in
theorem law_read {w : World} {s : Shared} {name : List Nat} {t : Tok} {d : Addr} {o : Obj} {T : List (Nat × List Nat)} (G : Gnd w s.heap) (ht : 0 < s.toks) (hd : s.heap.get? d = some o) (hT : TabO w o T) (hC : TC T) (h9 : 92 < d) (hn : name.length ≤ 5000) :
    Fn w 87 [.str (S name) t, .ref d] (fun s v s' => ∃ D vals, v = .ref D ∧ s'.heap.IsList D vals.toArray ∧ SV vals (spl 45 (readT T name))) s := by
  intro A hh hdp hu
  refine enter (binds := [("name", .str (S name) t), ("table", .ref d)]) G ht (by omega) rfl rfl rfl fun s₁ L hL I => ?_
  have hdL : d ≠ L := fun z => by rw [z, hL] at hd; cases hd
  have I := I.more (I.keep d o hdL hd) hdL
  refine wpAny_execs_cons ?_
  refine signs_stmt I rfl (List.mem_singleton.mpr rfl) hT hC.nd hC.le hC.few h9 (fun D oD s₂ hD9 hSG I => ?_) hh
  refine wpAny_execs_cons (wpAny_Assign_Name ?_)
  refine Call_method1 rfl rfl rfl (ldl I rfl ?_)
  refine split_on (c := 38) I (by decide +kernel) (by omega) fun X oX cvals s₃ hcv hlo I => ?_
  refine st I fun s₄ I => ?_
  cases hsp : spl 38 name with
  | nil => exact absurd hsp (spl_ne 38 name)
  | cons a r =>
  have hsl := spl_len 38 name
  rw [hsp] at hcv hsl
  simp only [List.map_cons, List.sum_cons, List.length_cons] at hsl
  have hcl := hcv.length
  simp only [List.length_cons] at hcl
  refine wpAny_execs_cons (wpAny_Assign_Name ?_)
  obtain ⟨ta, hta⟩ := hcv.get 0 (by simp)
  refine head_of I rfl (.head _) hlo hta (fun s₅ I => ?_)
  refine st I fun s₆ I => ?_
  refine wpAny_execs_cons (wpAny_For ?_)
  refine tail_of I rfl (.head _) hlo (by omega) (fun X2 s₇ hX2 I => ?_)
  have I := I.forget (news' := [(D, oD)]) fun p hp => by rw [List.mem_singleton.mp hp]; exact .tail _ (.head _)
  have htl : (cvals.drop 1).length = r.length := by rw [List.length_drop]; omega
  have hrt : readT T name = r.foldl (readStep T) a := by unfold readT; rw [hsp]
  refine for_list hh I hX2 (fun i l' => l'.lookup ("signs" : Str) = some (.ref D) ∧ ∃ t', l'.lookup ("told" : Str) = some (.str (S ((r.take i).foldl (readStep T) a)) t')) ⟨rfl, ta, rfl⟩ ?_ ?_
  · rintro i v l₁ s₁ hi ⟨hl1, t', hl2⟩ hv I₁
    rw [htl] at hi
    have hv' : cvals[1 + i]? = some v := by rw [Nat.add_comm]; simpa [List.getElem?_drop] using hv
    obtain ⟨tv, rfl⟩ := hcv.get' (1 + i) (by simp only [List.length_cons]; omega) hv'
    have hri : (a :: r)[1 + i]'(by simp only [List.length_cons]; omega) = r[i] := by
      have : 1 + i = i + 1 := by omega
      simp [this]
    rw [hri] at I₁
    have hrl := read_len T (r.take i) a
    have hle1 : ((r.take i).map List.length).sum ≤ (r.map List.length).sum := by
      have e : (r.map List.length).sum = ((r.take i).map List.length).sum + ((r.drop i).map List.length).sum := by rw [← List.sum_append, ← List.map_append, List.take_append_drop]
      omega
    have hle2 : r[i].length ≤ (r.map List.length).sum := mem_le_sum (List.getElem_mem hi)
    have hle3 : (r.take i).length ≤ r.length := by rw [List.length_take]; omega
    refine read_turn hh I₁ (.head _) hD9 hSG (by rw [lookup_put_ne _ _ (by decide)]; exact hl1) (by rw [lookup_put_ne _ _ (by decide)]; exact hl2) (lookup_put ..) (by omega) (by decide +kernel) (by decide +kernel) (by decide +kernel) fun l' t'' s' h1 h2 I₂ => ?_
    refine ⟨rfl, l', I₂, h1, t'', ?_⟩
    rw [List.take_succ_eq_append_getElem hi, List.foldl_append]
    exact h2
  · rintro l₁ s₁ ⟨_, t', hl2⟩ I₁
    rw [htl, List.take_length, ← hrt] at hl2
    have hrl := read_len T r a
    rw [← hrt] at hrl
    refine wpAny_execs_cons (wpAny_Return_some ?_)
    refine Call_method1 rfl rfl rfl (ldl I₁ hl2 ?_)
    refine split_on (c := 45) I₁ (by decide +kernel) (by omega) fun X3 oX3 rvals s₈ hrv hlo3 I₂ => ?_
    exact ⟨I₂.out hL, X3, rvals, rfl, hlo3.isList (I₂.nw _ (.head _)).2, hrv⟩
end
end Mine

end PartM16

section PartM17
open PySem PySem.W PyProof.Rows PySem.Calls
set_option Elab.async false
set_option maxRecDepth 100000
namespace Mine
noncomputable section

/-- a def that has cells -/
theorem enterC {w : World} {A : Around} {s : Shared} {a : Addr} {vals : List Value} {binds : List (Str × Value)} {body : List Stmt} {Q : Value → Shared → Prop} {E : Value → Shared → Prop}
    (G : Gnd w s.heap) (ht : 0 < s.toks) (hroom : A.depth < recursionLimit)
    (hbody : (fdAt w a).body = .stmts body) (hbind : bindArgs (fdAt w a) ⟨vals, []⟩ = pure binds) (hclo : (fdAt w a).closure = [])
    (hkind : ∀ n : Nat, ∀ x ∈ binds, (fdAt w a).scope.names.lookup x.1 = some .local ∨ ((fdAt w a).scope.names.lookup x.1 = some .cell ∧ ((cellsFrom (n + 1) (fdAt w a).scope.names []).lookup x.1).isSome = true))
    (h : ∀ s₁ L, L = s.heap.objs.size → s.heap.get? L = none → In w s L (bindL (callEnvC (fdAt w a) L a).kindOf binds fun _ => none) [] s₁ →
      (∀ n c, (callEnvC (fdAt w a) L a).cells.lookup n = some c → s₁.heap.IsCell c ((bindC (callEnvC (fdAt w a) L a).kindOf binds fun _ => none) n)) →
      wpAny (model pg w) (A.deeper (callEnvC (fdAt w a) L a)) (execs body (callEnvC (fdAt w a) L a)) (fun f s' => Q (match f with | .ret v => v | _ => .none) s') (fun _ _ => False) s₁)
    (ho : ∃ c d sl, (KF w).lookup a = some ⟨c, d, .func (fdAt w a), sl⟩ := by exact ⟨_, _, _, rfl⟩)
    (hcd : codeIn (KF w) (fdAt w a).code (fdAt w a).qualname = true := by rfl)
    (hco : (fdAt w a).scope.isCoroutine = false := by rfl) (hgen : (fdAt w a).scope.isGenerator = false := by rfl) (hk : (fdAt w a).scope.kind = .function := by rfl) :
    wpAny (model pg w) A (call (.ref a) vals) Q E s := by
  obtain ⟨c, d, sl, ho⟩ := ho
  refine wpAny_call (codeAny_call_function hroom (G.k a _ ho) rfl hco hgen hbody (codeRec_of G.k hcd) ?_)
  rw [hbind, hclo]
  refine wpAny_pure ?_
  refine wpAny_with_toks (n := s.toks) (Nat.le_refl _) (wpAny_newFunctionEnv_cells hk (hkind _) fun env he s' x hts => ?_)
  subst he
  have hI : In w s s.heap.objs.size (bindL (callEnvC (fdAt w a) s.heap.objs.size a).kindOf binds fun _ => none) [] s' :=
    ⟨x.toInCall.same, fun b o _ e => x.toInCall.keep b o e, x.toInCall.ns, G.keeps x.toInCall.keep, G.size, hts, ht, fun p hp => nomatch hp⟩
  refine ⟨G.c.keeps x.toInCall.keep, codeAny_func (wpAny_mono (h s' _ rfl (fresh_at (Nat.le_refl _)) hI x.cell) (fun f s' h' => ?_) (fun _ _ x => x.elim))⟩
  cases f <;> exact h'

section
variable {M : Model} {A : Around} {E : Value → Shared → Prop} {w : World} {s₀ s : Shared} {L : Addr} {l : List (Str × Value)} {m : Str → Option Value} {news : List (Addr × Obj)} {env : Env}

theorem ldcell {x : Str} {c : Addr} {o : Obj} {v : Value} {pos : Pos} {Q : Value → Shared → Prop} (I : In w s₀ L m news s) (hm : (c, o) ∈ news) (ho : o.data = .cell (some v)) (h : Q v s)
    (hc : env.cells.lookup x = some c := by rfl) (hk : env.scope.kind = .function := by rfl) (hl : env.kindOf x = some .cell := by rfl) (hd : (x == ("__debug__" : Str)) = false := by decide) :
    wpAny M A (eval (.Name x pos) env) Q E s := wpAny_Name (wpAny_loadName_cell hk hl hc ⟨o, (I.nw _ hm).2, ho⟩ h) hd
theorem stcell {x : Str} {c : Addr} {o : Obj} {v₀ : Option Value} {v : Value} {Q : Unit → Shared → Prop} (I : In w s₀ L m ((c, o) :: news) s) (ho : o.data = .cell v₀) (h0 : s₀.heap.get? c = none) (h9 : 92 < c) (hne : ∀ p ∈ news, p.1 ≠ c)
    (h : ∀ o' s', o'.data = .cell (some v) → In w s₀ L m ((c, o') :: news) s' → Q () s')
    (hc : env.cells.lookup x = some c := by rfl) (hk : env.scope.kind = .function := by rfl) (hl : env.kindOf x = some .cell := by rfl) :
    wpAny M A (storeName env x v) Q E s := by
  have hn := I.nw _ (.head _)
  refine wpAny_storeName_cell hk hl hc ⟨o, hn.2, ho⟩ fun h' hc' hs' => ?_
  obtain ⟨o', ho', hd'⟩ := hc'
  have I₁ := (I.forget (news' := news) fun p hp => .tail _ hp).walk (wr := [c]) (h' := h') (k := s.toks) (fun b hb => by
    obtain rfl := List.mem_singleton.mp hb
    exact ⟨h0, h9, hn.1, hne⟩) (Nat.le_refl _) (fun b o hb e => hs'.extBut b o (fun z => hb (z ▸ .head _)) e)
  exact h o' _ hd' (I₁.more ho' hn.1)
end

theorem In.on0 {w : World} {s₀ s : Shared} {L : Addr} {m : Str → Option Value} {news : List (Addr × Obj)} (I : In w s₀ L m news s) {h' : Heap} {k : Nat} (ht : s₀.toks ≤ k) (hk : ∀ b o, s.heap.get? b = some o → h'.get? b = some o) : In w s₀ L m news { s with heap := h', toks := k } :=
  ⟨let ⟨_, _, e⟩ := I.same; ⟨h', k, by rw [e]⟩, fun b o hb e => hk _ _ (I.keep b o hb e), I.ns.keeps hk, I.gnd.keeps hk, I.lo, ht, I.t0, fun p hp => ⟨(I.nw p hp).1, hk _ _ (I.nw p hp).2⟩⟩

/-- tests and elements upon texts -/
def tst (q : List Nat → Bool) (v : Value) : Bool := match v with
  | .str z _ => q z.cps.toList
  | _ => false
def elm (g : List Nat → List Nat) (v y : Value) : Prop := ∃ f t u, v = .str (S f) t ∧ y = .str (S (g f)) u
theorem tst_S (q : List Nat → Bool) (f : List Nat) (t : Tok) : tst q (.str (S f) t) = q f := by simp [tst, S]
theorem SV.paired (q : List Nat → Bool) (g : List Nat → List Nat) : ∀ {vs : List Value} {fs : List (List Nat)} {ys : List Value}, SV vs fs → Paired (elm g) (vs.filter (tst q)) ys → SV ys ((fs.filter q).map g)
  | [], [], ys, _, hp => by
    cases hp; exact trivial
  | v :: vs, f :: fs, ys, ⟨⟨t, e⟩, h⟩, hp => by
    subst e
    rw [List.filter_cons, tst_S] at hp
    rw [List.filter_cons]
    cases hq : q f with
    | false =>
      rw [hq] at hp
      exact SV.paired q g h (by simpa using hp)
    | true =>
      rw [hq] at hp
      simp only [if_true] at hp ⊢
      cases hp with
      | cons h1 h2 =>
        obtain ⟨f', t', u, e1, e2⟩ := h1
        cases (Value.str.inj e1).1 |> S_inj
        subst e2
        exact ⟨⟨u, rfl⟩, SV.paired q g h h2⟩
  | [], _ :: _, _, h, _ => h.elim
  | _ :: _, [], _, h, _ => h.elim
theorem SV.ofPlaces : ∀ {vs : List Value} {fs : List (List Nat)}, vs.length = fs.length → (∀ j v (h : j < fs.length), vs[j]? = some v → ∃ t, v = .str (S fs[j]) t) → SV vs fs
  | [], [], _, _ => trivial
  | v :: vs, f :: fs, hl, h => by
    obtain ⟨t, e⟩ := h 0 v (by simp) rfl
    refine ⟨⟨t, e⟩, SV.ofPlaces (by simpa using hl) fun j v hj hv => ?_⟩
    have := h (j + 1) v (by simpa using hj) (by simpa using hv)
    simpa using this
  | [], _ :: _, hl, _ => by simp at hl
  | _ :: _, [], hl, _ => by simp at hl

section
variable {A : Around} {E : Value → Shared → Prop} {w : World} {s₀ s : Shared} {L : Addr} {m : Str → Option Value} {news : List (Addr × Obj)} {env : Env}

/-- what a turn of a comprehension is asked -/
def LQ (w : World) (A : Around) (env : Env) (scope : Scope) (cl : List (Str × Addr)) (x : Str) (ifs : List Expr) (elt : Expr) (fs : List (List Nat)) (q : List Nat → Bool) (g : List Nat → List Nat) (s : Shared) : Prop :=
  ∀ C f t s₃ m₃ E', f ∈ fs → s.heap.objs.size ≤ C → s₃.heap.Ns C m₃ → m₃ x = some (.str (S f) t) → (∀ b o, s.heap.get? b = some o → s₃.heap.get? b = some o) → s.toks ≤ s₃.toks →
    wpAny (model pg w) A (forIn ifs true fun c r => if r = true then do let ok ← isTrue c (compEnvC scope cl C env) (eval c (compEnvC scope cl C env)); pure (ForInStep.yield ok) else pure (ForInStep.yield r))
      (fun ok s₄ => ok = q f ∧ Keeps s₃ s₄) E' s₃ ∧
    (q f = true → wpAny (model pg w) A (eval elt (compEnvC scope cl C env)) (fun y s₄ => (∃ u, y = .str (S (g f)) u) ∧ Keeps s₃ s₄) E' s₃)

theorem lc_core {elt : Expr} {x : Str} {ifs : List Expr} {scope : Scope} {cl : List (Str × Addr)} {Q : Value → Shared → Prop} {J : Addr} {ob : Obj} {fp : List Addr} {P : Nat → Value → Prop} {St : Nat → Heap → Prop} {fs : List (List Nat)} (q : List Nat → Bool) (g : List Nat → List Nat)
    (I : In w s₀ L m news s) (hJ : J = s.heap.objs.size) (W : Walks pg w A J fp [J] fs.length P St) (hSt : St 0 (s.heap.push ob)) (hfp : ∀ b ∈ fp, b ≤ s.heap.objs.size) (hP : ∀ i v (h : i < fs.length), P i v → ∃ t, v = .str (S fs[i]) t) (hlen : fs.length ≤ 100000)
    (hPl : ∀ i v, P i v → i < fs.length)
    (hq : LQ w A env scope cl x ifs elt fs q g s)
    (h : ∀ D ys ne s', s.heap.get? D = none → SV ys ((fs.filter q).map g) → In w s₀ L m ((D, { cls := .type "list", data := .seq ys.toArray ne }) :: news) s' → Q (.ref D) s') :
    ∃ I fp wr n P St, Value.ref J = .ref I ∧ Walks pg w A I fp wr n P St ∧ n ≤ sizeLine ∧ St 0 (s.heap.push ob) ∧ (∀ b ∈ fp, b < (s.heap.push ob).objs.size) ∧
      QuietOnC pg w A env scope cl x ifs elt wr P (tst q) (elm g) { s with heap := s.heap.push ob } ∧
      (∀ D h' tk ys (vs : List Value), (s.heap.push ob).get? D = none → h'.IsList D ys → h'.PlainList D ys → vs.length = n → (∀ j v, vs[j]? = some v → P j v) → Paired (elm g) (vs.filter (tst q)) ys.toList →
        (∀ b o, b ∉ wr → (s.heap.push ob).get? b = some o → h'.get? b = some o) → s₀.toks ≤ tk → Q (.ref D) { s with heap := h', toks := tk }) := by
  subst hJ
  have up : ∀ (h' : Heap), (∀ b o, b ∉ [s.heap.objs.size] → (s.heap.push ob).get? b = some o → h'.get? b = some o) → ∀ b o, s.heap.get? b = some o → h'.get? b = some o := fun h' hk b o e =>
    hk b o (fun hm => Nat.lt_irrefl _ ((List.mem_singleton.mp hm) ▸ Heap.lt_size e)) (Heap.get?_push_of_some _ e)
  refine ⟨_, fp, _, _, P, St, rfl, W, by rw [sizeLine_eq]; omega, hSt, fun b hb => by rw [Heap.size_push]; exact Nat.lt_succ_of_le (hfp b hb), ⟨?_, ?_⟩, ?_⟩
  · intro C i v s₃ m₃ E' hC hPv hn hx hk ht
    have hi := hPl i v hPv
    obtain ⟨t, rfl⟩ := hP i v hi hPv
    rw [tst_S]
    refine (hq C _ t s₃ m₃ E' (List.getElem_mem _) (Nat.le_trans ?_ hC) hn hx (up _ hk) ht).1
    show s.heap.objs.size ≤ (s.heap.push ob).objs.size
    rw [Heap.size_push]; exact Nat.le_succ _
  · intro C i v s₃ m₃ E' hC hPv hpv hn hx hk ht
    have hi := hPl i v hPv
    obtain ⟨t, rfl⟩ := hP i v hi hPv
    rw [tst_S] at hpv
    refine wpAny_mono ((hq C _ t s₃ m₃ E' (List.getElem_mem _) (Nat.le_trans ?_ hC) hn hx (up _ hk) ht).2 hpv) (fun y s₄ ⟨⟨u, e⟩, hk'⟩ => ⟨⟨_, t, u, rfl, e⟩, hk'⟩) fun _ _ e => e
    show s.heap.objs.size ≤ (s.heap.push ob).objs.size
    rw [Heap.size_push]; exact Nat.le_succ _
  · intro D h' tk ys vs hD hl hpl hvl hvP hpair hk ht
    have hSV : SV vs fs := SV.ofPlaces hvl fun j v hj hv => hP j v hj (hvP j v hv)
    have hys := hSV.paired q g hpair
    obtain ⟨ne, hne⟩ := hpl
    have I₁ := I.on0 ht (up h' hk)
    have hDs : s.heap.get? D = none := by
      cases e : s.heap.get? D with
      | none => rfl
      | some o => rw [Heap.get?_push_of_some _ e] at hD; cases hD
    refine h D ys.toList ne _ hDs hys (I₁.more ?_ (ns_not_list I₁.ns hl))
    simpa using hne
end
end
end Mine

end PartM17

section PartM18
open PySem PySem.W PyProof.Rows PySem.Calls
set_option Elab.async false
set_option maxRecDepth 100000
namespace Mine
noncomputable section
section
variable {A : Around} {E : Value → Shared → Prop} {w : World} {s₀ s : Shared} {L : Addr} {m : Str → Option Value} {news : List (Addr × Obj)} {env : Env}

/-- a comprehension over a list of texts -/
theorem lc_list {elt iter : Expr} {x : Str} {px pos : Pos} {ifs : List Expr} {scope : Scope} {cl : List (Str × Addr)} {X : Addr} {vals : List Value} {Q : Value → Shared → Prop} {fs : List (List Nat)} (q : List Nat → Bool) (g : List Nat → List Nat)
    (hh : A.handled = none) (I : In w s₀ L m news s) (hiter : ∀ Q' : Value → Shared → Prop, Q' (.ref X) s → wpAny (model pg w) A (eval iter env) Q' E s) (hX : s.heap.IsList X vals.toArray) (hV : SV vals fs) (hlen : fs.length ≤ 100000)
    (hq : LQ w A env scope cl x ifs elt fs q g s)
    (h : ∀ D ys ne s', s.heap.get? D = none → SV ys ((fs.filter q).map g) → In w s₀ L m ((D, { cls := .type "list", data := .seq ys.toArray ne }) :: news) s' → Q (.ref D) s')
    (hclos : closureFor scope env = pure cl) (hcell : ∀ y ∈ scope.names, y.2 ≠ .cell := by decide +kernel) (hkind : scope.kind = .function := by rfl)
    (hnames : ∀ y ∈ scope.names, y.2 = .local → scope.names.lookup y.1 = some .local := by decide +kernel) (hx : scope.names.lookup x = some .local := by rfl) (hs : ∀ x, foldedSetIterable iter env x = pure x := by intro _; rfl) :
    wpAny (model pg w) A (eval (.ListComp elt [⟨.Name x px, iter, ifs, 0⟩] scope pos) env) Q E s := by
  refine wpAny_with_toks I.tk (wpAny_mono (wpAny_ListComp_free (Q := fun v s' => s₀.toks ≤ s'.toks → Q v s') (tst q) (elm g) hclos hcell hkind hnames hx (hiter _ ?_) hs) (fun _ _ h' => h') fun _ _ h' _ => h')
  refine wpAny_pyIter_list hX ?_
  have hXlt : X < s.heap.objs.size := let ⟨o, e, _⟩ := hX; Heap.lt_size e
  have hvl := hV.length
  have W := Walks.list (prog := pg) (w := w) (A := A) hh s.heap.objs.size X (Nat.ne_of_lt hXlt) vals.toArray
  have hsz : vals.toArray.size = fs.length := by rw [List.size_toArray, hvl]
  rw [hsz] at W
  refine lc_core q g I rfl W ⟨⟨_, Heap.get?_push_size _ rfl, rfl, rfl⟩, hX.push _⟩ (fun b hb => ?_) (fun i v hi hv => hV.get' i hi (by simpa using hv)) hlen (fun i v hv => ?_) hq h
  · rcases List.mem_cons.mp hb with rfl | hb
    · exact Nat.le_refl _
    · rw [List.mem_singleton.mp hb]; exact Nat.le_of_lt hXlt
  · have : vals[i]? = some v := by simpa using hv
    rw [← hvl]
    exact (List.getElem?_eq_some_iff.mp this).1

/-- a comprehension over the signs of a text -/
theorem lc_str {elt iter : Expr} {x : Str} {px pos : Pos} {ifs : List Expr} {scope : Scope} {cl : List (Str × Addr)} {cs : List Nat} {Q : Value → Shared → Prop} (q : List Nat → Bool) (g : List Nat → List Nat)
    (hh : A.handled = none) (I : In w s₀ L m news s) (hiter : ∀ Q' : Value → Shared → Prop, (∀ t s₁, In w s₀ L m news s₁ → Q' (.str (S cs) t) s₁) → wpAny (model pg w) A (eval iter env) Q' E s) (hlen : cs.length ≤ 100000)
    (hq : ∀ s₁, In w s₀ L m news s₁ → LQ w A env scope cl x ifs elt (cs.map fun c => [c]) q g s₁)
    (h : ∀ D ys ne s', SV ys (((cs.map fun c => [c]).filter q).map g) → In w s₀ L m ((D, { cls := .type "list", data := .seq ys.toArray ne }) :: news) s' → Q (.ref D) s')
    (hclos : closureFor scope env = pure cl) (hcell : ∀ y ∈ scope.names, y.2 ≠ .cell := by decide +kernel) (hkind : scope.kind = .function := by rfl)
    (hnames : ∀ y ∈ scope.names, y.2 = .local → scope.names.lookup y.1 = some .local := by decide +kernel) (hx : scope.names.lookup x = some .local := by rfl) (hs : ∀ x, foldedSetIterable iter env x = pure x := by intro _; rfl) :
    wpAny (model pg w) A (eval (.ListComp elt [⟨.Name x px, iter, ifs, 0⟩] scope pos) env) Q E s := by
  refine wpAny_with_toks I.tk (wpAny_mono (wpAny_ListComp_free (Q := fun v s' => s₀.toks ≤ s'.toks → Q v s') (tst q) (elm g) hclos hcell hkind hnames hx (hiter _ fun t s₁ I₁ => ?_) hs) (fun _ _ h' => h') fun _ _ h' _ => h')
  refine wpAny_pyIter_str fun ob St W hSt => ?_
  have W := W A hh
  have hsz : (S cs).cps.size = (cs.map fun c => [c]).length := by simp [S]
  rw [hsz] at W
  have sg : ∀ i v, SignAt (S cs) i v → ∃ c u, cs[i]? = some c ∧ v = .str (S [c]) u := by
    rintro i v ⟨c, u, e, rfl⟩
    exact ⟨c, u, by simpa [S] using e, rfl⟩
  refine lc_core q g I₁ rfl W hSt (fun b hb => by rw [List.mem_singleton.mp hb]; exact Nat.le_refl _) (fun i v hi hv => ?_) (by rw [List.length_map]; exact hlen) (fun i v hv => ?_) (hq s₁ I₁) (fun D ys ne s' _ => h D ys ne s')

  · obtain ⟨c, u, e, rfl⟩ := sg i v hv
    obtain ⟨hi', e'⟩ := List.getElem?_eq_some_iff.mp e
    exact ⟨u, by simp [e']⟩
  · obtain ⟨c, u, e, rfl⟩ := sg i v hv
    rw [List.length_map]
    exact (List.getElem?_eq_some_iff.mp e).1
end
end
end Mine

end PartM18

section PartM19
open PySem PySem.W PyProof.Rows PySem.Calls
set_option Elab.async false
set_option maxRecDepth 100000
namespace Mine
noncomputable section

/-- stands this text as a key in the table? -/
def inT (T : List (Nat × List Nat)) (f : List Nat) : Bool := match f with
  | [c] => (T.lookup c).isSome
  | _ => false
theorem KV.inT {kvs : List (Str × Value)} {T : List (Nat × List Nat)} (h : KV kvs T) (f : List Nat) : (valueAt kvs (S f)).isSome = Mine.inT T f := by
  unfold Mine.inT
  split
  · exact h.value _
  · rename_i hn
    rw [h.value_long f (fun e => by
      obtain ⟨c, rfl⟩ := List.length_eq_one_iff.mp e
      exact hn c rfl)]
    rfl
def bareL (T : List (Nat × List Nat)) : List Nat := jn [] (([32, 9, 10, 13].map fun c => [c]).filter fun f => !inT T f)
def rowD (T : List (Nat × List Nat)) (fs : List (List Nat)) : List Nat := jn [45] ((fs.filter fun f => f != []).map (strp fun c => (bareL T).contains c))
def lastOf (x : List Nat) : List Nat := x.drop (x.length - 1)
def dueStep (T : List (Nat × List Nat)) (told : List Nat) (c : Nat) : List Nat :=
  if c ∉ [45, 47, 92, 58, 59, 40, 41] ∧ (c ≠ 34 ∨ inT T [c] = true) then told ++ (if c = 32 then [95] else [c])
  else if lastOf told ≠ [45] ∧ inT T (lastOf told) = false then told ++ [45] else told
def dueT (T : List (Nat × List Nat)) (fs : List (List Nat)) : List Nat := (rpl uk [] (rowD T fs)).foldl (dueStep T) []
def dueL (T : List (Nat × List Nat)) (fs : List (List Nat)) : List (List Nat) := spl 45 (if lastOf (dueT T fs) = [45] then cut (dueT T fs) else dueT T fs)

theorem SV.strsAre : ∀ {vs : List Value} {fs : List (List Nat)}, SV vs fs → StrsAre vs (fs.map S)
  | [], [], _ => .nil
  | _ :: _, _ :: _, ⟨⟨t, e⟩, h⟩ => by subst e; exact .cons _ t (SV.strsAre h)
  | [], _ :: _, h => h.elim
  | _ :: _, [], h => h.elim

section
variable {A : Around} {E : Value → Shared → Prop} {w : World} {s₀ s : Shared} {L : Addr} {l : List (Str × Value)} {m : Str → Option Value} {news : List (Addr × Obj)} {env : Env}

theorem not_sys {d : Addr} (h9 : 92 < d) : (d == sysModules) = false := by
  have : d ≠ sysModules := fun z => by rw [z] at h9; exact absurd h9 (by decide)
  simpa using this
theorem in_tab {d : Addr} {o : Obj} {T : List (Nat × List Nat)} {f : List Nat} {t : Tok} {Q : Value → Shared → Prop} (hd : s.heap.get? d = some o) (hT : TabO w o T) (h9 : 92 < d) (h : Q (.bool (inT T f)) { s with toks := s.toks + 1 }) :
    wpAny (model pg w) A (compareOp .In (.str (S f) t) (.ref d)) Q E s := by
  obtain ⟨kvs, hdo, hkv⟩ := hT.dictOf hd
  refine wpAny_in_of (knd := PySem.strKind pg w) (k := S f) (by simp [PySem.strKind, Value.isStrOf]) (not_sys h9) hdo.mapOf ?_
  rw [hkv.inT]; exact h
theorem notin_tab {d : Addr} {o : Obj} {T : List (Nat × List Nat)} {f : List Nat} {t : Tok} {Q : Value → Shared → Prop} (hd : s.heap.get? d = some o) (hT : TabO w o T) (h9 : 92 < d) (h : Q (.bool (!inT T f)) { s with toks := s.toks + 1 }) :
    wpAny (model pg w) A (compareOp .NotIn (.str (S f) t) (.ref d)) Q E s := by
  obtain ⟨kvs, hdo, hkv⟩ := hT.dictOf hd
  refine wpAny_notIn_of (knd := PySem.strKind pg w) (k := S f) (by simp [PySem.strKind, Value.isStrOf]) (not_sys h9) hdo.mapOf ?_
  rw [hkv.inT]; exact h

/-- sep.join(list), the list already made -/
theorem join_on {D : Addr} {sep : List Nat} {fs : List (List Nat)} {ys : List Value} {t : Tok} {Q : Value → Shared → Prop} (I : In w s₀ L m news s) (hl : s.heap.IsList D ys.toArray) (hV : SV ys fs) (hok : (fs.map List.length).sum + fs.length * sep.length ≤ 100000)
    (h : ∀ t' s', In w s₀ L m news s' → Q (.str (S (jn sep fs)) t') s') : wpAny (model pg w) A (call (.builtin "str.join") [.str (S sep) t, .ref D]) Q E s := by
  refine wpAny_with_toks (n := s.toks) (Nat.le_refl _) (PyProof.Rows.join_list hl (by simpa using hV.strsAre) ?_ fun t' k hk => ?_)
  · rw [S_length, List.map_map, List.length_map]
    have : (fs.map ((·.length) ∘ S)) = fs.map List.length := by
      apply List.map_congr_left; intro f _; exact S_length f
    rw [this]; omega
  · rw [join_S]; exact h t' _ (I.tok hk)
end
end
end Mine

end PartM19

section PartM20
open PySem PySem.W PyProof.Rows PySem.Calls
set_option Elab.async false
set_option maxRecDepth 100000
namespace Mine
noncomputable section
section
variable {A : Around} {E : Value → Shared → Prop} {w : World} {s₀ s : Shared} {L : Addr} {l : List (Str × Value)} {m : Str → Option Value} {news : List (Addr × Obj)} {env : Env}

theorem due_turn {ct d : Addr} {oc o : Obj} {T : List (Nat × List Nat)} {told : List Nat} {c : Nat} {t u : Tok} {Q : Flow → Shared → Prop} {z1 z2 z3 z4 z5 z6 : Str} {k1 k2 k3 k4 k5 k6 k7 k8 : Nat}
    {p1 p2 p3 p4 p5 p6 p7 p8 p9 p10 p11 p12 p13 p14 p15 p16 p17 p18 p19 p20 p21 p22 p23 p24 p25 p26 p27 p28 p29 p30 p31 p32 p33 p34 p35 p36 p37 p38 p39 p40 p41 p42 p43 : Pos}
    (I : In w s₀ L (loc l) news s) (hcn : (ct, oc) ∈ news) (hoc : oc.data = .cell (some (.ref d))) (hdn : (d, o) ∈ news) (hd9 : 92 < d) (hT : TabO w o T)
    (ht : l.lookup ("told" : Str) = some (.str (S told) t)) (hs : l.lookup ("sign" : Str) = some (.str (S [c]) u)) (hlen : told.length ≤ 90000)
    (e1 : z1 = S [45, 47, 92, 58, 59, 40, 41]) (e2 : z2 = S [34]) (e3 : z3 = S [32]) (e4 : z4 = S [95]) (e5 : z5 = S [45]) (e6 : z6 = S [45])
    (h : ∀ l' t' s', l'.lookup ("told" : Str) = some (.str (S (dueStep T told c)) t') → In w s₀ L (loc l') news s' → Q .next s')
    (hL : env.locals = L := by rfl) (hk : env.scope.kind = .function := by rfl) (h1 : env.kindOf "sign" = some .local := by rfl) (h2 : env.kindOf "told" = some .local := by rfl) (h3 : env.kindOf "table" = some .cell := by rfl) (hct : env.cells.lookup ("table" : Str) = some ct := by rfl) :
    wpAny (model pg w) A (execs [.If (.BoolOp .And [.Compare (.Name "sign" p1) [.NotIn] [.Constant (.str z1) k1 p2] p3, .BoolOp .Or [.Compare (.Name "sign" p4) [.NotEq] [.Constant (.str z2) k2 p5] p6, .Compare (.Name "sign" p7) [.In] [.Name "table" p8] p9] p10] p11)
      [.Assign [.Name "told" p12] (.BinOp (.Name "told" p13) .Add (.IfExp (.Compare (.Name "sign" p14) [.Eq] [.Constant (.str z3) k3 p15] p16) (.Constant (.str z4) k4 p17) (.Name "sign" p18) p19) p20) p21]
      [.If (.BoolOp .And [.Compare (.Subscript (.Name "told" p22) (.Slice (some (.UnaryOp .USub (.Constant (.int 1) k5 p23) p24)) none none p25) p26) [.NotEq] [.Constant (.str z5) k6 p27] p28,
          .Compare (.Subscript (.Name "told" p29) (.Slice (some (.UnaryOp .USub (.Constant (.int 1) k7 p30) p31)) none none p32) p33) [.NotIn] [.Name "table" p34] p35] p36)
        [.Assign [.Name "told" p37] (.BinOp (.Name "told" p38) .Add (.Constant (.str z6) k8 p39) p40) p41] [] p42] p43] env) Q E s := by
  have hp : (env.scope.kind == .class || (env.scope.kind == .module && env.locals != env.globals)) = false := by rw [hk]; rfl
  subst e1 e2 e3 e4 e5 e6
  -- the other arm
  have other : ∀ s₁, In w s₀ L (loc l) news s₁ → ¬ (c ∉ [45, 47, 92, 58, 59, 40, 41] ∧ (c ≠ 34 ∨ inT T [c] = true)) →
      wpAny (model pg w) A (execs [.If (.BoolOp .And [.Compare (.Subscript (.Name "told" p22) (.Slice (some (.UnaryOp .USub (.Constant (.int 1) k5 p23) p24)) none none p25) p26) [.NotEq] [.Constant (.str (S [45])) k6 p27] p28,
          .Compare (.Subscript (.Name "told" p29) (.Slice (some (.UnaryOp .USub (.Constant (.int 1) k7 p30) p31)) none none p32) p33) [.NotIn] [.Name "table" p34] p35] p36)
        [.Assign [.Name "told" p37] (.BinOp (.Name "told" p38) .Add (.Constant (.str (S [45])) k8 p39) p40) p41] [] p42] env) (fun f s' => match f with | .next => wpAny (model pg w) A (execs [] env) Q E s' | f => Q f s') E s₁ := by
    intro s₁ I₁ hno
    have fin : ∀ l' t' s', l'.lookup ("told" : Str) = some (.str (S (dueStep T told c)) t') → In w s₀ L (loc l') news s' → wpAny (model pg w) A (execs [] env) Q E s' := fun l' t' s' a b => wpAny_execs_nil (h l' t' s' a b)
    have hst : dueStep T told c = if lastOf told ≠ [45] ∧ inT T (lastOf told) = false then told ++ [45] else told := by unfold dueStep; rw [if_neg hno]
    refine wpAny_execs_cons (wpAny_If ?_)
    refine wpAny_isTrue_BoolOp (wpAny_allTrue_And_cons (wpAny_isTrue_Compare1 ?_))
    refine ev_last I₁ ht (by omega) (fun t₂ s₂ I₂ => ?_) hL hk h2
    refine ldc I₂ fun t₃ s₃ _ _ I₃ => ?_
    refine P.ne_str (wpAny_truthy_bool ?_)
    rw [S_list, S_list]
    by_cases hl : lastOf told = [45]
    · rw [show (told.drop (told.length - 1) != [45]) = false by simpa [lastOf] using hl]
      simp only [Bool.false_eq_true, if_false]
      refine wpAny_execs_nil (wpAny_execs_nil (fin l t s₃ ?_ I₃))
      rw [hst, if_neg (by simp [hl])]; exact ht
    · rw [show (told.drop (told.length - 1) != [45]) = true by simpa [lastOf] using hl]
      simp only [if_true]
      refine wpAny_allTrue_And_cons (wpAny_isTrue_Compare1 ?_)
      refine ev_last I₃ ht (by omega) (fun t₄ s₄ I₄ => ?_) hL hk h2
      refine ldcell I₄ hcn hoc ?_ hct hk h3
      refine notin_tab (I₄.nw _ hdn).2 hT hd9 (wpAny_truthy_bool ?_)
      have I₅ := I₄.tok (Nat.le_succ _)
      cases hi : inT T (lastOf told) with
      | true =>
        rw [show (!inT T (told.drop (told.length - 1))) = false by rw [show told.drop (told.length - 1) = lastOf told from rfl, hi]; rfl]
        simp only [Bool.false_eq_true, if_false]
        refine wpAny_execs_nil (wpAny_execs_nil (fin l t _ ?_ I₅))
        rw [hst, if_neg (by simp [hi])]; exact ht
      | false =>
        rw [show (!inT T (told.drop (told.length - 1))) = true by rw [show told.drop (told.length - 1) = lastOf told from rfl, hi]; rfl]
        simp only [if_true]
        refine wpAny_allTrue_And_nil ?_
        simp only [if_true]
        refine wpAny_execs_cons (wpAny_Assign_Name (wpAny_BinOp ?_))
        refine ldl I₅ ht ?_ hL hk h2
        refine ldc I₅ fun t₆ s₆ _ _ I₆ => ?_
        refine add_on I₆ (by simp only [List.length_cons, List.length_nil]; omega) fun t₇ s₇ I₇ => ?_
        refine st I₇ (fun s₈ I₈ => ?_) hL h2 hp
        refine wpAny_execs_nil (wpAny_execs_nil (fin _ t₇ s₈ ?_ I₈))
        rw [hst, if_pos ⟨hl, hi⟩]; exact lookup_put ..
  have this_ : ∀ s₁, In w s₀ L (loc l) news s₁ → (c ∉ [45, 47, 92, 58, 59, 40, 41] ∧ (c ≠ 34 ∨ inT T [c] = true)) →
      wpAny (model pg w) A (execs [.Assign [.Name "told" p12] (.BinOp (.Name "told" p13) .Add (.IfExp (.Compare (.Name "sign" p14) [.Eq] [.Constant (.str (S [32])) k3 p15] p16) (.Constant (.str (S [95])) k4 p17) (.Name "sign" p18) p19) p20) p21] env)
        (fun f s' => match f with | .next => wpAny (model pg w) A (execs [] env) Q E s' | f => Q f s') E s₁ := by
    intro s₁ I₁ hyes
    have hst : dueStep T told c = told ++ (if c = 32 then [95] else [c]) := by unfold dueStep; rw [if_pos hyes]
    refine wpAny_execs_cons (wpAny_Assign_Name (wpAny_BinOp ?_))
    refine ldl I₁ ht ?_ hL hk h2
    refine wpAny_IfExp (wpAny_isTrue_Compare1 ?_)
    refine ldl I₁ hs ?_ hL hk h1
    refine ldc I₁ fun t₂ s₂ _ _ I₂ => ?_
    refine P.eq_str (wpAny_truthy_bool ?_)
    rw [S_list, S_list]
    by_cases hc : c = 32
    · rw [show ([c] == [32]) = true by simpa using hc]
      simp only [if_true]
      refine ldc I₂ fun t₃ s₃ _ _ I₃ => ?_
      refine add_on I₃ (by simp only [List.length_cons, List.length_nil]; omega) fun t₇ s₇ I₇ => ?_
      refine st I₇ (fun s₈ I₈ => ?_) hL h2 hp
      refine wpAny_execs_nil (wpAny_execs_nil (h _ t₇ s₈ ?_ I₈))
      rw [hst, if_pos hc]; exact lookup_put ..
    · rw [show ([c] == [32]) = false by simpa using hc]
      simp only [Bool.false_eq_true, if_false]
      refine ldl I₂ hs ?_ hL hk h1
      refine add_on I₂ (by simp only [List.length_cons, List.length_nil]; omega) fun t₇ s₇ I₇ => ?_
      refine st I₇ (fun s₈ I₈ => ?_) hL h2 hp
      refine wpAny_execs_nil (wpAny_execs_nil (h _ t₇ s₈ ?_ I₈))
      rw [hst, if_neg hc]; exact lookup_put ..
  refine wpAny_execs_cons (wpAny_If ?_)
  refine wpAny_isTrue_BoolOp (wpAny_allTrue_And_cons (wpAny_isTrue_Compare1 ?_))
  refine ldl I hs ?_ hL hk h1
  refine ldc I fun t₁ s₁ _ _ I₁ => ?_
  refine SB.notContains (wpAny_truthy_bool ?_)
  rw [contains_S]
  by_cases hm : c ∈ [45, 47, 92, 58, 59, 40, 41]
  · rw [decide_eq_true hm]
    simp only [Bool.not_true, Bool.false_eq_true, if_false]
    exact other s₁ I₁ (fun z => z.1 hm)
  · rw [decide_eq_false hm]
    simp only [Bool.not_false, if_true]
    refine wpAny_allTrue_And_cons (wpAny_isTrue_BoolOp (wpAny_allTrue_Or_cons (wpAny_isTrue_Compare1 ?_)))
    refine ldl I₁ hs ?_ hL hk h1
    refine ldc I₁ fun t₂ s₂ _ _ I₂ => ?_
    refine P.ne_str (wpAny_truthy_bool ?_)
    rw [S_list, S_list]
    by_cases hc : c = 34
    · rw [show ([c] != [34]) = false by simp [hc]]
      simp only [Bool.false_eq_true, if_false]
      refine wpAny_allTrue_Or_cons (wpAny_isTrue_Compare1 ?_)
      refine ldl I₂ hs ?_ hL hk h1
      refine ldcell I₂ hcn hoc ?_ hct hk h3
      refine in_tab (I₂.nw _ hdn).2 hT hd9 (wpAny_truthy_bool ?_)
      have I₃ := I₂.tok (Nat.le_succ _)
      cases hi : inT T [c] with
      | true =>
        simp only [if_true]
        refine wpAny_allTrue_And_nil ?_
        simp only [if_true]
        exact this_ _ I₃ ⟨hm, .inr hi⟩
      | false =>
        simp only [Bool.false_eq_true, if_false]
        refine wpAny_allTrue_Or_nil ?_
        simp only [Bool.false_eq_true, if_false]
        exact other _ I₃ (fun z => by rcases z.2 with h | h; exact h hc; rw [hi] at h; cases h)
    · rw [show ([c] != [34]) = true by simpa using hc]
      simp only [if_true]
      refine wpAny_allTrue_And_nil ?_
      simp only [if_true]
      exact this_ _ I₂ ⟨hm, .inl hc⟩
end
end
end Mine

end PartM20

section PartM21
open PySem PySem.W PyProof.Rows PySem.Calls
set_option Elab.async false
set_option maxRecDepth 100000
namespace Mine
noncomputable section

theorem keeps_toks {s : Shared} {k : Nat} : Keeps s { s with toks := k } := ⟨s.heap, k, rfl, fun _ _ e => e⟩
section
variable {A : Around} {E : Value → Shared → Prop} {w : World} {s₀ s : Shared} {L : Addr} {l : List (Str × Value)} {m : Str → Option Value} {news : List (Addr × Obj)} {env : Env}

/-- a name of a frame, the frame given by its namespace -/
theorem ldn {M : Model} {x : Str} {v : Value} {pos : Pos} {C : Addr} {m : Str → Option Value} {Q : Value → Shared → Prop} (hn : s.heap.Ns C m) (hv : m x = some v) (h : Q v s)
    (hL : env.locals = C := by rfl) (hk : env.scope.kind = .function := by rfl) (hl : env.kindOf x = some .local := by rfl) (hd : (x == ("__debug__" : Str)) = false := by decide) :
    wpAny M A (eval (.Name x pos) env) Q E s := by
  subst hL
  exact wpAny_Name (wpAny_loadName_local hk hl hn hv h) hd
/-- a cell's name, the cell given by the heap -/
theorem ldk {M : Model} {x : Str} {c : Addr} {v : Value} {pos : Pos} {Q : Value → Shared → Prop} (hv : s.heap.IsCell c (some v)) (h : Q v s)
    (hc : env.cells.lookup x = some c := by rfl) (hk : env.scope.kind = .function := by rfl) (hl : env.kindOf x = some .cell := by rfl) (hd : (x == ("__debug__" : Str)) = false := by decide) :
    wpAny M A (eval (.Name x pos) env) Q E s := wpAny_Name (wpAny_loadName_cell hk hl hc hv h) hd

/-- sign for sign in .. if sign not in table -/
theorem lq_bare {ct d : Addr} {oc o : Obj} {T : List (Nat × List Nat)} {scope : Scope} {fs : List (List Nat)} {p1 p2 p3 p4 : Pos} (I : In w s₀ L m news s) (hcn : (ct, oc) ∈ news) (hoc : oc.data = .cell (some (.ref d))) (hdn : (d, o) ∈ news) (hd9 : 92 < d) (hT : TabO w o T)
    (hk : ∀ C, (compEnvC scope [("table", ct)] C env).scope.kind = .function := by intro _; rfl) (h1 : ∀ C, (compEnvC scope [("table", ct)] C env).kindOf "sign" = some .local := by intro _; rfl) (h2 : ∀ C, (compEnvC scope [("table", ct)] C env).kindOf "table" = some .cell := by intro _; rfl) :
    LQ w A env scope [("table", ct)] "sign" [.Compare (.Name "sign" p1) [.NotIn] [.Name "table" p2] p3] (.Name "sign" p4) fs (fun f => !inT T f) id s := by
  intro C f t s₃ m₃ E' _ hC hn hx hkp htk
  have hcell : s₃.heap.IsCell ct (some (.ref d)) := ⟨oc, hkp _ _ (I.nw _ hcn).2, hoc⟩
  refine ⟨wpAny_tests_one (wpAny_isTrue_Compare1 ?_), fun _ => ?_⟩
  · refine ldn hn hx ?_ rfl (hk C) (h1 C)
    refine ldk hcell ?_ rfl (hk C) (h2 C)
    exact notin_tab (hkp _ _ (I.nw _ hdn).2) hT hd9 (wpAny_truthy_bool ⟨rfl, keeps_toks⟩)
  · exact ldn hn hx ⟨⟨t, rfl⟩, ⟨_, _, rfl, fun _ _ e => e⟩⟩ rfl (hk C) (h1 C)

/-- field.strip(bare) for field in .. if field != '' -/
theorem lq_row {cb : Addr} {ob : Obj} {b : List Nat} {tb : Tok} {scope : Scope} {fs : List (List Nat)} {z : Str} {k1 : Nat} {p1 p2 p3 p4 p5 p6 p7 : Pos} (I : In w s₀ L m news s) (hcn : (cb, ob) ∈ news) (hoc : ob.data = .cell (some (.str (S b) tb))) (hz : z = S []) (hle : ∀ f ∈ fs, f.length ≤ 100000)
    (hk : ∀ C, (compEnvC scope [("bare", cb)] C env).scope.kind = .function := by intro _; rfl) (h1 : ∀ C, (compEnvC scope [("bare", cb)] C env).kindOf "field" = some .local := by intro _; rfl) (h2 : ∀ C, (compEnvC scope [("bare", cb)] C env).kindOf "bare" = some .cell := by intro _; rfl)
    (hline : (p5.endLine == p7.line) = true := by rfl) :
    LQ w A env scope [("bare", cb)] "field" [.Compare (.Name "field" p1) [.NotEq] [.Constant (.str z) k1 p2] p3] (.Call (.Attribute (.Name "field" p4) "strip" p5) [.Name "bare" p6] [] p7) fs (fun f => f != []) (strp fun c => b.contains c) s := by
  intro C f t s₃ m₃ E' hf hC hn hx hkp htk
  subst hz
  have hcell : s₃.heap.IsCell cb (some (.str (S b) tb)) := ⟨ob, hkp _ _ (I.nw _ hcn).2, hoc⟩
  refine ⟨wpAny_tests_one (wpAny_isTrue_Compare1 ?_), fun _ => ?_⟩
  · refine ldn hn hx ?_ rfl (hk C) (h1 C)
    refine wpAny_Constant_str ?_
    refine P.ne_str (wpAny_truthy_bool ?_)
    rw [S_list, S_list]
    exact ⟨rfl, keeps_toks⟩
  · refine Call_method1 rfl rfl hline (ldn hn hx ?_ rfl (hk C) (h1 C))
    refine SB.stripChars (ldk hcell ?_ rfl (hk C) (h2 C)) (by rw [S_length, sizeLine_eq]; have := hle f hf; omega)
    refine ⟨S b, tb, rfl, fun t' k => ⟨⟨t', ?_⟩, keeps_toks⟩⟩
    rw [show Txt.stripChars (S f) (S b) = Txt.stripBy (S b).cps.contains true true (S f) from rfl, stripBy_S]
    have e : (S b).cps.contains = fun c => b.contains c := by funext c; simp [S]
    rw [e]

/-- a for over the signs of a text -/
theorem for_str {cs : List Nat} {t : Tok} {x : Str} {px : Pos} {body : List Stmt} {R : Result → Shared → Prop} (hh : A.handled = none) (I : In w s₀ L (loc l) news s) (F : Nat → List (Str × Value) → Prop) (hF : F 0 l)
    (turn : ∀ i u l₁ s₁ (hi : i < cs.length), F i l₁ → In w s₁ L (loc (put x (.str (S [cs[i]]) u) l₁)) news s₁ → wpAny (model pg w) A (execs body env) (fun f s₃ => f = .next ∧ ∃ l₃, In w s₁ L (loc l₃) news s₃ ∧ F (i + 1) l₃) (fun _ _ => False) s₁)
    (fin : ∀ l₁ s₁, F cs.length l₁ → In w s₀ L (loc l₁) news s₁ → R (.ok .next) s₁)
    (hL : env.locals = L := by rfl) (hx : env.kindOf x = some .local := by rfl) (hp : (env.scope.kind == .class || (env.scope.kind == .module && env.locals != env.globals)) = false := by rfl) :
    wpAny (model pg w) A (pyIter (.str (S cs) t)) (fun it s' => codeAny (model pg w) A (.forLoop (.Name x px) it body [] env) R s') E s := by
  refine wpAny_pyIter_str fun ob St W hSt => ?_
  have I₈ := I.on (h' := s.heap.push ob) (k := s.toks) (Nat.le_refl _) fun b o e => Heap.get?_push_of_some _ e
  have W := W A hh
  have hsz : (S cs).cps.size = cs.length := by simp [S]
  rw [hsz] at W
  have fr := I.fresh (Nat.le_refl _)
  refine for_in W (fun hm => fr.2.2.1 (List.mem_singleton.mp hm).symm) (fun b hb => by obtain rfl := List.mem_singleton.mp hb; exact fr) F I₈ hF hSt (fun i v l₁ s₁ hi hf hv I₁ => ?_) fin hL hx hp
  obtain ⟨c, u, e, rfl⟩ := hv
  have e' : cs[i] = c := by
    have : cs[i]? = some c := by simpa [S] using e
    rw [List.getElem?_eq_getElem hi] at this
    exact Option.some.inj this
  subst e'
  exact turn i u l₁ s₁ hi hf I₁
end
end
end Mine

end PartM21

section PartM22
open PySem PySem.W PyProof.Rows PySem.Calls
set_option Elab.async false
set_option maxRecDepth 100000
namespace Mine
noncomputable section

theorem dueStep_le (T : List (Nat × List Nat)) (told : List Nat) (c : Nat) : (dueStep T told c).length ≤ told.length + 1 := by
  unfold dueStep
  split
  · split <;> simp
  · split <;> simp
theorem due_len (T : List (Nat × List Nat)) : ∀ (r told : List Nat), (r.foldl (dueStep T) told).length ≤ told.length + r.length
  | [], told => by simp
  | c :: r, told => by
    have ih := due_len T r (dueStep T told c)
    have h := dueStep_le T told c
    simp only [List.foldl_cons, List.length_cons]; omega
theorem rowD_le (T : List (Nat × List Nat)) (fs : List (List Nat)) : (((fs.filter fun f => f != []).map (strp fun c => (bareL T).contains c)).map List.length).sum + ((fs.filter fun f => f != []).map (strp fun c => (bareL T).contains c)).length * 1 ≤ (fs.map List.length).sum + fs.length := by
  induction fs with
  | nil => simp
  | cons f fs ih =>
    have h := strp_le (fun c => (bareL T).contains c) f
    rw [List.filter_cons]
    split
    · simp only [List.map_cons, List.sum_cons, List.length_cons, Nat.mul_one] at ih ⊢; omega
    · simp only [List.map_cons, List.sum_cons, List.length_cons, Nat.mul_one] at ih ⊢; omega
theorem bare_le (T : List (Nat × List Nat)) : ((((([32, 9, 10, 13] : List Nat).map fun c => [c]).filter fun f => !inT T f).map id).map List.length).sum + (((([32, 9, 10, 13] : List Nat).map fun c => [c]).filter fun f => !inT T f).map id).length * ([] : List Nat).length ≤ 100000 := by
  have : ∀ l : List (List Nat), (∀ f ∈ l, f.length ≤ 1) → (l.map List.length).sum ≤ l.length := by
    intro l hl
    induction l with
    | nil => simp
    | cons f l ih =>
      have h1 := hl f (.head _)
      have h2 := ih fun g hg => hl g (.tail _ hg)
      simp only [List.map_cons, List.sum_cons, List.length_cons]; omega
  have h1 := this (((([32, 9, 10, 13] : List Nat).map fun c => [c]).filter fun f => !inT T f).map id) (fun f hf => by
    simp only [List.map_id_fun, id_eq] at hf
    have hm := (List.mem_filter.mp hf).1
    obtain ⟨c, _, rfl⟩ := List.mem_map.mp hm
    simp)
  have h2 : ((((([32, 9, 10, 13] : List Nat).map fun c => [c]).filter fun f => !inT T f).map id)).length ≤ 4 := by
    simp only [List.map_id_fun, id_eq]
    exact Nat.le_trans (List.length_filter_le _ _) (by simp)
  simp only [List.length_nil, Nat.mul_zero] at *
  omega

set_option maxHeartbeats 1000000 in
theorem law_due {w : World} {s : Shared} {X d : Addr} {o : Obj} {vals : List Value} {fs : List (List Nat)} {T : List (Nat × List Nat)} (G : Gnd w s.heap) (ht : 0 < s.toks) (hX : s.heap.IsList X vals.toArray) (hV : SV vals fs) (hd : s.heap.get? d = some o) (hT : TabO w o T) (h9 : 92 < d)
    (hn : fs.length ≤ 1000) (hsum : (fs.map List.length).sum ≤ 10000) :
    Fn w 82 [.ref X, .ref d] (fun _ v s' => ∃ D vals, v = .ref D ∧ s'.heap.IsList D vals.toArray ∧ SV vals (dueL T fs)) s := by
  intro A hh hdp hu
  refine enterC (binds := [("fields", .ref X), ("table", .ref d)]) G ht (by omega) rfl rfl rfl (fun n x hx => ?_) fun s₁ L hLe hL I hcell => ?_
  · rcases List.mem_cons.mp hx with rfl | hx
    · exact .inl rfl
    · rw [List.mem_singleton.mp hx]; exact .inr ⟨rfl, rfl⟩
  obtain ⟨oX, hXo, hXl⟩ := LO.of hX
  have hdL : d ≠ L := fun z => by rw [z, hL] at hd; cases hd
  have hXL : X ≠ L := fun z => by rw [z, hL] at hXo; cases hXo
  obtain ⟨oc, hoc, hocd⟩ := hcell "table" (L + 1) rfl
  obtain ⟨ob, hob, hobd⟩ := hcell "bare" (L + 2) rfl
  replace hocd : oc.data = .cell (some (.ref d)) := hocd
  replace hobd : ob.data = .cell none := hobd
  have I : In w s L (loc [("fields", .ref X)]) [(L + 2, ob), (L + 1, oc), (d, o), (X, oX)] s₁ :=
    (((((I.congr (m' := loc [("fields", .ref X)]) (loc_put "fields" (.ref X) [])).more (I.keep _ _ hXL hXo) hXL).more (I.keep _ _ hdL hd) hdL).more hoc (Nat.ne_of_gt (Nat.lt_succ_self _))).more hob (Nat.ne_of_gt (Nat.lt_succ_of_lt (Nat.lt_succ_self _))))
  refine wpAny_execs_cons (wpAny_Assign_Name ?_)
  refine Call_method1 rfl rfl rfl (ldc I fun t₁ s₂ _ _ I => ?_)
  refine ⟨"str", _, F.plainAttrs_str, F.slot_str_join, F.type_str_join, typeIs_str _ _ _, (fun _ e => nomatch e), ?_⟩
  refine callWith_builtin rfl (evalArgs_plain (spliced_cons ?_))
  refine lc_str (cs := [32, 9, 10, 13]) (cl := [("table", L + 1)]) (fun f => !inT T f) id hh I (fun Q' hq => ?_) (by decide) (fun s₁ I => ?_) (fun D ys ne s₃ hys I => ?_) rfl
  · have e : (Str.ofString " \t\n\u000d") = S [32, 9, 10, 13] := by decide +kernel
    refine wpAny_Constant_str ?_
    rw [e]
    exact hq _ _ (I.tok (Nat.le_succ _))
  · exact lq_bare I (.tail _ (.head _)) hocd (.tail _ (.tail _ (.head _))) h9 hT
  refine spliced_nil ?_
  have e0 : (Str.ofString "") = S [] := by decide +kernel
  rw [e0]
  refine join_on I (LO.isList ⟨rfl, ne, rfl⟩ (I.nw _ (.head _)).2) hys (bare_le T) fun t₂ s₄ I => ?_
  rw [List.map_id_fun, id_eq]
  have I := I.forget (news' := [(L + 2, ob), (L + 1, oc), (d, o), (X, oX)]) fun p hp => .tail _ hp
  have hdlt : d < L := by rw [hLe]; exact Heap.lt_size hd
  have hXlt : X < L := by rw [hLe]; exact Heap.lt_size hXo
  have hL9 : 92 < L := I.lo
  refine stcell I hobd (fresh_at (by rw [← hLe]; exact Nat.le_succ_of_le (Nat.le_succ _))) (Nat.lt_succ_of_lt (Nat.lt_succ_of_lt hL9)) (fun p hp => ?_) fun ob' s₅ hobd' I => ?_
  · rcases List.mem_cons.mp hp with rfl | hp
    · exact Nat.ne_of_lt (Nat.lt_succ_self _)
    · rcases List.mem_cons.mp hp with rfl | hp
      · exact Nat.ne_of_lt (Nat.lt_succ_of_lt (Nat.lt_succ_of_lt hdlt))
      · rw [List.mem_singleton.mp hp]; exact Nat.ne_of_lt (Nat.lt_succ_of_lt (Nat.lt_succ_of_lt hXlt))
  refine wpAny_execs_cons (wpAny_Assign_Name ?_)
  refine Call_method1 rfl rfl rfl (ldc I fun t₃ s₆ _ _ I => ?_)
  refine ⟨"str", _, F.plainAttrs_str, F.slot_str_join, F.type_str_join, typeIs_str _ _ _, (fun _ e => nomatch e), ?_⟩
  refine callWith_builtin rfl (evalArgs_plain (spliced_cons ?_))
  refine lc_list (cl := [("bare", L + 2)]) (X := X) (fun f => f != []) (strp fun c => (bareL T).contains c) hh I (fun Q' hq => ldl I rfl hq) (hXl.isList (I.nw _ (.tail _ (.tail _ (.tail _ (.head _))))).2) hV (by omega) ?_ (fun D ys ne s₇ _ hys I => ?_) rfl
  · exact lq_row I (.head _) hobd' (by decide +kernel) (fun f hf => by have := mem_le_sum hf; omega)
  refine spliced_nil ?_
  have e1 : (Str.ofString "-") = S [45] := by decide +kernel
  rw [e1]
  have hrl := rowD_le T fs
  refine join_on I (LO.isList ⟨rfl, ne, rfl⟩ (I.nw _ (.head _)).2) hys (by simp only [List.length_cons, List.length_nil]; omega) fun t₄ s₈ I => ?_
  have hjl := jn_le [45] ((fs.filter fun f => f != []).map (strp fun c => (bareL T).contains c))
  have I := I.forget (news' := [(L + 1, oc), (d, o)]) fun p hp => by
    rcases List.mem_cons.mp hp with rfl | hp
    · exact .tail _ (.tail _ (.head _))
    · rw [List.mem_singleton.mp hp]; exact .tail _ (.tail _ (.tail _ (.head _)))
  refine st I fun s₉ I => ?_
  refine wpAny_execs_cons (wpAny_Assign_Name ?_)
  refine ldc I fun t₅ s₁₀ _ _ I => ?_
  refine st I fun s₁₁ I => ?_
  refine wpAny_execs_cons (wpAny_For ?_)
  have hrow : (rowD T fs).length ≤ 20000 := by
    have e : rowD T fs = jn [45] ((fs.filter fun f => f != []).map (strp fun c => (bareL T).contains c)) := rfl
    rw [e]; simp only [List.length_cons, List.length_nil] at hjl; omega
  refine ev_replace (x := rowD T fs) (c := uk) (z := []) I rfl (by decide +kernel) (by decide +kernel) (by decide) (by decide) (by omega) (by decide) fun t₆ s₁₂ I => ?_
  have hul := rpl_le uk (by decide) _ (rowD T fs) (Nat.le_refl _)
  refine for_str hh I (fun i l' => ∃ t', l'.lookup ("told" : Str) = some (.str (S (((rpl uk [] (rowD T fs)).take i).foldl (dueStep T) [])) t')) ⟨t₅, ?_⟩ ?_ ?_
  · exact lookup_put ..
  · rintro i u l₁ s₁ hi ⟨t', hl⟩ I₁
    have hdl := due_len T ((rpl uk [] (rowD T fs)).take i) []
    have htk : ((rpl uk [] (rowD T fs)).take i).length ≤ (rpl uk [] (rowD T fs)).length := by rw [List.length_take]; omega
    simp only [List.length_nil] at hdl
    refine due_turn (T := T) I₁ (.head _) hocd (.tail _ (.head _)) h9 hT (by rw [lookup_put_ne _ _ (by decide)]; exact hl) (lookup_put ..) (by omega) (by decide +kernel) (by decide +kernel) (by decide +kernel) (by decide +kernel) (by decide +kernel) (by decide +kernel) fun l' t'' s' h1 I₂ => ?_
    refine ⟨rfl, l', I₂, t'', ?_⟩
    rw [List.take_succ_eq_append_getElem hi, List.foldl_append]
    exact h1
  · rintro l₁ s₁ ⟨t', hl⟩ I₁
    rw [List.take_length] at hl
    have hdl := due_len T (rpl uk [] (rowD T fs)) []
    simp only [List.length_nil] at hdl
    replace hl : l₁.lookup ("told" : Str) = some (.str (S (dueT T fs)) t') := hl
    replace hdl : (dueT T fs).length ≤ 0 + (rpl uk [] (rowD T fs)).length := hdl
    refine wpAny_execs_cons (wpAny_Return_some ?_)
    refine Call_method1 rfl rfl rfl (wpAny_IfExp (wpAny_isTrue_Compare1 ?_))
    refine ev_last I₁ hl (by omega) fun t₇ s₁₃ I₂ => ?_
    refine ldc I₂ fun t₈ s₁₄ _ _ I₃ => ?_
    refine P.eq_str (wpAny_truthy_bool ?_)
    rw [S_list, S_list]
    have hdue : dueL T fs = spl 45 (if lastOf (dueT T fs) = [45] then cut (dueT T fs) else dueT T fs) := rfl
    by_cases hc : lastOf (dueT T fs) = [45]
    · rw [show ((dueT T fs).drop ((dueT T fs).length - 1) == [45]) = true by simpa [lastOf] using hc]
      simp only [if_true]
      refine ev_init I₃ hl (by omega) fun t₉ s₁₅ I₄ => ?_
      have hct : (cut (dueT T fs)).length ≤ (dueT T fs).length := by unfold cut; rw [List.length_take]; omega
      refine split_on (x := cut (dueT T fs)) (c := 45) I₄ rfl (by omega) fun X3 oX3 rvals s₈ hrv hlo3 I₅ => ?_
      refine ⟨I₅.out hL, X3, rvals, rfl, hlo3.isList (I₅.nw _ (.head _)).2, ?_⟩
      rw [hdue, if_pos hc]; exact hrv
    · rw [show ((dueT T fs).drop ((dueT T fs).length - 1) == [45]) = false by simpa [lastOf] using hc]
      simp only [Bool.false_eq_true, if_false]
      refine ldl I₃ hl ?_
      refine split_on (c := 45) I₃ rfl (by omega) fun X3 oX3 rvals s₈ hrv hlo3 I₅ => ?_
      refine ⟨I₅.out hL, X3, rvals, rfl, hlo3.isList (I₅.nw _ (.head _)).2, ?_⟩
      rw [hdue, if_neg hc]; exact hrv
end
end Mine

end PartM22

section PartM23
open PySem PySem.W PyProof.Rows PySem.Calls
set_option Elab.async false
set_option maxRecDepth 100000
namespace Mine
noncomputable section
section
variable {A : Around} {E : Value → Shared → Prop} {w : World} {s₀ s : Shared} {L : Addr} {l : List (Str × Value)} {m : Str → Option Value} {news : List (Addr × Obj)} {env : Env}

/-- the call of a def of the text by its name -/
theorem ev_call {f : Str} {a : Addr} {e : Expr} {rest : List Expr} {p pos : Pos} {Q : Value → Shared → Prop} (G : Gnd w s.heap)
    (h : wpAny (model pg w) A (spliced (backTo pos (starEach (e :: rest) env))) (fun vs s₁ => Gnd w s₁.heap ∧ wpAny (model pg w) A (call (.ref a) vs) Q E s₁) E s)
    (hf : nsIn (KF w) mainGlobals f = some (some (.ref a)) := by rfl) (ho : ∃ c d sl, (KF w).lookup a = some ⟨c, d, .func (fdAt w a), sl⟩ := by exact ⟨_, _, _, rfl⟩)
    (he : starEach (e :: rest) env = (false, eval e env) :: starEach rest env := by rfl)
    (hg : env.globals = mainGlobals := by rfl) (hk : env.scope.kind = .function := by rfl) (hx : env.kindOf f = some .globalImplicit := by rfl) (hd : (f == ("__debug__" : Str)) = false := by decide) :
    wpAny (model pg w) A (eval (.Call (.Name f p) (e :: rest) [] pos) env) Q E s := by
  obtain ⟨c, d, sl, ho⟩ := ho
  refine wpAny_Call_Name_kw (ldg G hf ?_ hg hk hx hd)
  rw [he] at h ⊢
  refine callWith_function (o := ⟨c, d, .func (fdAt w a), sl⟩) (fd := fdAt w a) (evalArgs_plain (wpAny_mono h (fun vs s₁ h₁ => ?_) fun _ _ x => x))
  exact ⟨⟨h₁.1.k a _ ho, rfl⟩, h₁.2⟩
theorem ev_call0 {f : Str} {a : Addr} {p pos : Pos} {Q : Value → Shared → Prop} (G : Gnd w s.heap) (h : wpAny (model pg w) A (call (.ref a) []) Q E s)
    (hf : nsIn (KF w) mainGlobals f = some (some (.ref a)) := by rfl) (ho : ∃ c d sl, (KF w).lookup a = some ⟨c, d, .func (fdAt w a), sl⟩ := by exact ⟨_, _, _, rfl⟩)
    (hg : env.globals = mainGlobals := by rfl) (hk : env.scope.kind = .function := by rfl) (hx : env.kindOf f = some .globalImplicit := by rfl) (hd : (f == ("__debug__" : Str)) = false := by decide) :
    wpAny (model pg w) A (eval (.Call (.Name f p) [] [] pos) env) Q E s := by
  obtain ⟨c, d, sl, ho⟩ := ho
  refine wpAny_Call_Name_kw (ldg G hf ?_ hg hk hx hd)
  exact callWith_function (o := ⟨c, d, .func (fdAt w a), sl⟩) (fd := fdAt w a) (PySem.evalArgs_none ⟨⟨G.k a _ ho, rfl⟩, h⟩)

/-- esc(field) for field in fields -/
theorem lq_esc {f : Str} {a : Addr} {T : List (Nat × List Nat)} {scope : Scope} {fs : List (List Nat)} {p1 p2 p3 : Pos} (I : In w s₀ L m news s) (hh : A.handled = none) (hdp : A.depth + 8 < recursionLimit) (hu : A.units + 60 < cLine)
    (hfn : ∀ (s : Shared) (x : List Nat) (t : Tok), Gnd w s.heap → 0 < s.toks → x.length ≤ 10000 → Fn w a [.str (S x) t] (fun _ v _ => ∃ t', v = .str (S (escBy T x)) t') s) (hle : ∀ x ∈ fs, x.length ≤ 10000)
    (hf : nsIn (KF w) mainGlobals f = some (some (.ref a)) := by rfl) (ho : ∃ c d sl, (KF w).lookup a = some ⟨c, d, .func (fdAt w a), sl⟩ := by exact ⟨_, _, _, rfl⟩)
    (hk : ∀ C, (compEnvC scope [] C env).scope.kind = .function := by intro _; rfl) (h1 : ∀ C, (compEnvC scope [] C env).kindOf "field" = some .local := by intro _; rfl) (h2 : ∀ C, (compEnvC scope [] C env).kindOf f = some .globalImplicit := by intro _; rfl)
    (hg : env.globals = mainGlobals := by rfl) (hd : (f == ("__debug__" : Str)) = false := by decide) :
    LQ w A env scope [] "field" [] (.Call (.Name f p1) [.Name "field" p2] [] p3) fs (fun _ => true) (escBy T) s := by
  intro C x t s₃ m₃ E' hx hC hn hxv hkp htk
  refine ⟨wpAny_tests_nil ⟨rfl, s₃.heap, s₃.toks, rfl, fun _ _ e => e⟩, fun _ => ?_⟩
  have G := I.gnd.keeps hkp
  refine ev_call G ?_ hf ho rfl hg (hk C) (h2 C) hd
  refine spliced_cons (ldn hn hxv ?_ rfl (hk C) (h1 C))
  refine spliced_nil ⟨G, ?_⟩
  exact wpAny_mono (hfn s₃ x t G (Nat.lt_of_lt_of_le I.pos htk) (hle x hx) A hh hdp hu) (fun v s₄ h₄ => ⟨h₄.2, h₄.1⟩) fun _ _ x => x.elim
end
end
end Mine

end PartM23

section PartM24
open PySem PySem.W PyProof.Rows PySem.Calls PyProof.V PySem.Spec
set_option Elab.async false
set_option maxRecDepth 100000
namespace Mine
noncomputable section

/-- signs that a text may hold -/
def Ok (ns : List (List Nat)) : Prop := ∀ f ∈ ns, ∀ c ∈ f, c < 0x110000
theorem canLay_strs : ∀ ns : List (List Nat), Ok ns → PyData.canLayAll0 ((ns.map S).map PyData.str) = true
  | [], _ => rfl
  | f :: r, h => by
    have h1 : PyData.strOk (S f) = true := by
      unfold PyData.strOk
      rw [Array.all_eq_true']
      intro c hc
      have : c ∈ f := by simpa [S] using hc
      exact decide_eq_true (h f (.head _) c this)
    have h2 := canLay_strs r fun g hg => h g (.tail _ hg)
    simp only [List.map_cons, PyData.canLayAll0, PyData.canLay0, h1, h2, Bool.and_self]
theorem depth_strs : ∀ ns : List Str, PyData.depthAll (ns.map PyData.str) = 0
  | [] => rfl
  | _ :: r => by simp [PyData.depthAll, PyData.depth, depth_strs r]
theorem shaped_strs (ns : List (List Nat)) (h : Ok ns) : SeqAt.shaped (.list ((ns.map S).map PyData.str)) = true := by
  simp only [SeqAt.shaped, PyData.canLay0, PyData.depth, canLay_strs ns h, depth_strs]; rfl
theorem sameAll_strs : ∀ ns ms : List (List Nat), PySem.Spec.sameAll ((ns.map S).map PyData.str) ((ms.map S).map PyData.str) = decide (ns = ms)
  | [], [] => by simp [PySem.Spec.sameAll]
  | [], _ :: _ => by simp [PySem.Spec.sameAll]
  | _ :: _, [] => by simp [PySem.Spec.sameAll]
  | a :: r, b :: t => by
    simp only [List.map_cons, PySem.Spec.sameAll, PySem.Spec.same, sameAll_strs r t]
    by_cases h : a = b <;> by_cases h' : r = t <;> simp [h, h', S]
theorem same_strs (ns ms : List (List Nat)) : PySem.Spec.same (.list ((ns.map S).map PyData.str)) (.list ((ms.map S).map PyData.str)) = decide (ns = ms) := by
  simp only [PySem.Spec.same]; exact sameAll_strs ns ms
theorem carried_strs : ∀ {vs : List Value} {fs : List (List Nat)}, SV vs fs → CarriedAll vs ((fs.map S).map PyData.str)
  | [], [], _ => .nil
  | _ :: _, _ :: _, ⟨⟨t, e⟩, h⟩ => by subst e; exact .cons (.str _ t) (carried_strs h)
  | [], _ :: _, h => h.elim
  | _ :: _, [], h => h.elim
theorem ne_texts {w : World} {A : Around} {E : Value → Shared → Prop} {s : Shared} {a b : Addr} {xs ys : List Value} {ns ms : List (List Nat)} {Q : Value → Shared → Prop} (ha : s.heap.IsList a xs.toArray) (hb : s.heap.IsList b ys.toArray) (hi : SV xs ns) (hj : SV ys ms) (hu : A.units + 64 < cLine) (ho1 : Ok ns) (ho2 : Ok ms) (h : Q (.bool (!decide (ns = ms))) s) :
    wpAny (model pg w) A (compareOp .NotEq (.ref a) (.ref b)) Q E s :=
  ne_dataH_same (reads_newData ha (carried_strs hi)) (reads_newData hb (carried_strs hj)) (shaped_strs _ ho1) (shaped_strs _ ho2) hu (SeqAt.noMix_of_shape (.list .str) rfl _ _ (list_map_has fun _ => rfl) (list_map_has fun _ => rfl)) (by rw [same_strs]; exact h)
end
end Mine

end PartM24

section PartM25
open PySem PySem.W PyProof.Rows PySem.Calls
set_option Elab.async false
set_option maxRecDepth 100000
namespace Mine
noncomputable section

/-- what the law keeps of the state that it began with -/
structure LS (s₀ s : Shared) : Prop where
  os : s.os = s₀.os
  bare : AllBare s.gens
  tab : Tab s.heap
  old : ∀ b o, b ≠ 16 → s₀.heap.get? b = some o → s.heap.get? b = some o
theorem LS.on {s₀ s s' : Shared} (X : LS s₀ s) {Y : Addr → Prop} (ho : s'.os = s.os) (hg : s'.gens = s.gens) (hk : ∀ b o, ¬ Y b → s.heap.get? b = some o → s'.heap.get? b = some o) (hY : ∀ b, Y b → s₀.heap.get? b = none ∧ 92 < b) : LS s₀ s' :=
  ⟨ho.trans X.os, hg ▸ X.bare, X.tab.at' fun b o hb e => hk b o (fun y => absurd (hY b y).2 (Nat.not_lt.mpr hb)) e, fun b o hb e => hk b o (fun y => by rw [(hY b y).1] at e; cases e) (X.old b o hb e)⟩
theorem LS.keeps {s₀ s s' : Shared} (X : LS s₀ s) (h : Keeps s s') : LS s₀ s' := by
  obtain ⟨h', tk, rfl, hk⟩ := h
  exact X.on (Y := fun _ => False) rfl rfl (fun b o _ e => hk b o e) fun _ y => y.elim
/-- what a frame has done since -/
theorem LS.frame {w : World} {s₀ s s' : Shared} {L : Addr} {m : Str → Option Value} {news : List (Addr × Obj)} (X : LS s₀ s) (hL : s₀.heap.get? L = none) (J : In w s L m news s') : LS s₀ s' := by
  have hlo := J.lo
  have hk := J.keep
  obtain ⟨h, tk, e⟩ := J.same
  subst e
  exact X.on (Y := fun b => b = L) rfl rfl hk fun b y => by rw [y]; exact ⟨hL, hlo⟩

section
variable {A : Around} {E : Value → Shared → Prop} {w : World} {s₀ s : Shared} {L : Addr} {l : List (Str × Value)} {N : List (Addr × Obj)} {env : Env}

theorem for_zip {cT z TI TO i1 i2 l1 l2 : Addr} {xs ys : List Value} {n : Nat} {oc : Obj} {v0 : Option Value} {X : Value} {body : List Stmt} {p1 p2 p3 : Pos} {k : Nat} {R : Result → Shared → Prop} (hh : A.handled = none) (D : ZipApart z TI TO i1 i2 l1 l2)
    (hxs : xs.length = n) (hys : ys.length = n)
    (I : In w s L (loc l) ((cT, oc) :: N) s) (hoc : oc.data = .cell v0) (hX : l.lookup ("fields" : Str) = some X) (Z : LS s₀ s)
    (hfr : ∀ b ∈ [z, TI, TO, i1, i2, l1, l2], b ≠ L ∧ b ≠ cT ∧ 92 < b) (hwr : ∀ b ∈ [z, TO, i1, i2], s₀.heap.get? b = none ∧ ∀ p ∈ N, p.1 ≠ b)
    (hc0 : s₀.heap.get? cT = none) (hc9 : 92 < cT) (hcN : ∀ p ∈ N, p.1 ≠ cT) (hL0 : s₀.heap.get? L = none)
    (hSt : IsZip s.heap z TI TO .none ∧ IsPair s.heap TI (.ref i1) (.ref i2) ∧ (∃ a b, IsPair s.heap TO a b) ∧ s.heap.IsListIter i1 l1 0 ∧ s.heap.IsListIter i2 l2 0 ∧ s.heap.IsList l1 xs.toArray ∧ s.heap.IsList l2 ys.toArray)
    (turn : ∀ i x y l₁ oc₁ s₁, i < n → xs[i]? = some x → ys[i]? = some y → l₁.lookup ("fields" : Str) = some X → l₁.lookup ("writings" : Str) = some x → In w s₁ L (loc l₁) ((cT, oc₁) :: N) s₁ → oc₁.data = .cell (some y) → LS s₀ s₁ →
      wpAny (model pg w) A (execs body env) (fun f s₂ => f = .next ∧ (∃ l₂, l₂.lookup ("fields" : Str) = some X ∧ In w s₂ L (loc l₂) ((cT, oc₁) :: N) s₂) ∧ LS s₀ s₂ ∧ (∀ b o, b ≠ 16 → b ≠ L → s₁.heap.get? b = some o → s₂.heap.get? b = some o)) (fun _ _ => False) s₁)
    (fin : ∀ l₁ oc₁ s₁, In w s₁ L (loc l₁) ((cT, oc₁) :: N) s₁ → LS s₀ s₁ → R (.ok .next) s₁)
    (hL : env.locals = L := by rfl) (hk : env.scope.kind = .function := by rfl) (h1 : env.kindOf "writings" = some .local := by rfl) (h2 : env.kindOf "table" = some .cell := by rfl) (hcell : env.cells.lookup ("table" : Str) = some cT := by rfl) :
    codeAny (model pg w) A (.forLoop (.Tuple [.Name "writings" p1, .Name "table" p2] k p3) (.ref z) body [] env) R s := by
  have hp : (env.scope.kind == .class || (env.scope.kind == .module && env.locals != env.globals)) = false := by rw [hk]; rfl
  have W := WalksT.zip2 (prog := pg) (w := w) (A := A) hh z TI TO i1 i2 l1 l2 D xs.toArray ys.toArray
  have hsz : min xs.toArray.size ys.toArray.size = n := by simp [hxs, hys]
  rw [hsz] at W
  have sub : ∀ b ∈ [z, TO, i1, i2], b ∈ [z, TI, TO, i1, i2, l1, l2] := W.sub
  have hw : ∀ b ∈ [z, TO, i1, i2], b ≠ L ∧ b ≠ cT ∧ 92 < b := fun b hb => hfr b (sub b hb)
  refine codeAny_forLoop_any (fun k s' => ∃ i l' oc' v', k = n - i ∧ i ≤ n ∧ In w s' L (loc l') ((cT, oc') :: N) s' ∧ oc'.data = .cell v' ∧ l'.lookup ("fields" : Str) = some X ∧ LS s₀ s' ∧
    (IsZip s'.heap z TI TO .none ∧ IsPair s'.heap TI (.ref i1) (.ref i2) ∧ (∃ a b, IsPair s'.heap TO a b) ∧ s'.heap.IsListIter i1 l1 i ∧ s'.heap.IsListIter i2 l2 i ∧ s'.heap.IsList l1 xs.toArray ∧ s'.heap.IsList l2 ys.toArray)) ?_ n ⟨0, l, oc, v0, rfl, Nat.zero_le _, I, hoc, hX, Z, hSt⟩
  rintro k s' ⟨i, l', oc', v', rfl, hi, I', hoc', hX', Z', hSt'⟩
  have walk : ∀ {h' : Heap} {tk : Nat} {l'' : List (Str × Value)} {o'' : Obj} {s' : Shared}, In w s' L (loc l'') ((cT, o'') :: N) s' → s'.toks ≤ tk → (∀ b o, b ∉ [z, TO, i1, i2] → s'.heap.get? b = some o → h'.get? b = some o) → In w { s' with heap := h', toks := tk } L (loc l'') ((cT, o'') :: N) { s' with heap := h', toks := tk } := fun I ht hk =>
    I.self_walk (fun b hb => ⟨(hw b hb).2.2, (hw b hb).1, fun p hp => by
      rcases List.mem_cons.mp hp with rfl | hp
      · exact (hw b hb).2.1.symm
      · exact (hwr b hb).2 p hp⟩) ht hk
  by_cases hlt : i < n
  · refine wpAny_with_toks (n := s'.toks) (Nat.le_refl _) (W.item i s' _ _ hlt hSt' fun T vals h₁ tk₁ hPt hT₁ htup hMid hk₁ ht₁ => ?_)
    have I₁ := walk I' ht₁ hk₁
    have Z₁ : LS s₀ { s' with heap := h₁, toks := tk₁ } := Z'.on (Y := fun b => b ∈ [z, TO, i1, i2]) rfl rfl hk₁ fun b hb => ⟨(hwr b hb).1, (hw b hb).2.2⟩
    refine W.go _ _ _ i T _ _ _ hMid fun h₂ hSt₂ hk₂ => ?_
    have I₂ := walk I₁ (Nat.le_refl tk₁) hk₂
    have Z₂ : LS s₀ { s' with heap := h₂, toks := tk₁ } := Z₁.on (Y := fun b => b ∈ [z, TO, i1, i2]) rfl rfl hk₂ fun b hb => ⟨(hwr b hb).1, (hw b hb).2.2⟩
    obtain ⟨x, y, hx, hy, rfl⟩ := hPt
    have hTw := W.apart i T _ hMid
    have htup₂ : h₂.IsTuple T #[x, y] := let ⟨o, e, r⟩ := htup; ⟨o, hk₂ _ _ hTw e, r⟩
    refine wpAny_assign_Tuple hh htup₂ rfl rfl fun h₃ hs₃ => ?_
    have k₃ : ∀ b o, h₂.get? b = some o → h₃.get? b = some o := fun b o e => hs₃ b o (Nat.ne_of_lt (Heap.lt_size e)) e
    have I₃ : In w { s' with heap := h₃, toks := tk₁ } L (loc l') ((cT, oc') :: N) { s' with heap := h₃, toks := tk₁ } := (I₂.on (Nat.le_refl tk₁) k₃).anew
    have Z₃ : LS s₀ { s' with heap := h₃, toks := tk₁ } := Z₂.on (Y := fun _ => False) rfl rfl (fun b o _ e => k₃ b o e) fun _ y => y.elim
    have St₃ := W.frame _ _ h₃ hSt₂ fun b _ o e => k₃ b o e
    show wpAny _ A (assignInOrder [assign (.Name "writings" p1) env, assign (.Name "table" p2) env] [x, y]) _ _ _
    refine wpAny_assignInOrder_more (wpAny_assign_Name (st I₃ (fun s₄ I₄ => ?_) hL h1 hp))
    have Z₄ := Z₃.frame hL0 I₄
    have St₄ := W.frame _ _ s₄.heap St₃ fun b hb o e => I₄.keep b o (hfr b hb).1 e
    refine wpAny_assignInOrder_more (wpAny_assign_Name ?_)
    have hn := (I₄.anew).nw _ (.head _)
    refine wpAny_storeName_cell hk h2 hcell ⟨oc', hn.2, hoc'⟩ fun h₅ hc₅ hs₅ => ?_
    obtain ⟨oc₅, ho₅, hd₅⟩ := hc₅
    have I₅ := ((I₄.anew.forget (news' := N) fun p hp => .tail _ hp).self_walk (wr := [cT]) (h' := h₅) (k := s₄.toks) (fun b hb => by
      obtain rfl := List.mem_singleton.mp hb
      exact ⟨hc9, hn.1, hcN⟩) (Nat.le_refl _) (fun b o hb e => hs₅.extBut b o (fun z => hb (z ▸ .head _)) e)).more (a := cT) ho₅ hn.1
    have Z₅ : LS s₀ { s₄ with heap := h₅ } := Z₄.on (Y := fun b => b = cT) rfl rfl (fun b o hb e => hs₅.extBut b o hb e) fun b y => by rw [y]; exact ⟨hc0, hc9⟩
    have St₅ := W.frame _ _ h₅ St₄ fun b hb o e => hs₅.extBut b o (hfr b hb).2.1 e
    refine wpAny_assignInOrder_none ?_
    refine wpAny_mono (turn i x y _ oc₅ _ hlt (by simpa using hx) (by simpa using hy) (by rw [lookup_put_ne _ _ (by decide)]; exact hX') (lookup_put ..) I₅ hd₅ Z₅) (fun f s₆ h₆ => ?_) fun _ _ x => x.elim
    obtain ⟨rfl, ⟨l₂, hX₂, I₆⟩, Z₆, hk₆⟩ := h₆
    refine ⟨n - (i + 1), by omega, i + 1, l₂, oc₅, _, rfl, hlt, I₆, hd₅, hX₂, Z₆, ?_⟩
    exact W.frame _ _ s₆.heap St₅ fun b hb o e => hk₆ b o (fun z => by have := (hfr b hb).2.2; rw [z] at this; exact absurd this (by decide)) (hfr b hb).1 e
  · have hin : i = n := by omega
    subst hin
    refine wpAny_with_toks (n := s'.toks) (Nat.le_refl _) (W.done s' _ _ hSt' fun h₁ tk₁ hk₁ ht₁ => ?_)
    have I₁ := walk I' ht₁ hk₁
    have Z₁ : LS s₀ { s' with heap := h₁, toks := tk₁ } := Z'.on (Y := fun b => b ∈ [z, TO, i1, i2]) rfl rfl hk₁ fun b hb => ⟨(hwr b hb).1, (hw b hb).2.2⟩
    exact wpAny_execs_nil (fin l' oc' _ I₁ Z₁)
end
end
end Mine

end PartM25

section PartM26
open PySem PySem.W PyProof.Rows PySem.Calls
set_option Elab.async false
set_option maxRecDepth 100000
namespace Mine
noncomputable section

theorem In.rebase16n {w : World} {s₀ s s' : Shared} {L : Addr} {m : Str → Option Value} {news : List (Addr × Obj)} (I : In w s₀ L m news s) (hk : ∀ b o, b ≠ 16 → s.heap.get? b = some o → s'.heap.get? b = some o) (ht : s.toks ≤ s'.toks) (h16 : ∀ p ∈ news, p.1 ≠ 16) : In w s' L m news s' :=
  let J := I.rebase16 hk ht
  ⟨J.same, J.keep, J.ns, J.gnd, J.lo, J.tk, J.t0, fun p hp => ⟨(I.nw p hp).1, hk _ _ (h16 p hp) (I.nw p hp).2⟩⟩

section
variable {A : Around} {E : Value → Shared → Prop} {w : World} {s₀ s : Shared} {L : Addr} {l : List (Str × Value)} {m : Str → Option Value} {news : List (Addr × Obj)} {env : Env}

/-- sign for sign in .. if sign != '&' and sign in table -/
theorem lq_signs {ct d : Addr} {oc o : Obj} {T : List (Nat × List Nat)} {scope : Scope} {fs : List (List Nat)} {z : Str} {k1 : Nat} {p1 p2 p3 p4 p5 p6 p7 p8 : Pos} (I : In w s₀ L m news s) (hcn : (ct, oc) ∈ news) (hoc : oc.data = .cell (some (.ref d))) (hdn : (d, o) ∈ news) (hd9 : 92 < d) (hT : TabO w o T) (hz : z = S [38])
    (hk : ∀ C, (compEnvC scope [("table", ct)] C env).scope.kind = .function := by intro _; rfl) (h1 : ∀ C, (compEnvC scope [("table", ct)] C env).kindOf "sign" = some .local := by intro _; rfl) (h2 : ∀ C, (compEnvC scope [("table", ct)] C env).kindOf "table" = some .cell := by intro _; rfl) :
    LQ w A env scope [("table", ct)] "sign" [.BoolOp .And [.Compare (.Name "sign" p1) [.NotEq] [.Constant (.str z) k1 p2] p3, .Compare (.Name "sign" p4) [.In] [.Name "table" p5] p6] p7] (.Name "sign" p8) fs (fun f => f != [38] && inT T f) id s := by
  intro C f t s₃ m₃ E' _ hC hn hx hkp htk
  subst hz
  have hcell : s₃.heap.IsCell ct (some (.ref d)) := ⟨oc, hkp _ _ (I.nw _ hcn).2, hoc⟩
  refine ⟨wpAny_tests_one (wpAny_isTrue_BoolOp (wpAny_allTrue_And_cons (wpAny_isTrue_Compare1 ?_))), fun _ => ?_⟩
  · refine ldn hn hx ?_ rfl (hk C) (h1 C)
    refine wpAny_Constant_str ?_
    refine P.ne_str (wpAny_truthy_bool ?_)
    rw [S_list, S_list]
    cases hc : f != [38] with
    | false =>
      simp only [Bool.false_eq_true, if_false]
      exact ⟨by rw [hc]; rfl, keeps_toks⟩
    | true =>
      simp only [if_true]
      refine wpAny_allTrue_And_cons (wpAny_isTrue_Compare1 ?_)
      refine ldn (s := { s₃ with toks := s₃.toks + 1 }) hn hx ?_ rfl (hk C) (h1 C)
      refine ldk (s := { s₃ with toks := s₃.toks + 1 }) hcell ?_ rfl (hk C) (h2 C)
      refine in_tab (hkp _ _ (I.nw _ hdn).2) hT hd9 (wpAny_truthy_bool ?_)
      cases hi : inT T f with
      | false =>
        simp only [Bool.false_eq_true, if_false]
        exact ⟨by simp, s₃.heap, _, rfl, fun _ _ e => e⟩
      | true =>
        simp only [if_true]
        exact wpAny_allTrue_And_nil ⟨by rw [hc]; rfl, s₃.heap, _, rfl, fun _ _ e => e⟩
  · exact ldn hn hx ⟨⟨t, rfl⟩, ⟨_, _, rfl, fun _ _ e => e⟩⟩ rfl (hk C) (h1 C)

/-- *xs upon a list -/
theorem star_list {X : Addr} {o : Obj} {vals : List Value} {Q : List Value → Shared → Prop} (I : In w s₀ L m news s) (hx : (X, o) ∈ news) (hlo : LO o vals) (hlen : vals.length ≤ 100000) (h : ∀ s', Keeps s s' → In w s₀ L m news s' → Q vals s') : StarOf (model pg w) A E (.ref X) Q s := by
  have D := (I.nw _ hx).2
  obtain ⟨n, hd⟩ := hlo.2
  have hT' : s.TypeIs (.ref X) "list" := ⟨o, D, hlo.1⟩
  have z : wpAny (model pg w) A (collect (.ref X)) Q E s := by
    refine wpAny_collect_seq X (.inl rfl) D hlo.1 hd (fun h' hk => ?_) (by rw [List.size_toArray, sizeLine_eq]; omega)
    exact h _ ⟨h', s.toks, rfl, hk⟩ (I.on (Nat.le_refl _) hk)
  unfold StarOf notIterableAtAll
  exact wpAny_bind (wpAny_specialOf hT' PySem.F.slot_list_iter.lookup (wpAny_pure ⟨rfl, z⟩))

set_option maxHeartbeats 1000000 in
theorem law_turn {ct d W X : Addr} {oc o oW oX : Obj} {T : List (Nat × List Nat)} {wvals vals : List Value} {fs : List (List Nat)} {scope : Scope} {N : List (Addr × Obj)} {z1 z2 : Str} {k1 k2 k3 k4 k5 : Nat}
    {p1 p2 p3 p4 p5 p6 p7 p8 p9 p10 p11 p12 p13 p14 p15 p16 p17 p18 p19 p20 p21 p22 p23 p24 p25 p26 p27 p28 p29 p30 p31 p32 p33 p34 p35 p36 p37 p38 p39 p40 p41 p42 : Pos}
    (hh : A.handled = none) (hdp : A.depth + 8 < recursionLimit) (hu : A.units + 64 < cLine)
    (I : In w s L (loc l) ((ct, oc) :: N) s) (hoc : oc.data = .cell (some (.ref d))) (hc9 : 92 < ct) (hN16 : ∀ p ∈ N, p.1 ≠ 16) (hdn : (d, o) ∈ N) (hd9 : 92 < d) (hT : TabO w o T) (hC : TC T) (Z : LS s₀ s) (hL0 : s₀.heap.get? L = none)
    (hXn : (X, oX) ∈ N) (hXl : LO oX vals) (hXv : SV vals fs) (hX : l.lookup ("fields" : Str) = some (.ref X))
    (hWn : (W, oW) ∈ N) (hWl : LO oW wvals) (hWv : SV wvals (fs.map (escBy T))) (hW : l.lookup ("writings" : Str) = some (.ref W))
    (hn : fs.length ≤ 100) (hsum : (fs.map List.length).sum ≤ 700) (hesc : ((fs.map (escBy T)).map List.length).sum ≤ 4500)
    (e1 : z1 = S [45]) (e2 : z2 = S [38])
    (q1 : lastOf (plat (fs.map (escBy T))) ≠ [45]) (q2 : (((plat (fs.map (escBy T))).map fun c => [c]).filter fun f => f != [38] && inT T f) = []) (q3 : spl 45 (readT T (plat (fs.map (escBy T)))) = dueL T fs) (q4 : Ok (dueL T fs)) (q5 : (plat (fs.map (escBy T))).length ≤ 5000)
    (hclos : closureFor scope env = pure [(Str.ofString "table", ct)])
    (hL : env.locals = L := by rfl) (hg : env.globals = mainGlobals := by rfl) (hk : env.scope.kind = .function := by rfl) (hct : env.cells.lookup ("table" : Str) = some ct := by rfl)
    (h1 : env.kindOf "writings" = some .local := by rfl) (h2 : env.kindOf "table" = some .cell := by rfl) (h3 : env.kindOf "name" = some .local := by rfl) (h4 : env.kindOf "fields" = some .local := by rfl)
    (h5 : env.kindOf "_platform" = some .globalImplicit := by rfl) (h6 : env.kindOf "_law_read" = some .globalImplicit := by rfl) (h7 : env.kindOf "_law_due" = some .globalImplicit := by rfl)
    (hcell : ∀ y ∈ scope.names, y.2 ≠ .cell := by decide +kernel) (hkind : scope.kind = .function := by rfl)
    (hnames : ∀ y ∈ scope.names, y.2 = .local → scope.names.lookup y.1 = some .local := by decide +kernel) (hx : scope.names.lookup ("sign" : Str) = some .local := by rfl)
    (hk' : ∀ C, (compEnvC scope [("table", ct)] C env).scope.kind = .function := by intro _; rfl) (h1' : ∀ C, (compEnvC scope [("table", ct)] C env).kindOf "sign" = some .local := by intro _; rfl) (h2' : ∀ C, (compEnvC scope [("table", ct)] C env).kindOf "table" = some .cell := by intro _; rfl) :
    wpAny (model pg w) A (execs [
      .Assign [.Name "name" p1] (.Call (.Name "_platform" p2) [.Starred (.Name "writings" p3) p4] [] p5) p6,
      .If (.BoolOp .Or [.Compare (.Subscript (.Name "name" p7) (.Slice (some (.UnaryOp .USub (.Constant (.int 1) k1 p8) p9)) none none p10) p11) [.Eq] [.Constant (.str z1) k2 p12] p13,
        .Compare (.ListComp (.Name "sign" p14) [⟨.Name "sign" p15, .Name "name" p16, [.BoolOp .And [.Compare (.Name "sign" p17) [.NotEq] [.Constant (.str z2) k3 p18] p19, .Compare (.Name "sign" p20) [.In] [.Name "table" p21] p22] p23], 0⟩] scope p24) [.NotEq] [.List [] p25] p26] p27) [.Return (some (.Constant (.bool false) k4 p28)) p29] [] p30,
      .If (.Compare (.Call (.Name "_law_read" p31) [.Name "name" p32, .Name "table" p33] [] p34) [.NotEq] [.Call (.Name "_law_due" p35) [.Name "fields" p36, .Name "table" p37] [] p38] p39) [.Return (some (.Constant (.bool false) k5 p40)) p41] [] p42] env)
      (fun f s₂ => f = .next ∧ (∃ l₂, l₂.lookup ("fields" : Str) = some (.ref X) ∧ In w s₂ L (loc l₂) ((ct, oc) :: N) s₂) ∧ LS s₀ s₂ ∧ (∀ b o, b ≠ 16 → b ≠ L → s.heap.get? b = some o → s₂.heap.get? b = some o)) (fun _ _ => False) s := by
  have hp : (env.scope.kind == .class || (env.scope.kind == .module && env.locals != env.globals)) = false := by rw [hk]; rfl
  subst e1 e2
  refine wpAny_execs_cons (wpAny_Assign_Name ?_)
  refine wpAny_Call_Name_kw (ldg I.gnd (v := .ref 21) rfl ?_ hg hk h5)
  refine callWith_S (K := KF w) I.gnd.k rfl (ldl I hW ?_ hL hk h1)
  have hwl := hWv.length
  rw [List.length_map] at hwl
  refine star_list I (.tail _ hWn) hWl (by omega) fun s₁ hK₁ I₁ => ⟨I₁.gnd.k, ?_⟩
  have Z₁ := Z.keeps hK₁
  refine wpAny_mono (platform (fs := fs.map (escBy T)) I₁.gnd I₁.pos Z₁.bare Z₁.tab (by rw [List.length_map]; exact hwl) (fun i hi => hWv.get i hi) (by rw [List.length_map]; exact hn) (by omega) hh hdp) (fun v s₂ h₂ => ?_) fun _ _ x => x.elim
  obtain ⟨⟨a1, a2, a3, a4, a5, a6⟩, tn, rfl⟩ := h₂
  have I₂ : In w s₂ L (loc l) ((ct, oc) :: N) s₂ := I₁.rebase16n a6 a3 (fun p hp => by
    rcases List.mem_cons.mp hp with rfl | hp
    · exact fun z => by have hz := hc9; rw [show ct = 16 from z] at hz; exact absurd hz (by decide)
    · exact hN16 p hp)
  have Z₂ : LS s₀ s₂ := ⟨a1.trans Z₁.os, a2, a4, fun b o hb e => a6 b o hb (Z₁.old b o hb e)⟩
  have hk₂ : ∀ b o, b ≠ 16 → s.heap.get? b = some o → s₂.heap.get? b = some o := fun b o hb e => by
    obtain ⟨h', tk, rfl, hkk⟩ := hK₁
    exact a6 b o hb (hkk b o e)
  generalize hname : plat (fs.map (escBy T)) = name at *
  refine st I₂ (fun s₃ I => ?_) hL h3 hp
  have lk : (put "name" (.str (S name) tn) l).lookup ("name" : Str) = some (.str (S name) tn) := lookup_put ..
  have lf : (put "name" (.str (S name) tn) l).lookup ("fields" : Str) = some (.ref X) := by rw [lookup_put_ne _ _ (by decide)]; exact hX
  refine wpAny_execs_cons (wpAny_If ?_)
  refine wpAny_isTrue_BoolOp (wpAny_allTrue_Or_cons (wpAny_isTrue_Compare1 ?_))
  refine ev_last I lk (by omega) (fun t₄ s₄ I => ?_) hL hk h3
  refine ldc I fun t₅ s₅ _ _ I => ?_
  refine P.eq_str (wpAny_truthy_bool ?_)
  rw [S_list, S_list]
  rw [show (name.drop (name.length - 1) == [45]) = false by simpa [lastOf] using q1]
  simp only [Bool.false_eq_true, if_false]
  refine wpAny_allTrue_Or_cons (wpAny_isTrue_Compare1 ?_)
  refine lc_str (cs := name) (cl := [("table", ct)]) (fun f => f != [38] && inT T f) id hh I (fun Q' hq => ldl I lk (hq _ _ I) hL hk h3) (by omega) (fun s₁ I => ?_) (fun D ys ne s₆ hys I => ?_) hclos hcell hkind hnames hx
  · exact lq_signs I (.head _) hoc (.tail _ hdn) hd9 hT rfl hk' h1' h2'
  rw [q2] at hys
  refine List_ (wpAny_items_nil ?_)
  refine new_list I (by show 0 ≤ 100000; omega) fun D2 s₇ hD2 _ hk₇ I => ?_
  refine ne_texts (ns := []) (ms := []) (LO.isList (vals := ys) ⟨rfl, ne, rfl⟩ (I.nw _ (.tail _ (.head _))).2) (LO.isList (vals := []) ⟨rfl, 0, rfl⟩ (I.nw _ (.head _)).2) hys trivial hu (fun _ h => nomatch h) (fun _ h => nomatch h) (wpAny_truthy_bool ?_)
  simp only [decide_true, Bool.not_true, Bool.false_eq_true, if_false]
  refine wpAny_allTrue_Or_nil ?_
  simp only [Bool.false_eq_true, if_false]
  refine wpAny_execs_nil ?_
  have I := I.forget (news' := (ct, oc) :: N) fun p hp => .tail _ (.tail _ hp)
  refine wpAny_execs_cons (wpAny_If (wpAny_isTrue_Compare1 ?_))
  refine ev_call (a := 87) I.gnd ?_ (hg := hg) (hk := hk) (hx := h6)
  refine spliced_cons (ldl I lk ?_ hL hk h3)
  refine spliced_cons (ldcell I (.head _) hoc ?_ hct hk h2)
  refine spliced_nil ⟨I.gnd, ?_⟩
  refine wpAny_with_toks (n := s₇.toks) (Nat.le_refl _) (wpAny_mono (law_read (T := T) I.gnd I.pos (I.nw _ (.tail _ hdn)).2 hT hC hd9 (by omega) A hh hdp (by omega)) (fun v s₈ h₈ ht₈ => ?_) fun _ _ x => x.elim)
  obtain ⟨hK₈, D3, rvals, rfl, hl3, hv3⟩ := h₈
  have I := I.keeps hK₈ ht₈
  obtain ⟨o3, ho3, hlo3⟩ := LO.of hl3
  have I := I.more ho3 (ns_not_list I.ns hl3)
  refine ev_call (a := 82) I.gnd ?_ (hg := hg) (hk := hk) (hx := h7)
  refine spliced_cons (ldl I lf ?_ hL hk h4)
  refine spliced_cons (ldcell I (.tail _ (.head _)) hoc ?_ hct hk h2)
  refine spliced_nil ⟨I.gnd, ?_⟩
  refine wpAny_with_toks (n := s₈.toks) (Nat.le_refl _) (wpAny_mono (law_due (T := T) I.gnd I.pos (hXl.isList (I.nw _ (.tail _ (.tail _ hXn))).2) hXv (I.nw _ (.tail _ (.tail _ hdn))).2 hT hd9 (by omega) (by omega) A hh hdp (by omega)) (fun v s₉ h₉ ht₉ => ?_) fun _ _ x => x.elim)
  obtain ⟨hK₉, D4, dvals, rfl, hl4, hv4⟩ := h₉
  have I := I.keeps hK₉ ht₉
  rw [q3] at hv3
  refine ne_texts (hlo3.isList (I.nw _ (.head _)).2) hl4 hv3 hv4 hu q4 q4 (wpAny_truthy_bool ?_)
  simp only [decide_true, Bool.not_true, Bool.false_eq_true, if_false]
  refine wpAny_execs_nil (wpAny_execs_nil ?_)
  have I := I.forget (news' := (ct, oc) :: N) fun p hp => .tail _ hp
  exact ⟨rfl, ⟨_, lf, I.anew⟩, Z₂.frame hL0 I, fun b o h1 h2 e => I.keep b o h2 (hk₂ b o h1 e)⟩
end
end
end Mine

end PartM26

section PartM27
open PySem PySem.W PyProof.Rows PySem.Calls
set_option Elab.async false
set_option maxRecDepth 100000
namespace Mine
noncomputable section

def mid : List Int := [22, 21, 3, 16, 7, 22, 1, 2, 18, 4, 23, 15, 5, 20, 12, 23, 6, 17, 0, 21]
def nums (ns : List Int) : List Int := ns.take 7 ++ mid ++ (ns.drop 7).take 7
theorem nums_le (ns : List Int) : (nums ns).length ≤ 34 := by
  have h1 : (ns.take 7).length ≤ 7 := List.length_take_le ..
  have h2 : ((ns.drop 7).take 7).length ≤ 7 := List.length_take_le ..
  unfold nums
  rw [List.length_append, List.length_append]
  have h3 : mid.length = 20 := rfl
  omega
theorem slice_mid (items : Array Value) : slicePick items (some 7) (some 14) none = ((items.toList.drop 7).take 7).toArray := by
  rw [slicePick_plain]
  simp only [Option.elim]
  have e1 : clipAt items.size 7 = min 7 items.size := clipAt_nat _ 7
  have e2 : clipAt items.size 14 = min 14 items.size := clipAt_nat _ 14
  rw [e1, e2]
  congr 1
  rcases Nat.le_total 7 items.size with h | h
  · rw [Nat.min_eq_left h]
    rcases Nat.le_total 14 items.size with h' | h'
    · rw [Nat.min_eq_left h']
    · rw [Nat.min_eq_right h', List.take_of_length_le (by simp), List.take_of_length_le (by simp; omega)]
  · rw [Nat.min_eq_right h, List.drop_of_length_le (by simp), List.drop_of_length_le (by simpa using h)]; simp

inductive IConsts : List Expr → List Int → Prop
  | nil : IConsts [] []
  | cons {n : Int} {k : Nat} {p : Pos} {r : List Expr} {ns : List Int} : IConsts r ns → IConsts (.Constant (.int n) k p :: r) (n :: ns)
section
variable {A : Around} {E : Value → Shared → Prop} {w : World} {s₀ : Shared} {L : Addr} {l : List (Str × Value)} {m : Str → Option Value} {news : List (Addr × Obj)} {env : Env}
theorem items_ints0 {M : Model} {pos : Pos} {elts : List Expr} {ns : List Int} (hc : IConsts elts ns) : ∀ {s : Shared} {Q : List Value → Shared → Prop}, In w s₀ L m news s →
    (∀ vs s', IntsAre vs ns → In w s₀ L m news s' → Q vs s') → wpAny M A (spliced (backTo pos (starEach elts env))) Q E s := by
  induction hc with
  | nil => intro s Q I h; exact wpAny_items_nil (h [] s .nil I)
  | cons hr ih =>
    intro s Q I h
    refine wpAny_items_cons (wpAny_Constant_int ?_)
    exact ih (I.tok (Nat.le_succ _)) fun vs s' hv I' => h _ _ (.cons _ _ hv) I'
theorem items_ints {M : Model} {pos : Pos} {elts : List Expr} (ns : List Int) {s : Shared} {Q : List Value → Shared → Prop} (I : In w s₀ L m news s) (h : ∀ vs s', IntsAre vs ns → In w s₀ L m news s' → Q vs s') (hc : IConsts elts ns) :
    wpAny M A (spliced (backTo pos (starEach elts env))) Q E s := items_ints0 hc I h

theorem ev_upto {s : Shared} {y : Str} {D : Addr} {o : Obj} {vals : List Value} {k : Nat} {p1 p2 p4 p5 : Pos} {Q : Value → Shared → Prop} (I : In w s₀ L (loc l) news s) (hv : l.lookup y = some (.ref D)) (hdn : (D, o) ∈ news) (hlo : LO o vals) (hlen : vals.length ≤ 100000)
    (h : ∀ X s', In w s₀ L (loc l) ((X, { cls := .type "list", data := .seq (vals.take 7).toArray }) :: news) s' → Q (.ref X) s')
    (hL : env.locals = L := by rfl) (hk : env.scope.kind = .function := by rfl) (hl : env.kindOf y = some .local := by rfl) (hd : (y == ("__debug__" : Str)) = false := by decide) :
    wpAny (model pg w) A (eval (.Subscript (.Name y p1) (.Slice none (some (.Constant (.int 7) k p2)) none p4) p5) env) Q E s := by
  refine wpAny_Subscript_list_slice (ldl I hv ?_ hL hk hl hd)
  refine evalPart_none_step (evalPart_some_step (wpAny_Constant_int ?_))
  have hl' := hlo.isList (I.nw _ hdn).2
  refine ⟨D, vals.toArray, none, some 7, rfl, hl', by rw [List.size_toArray, sizeLine_eq]; omega, .none, .int 7 _, ?_⟩
  have e : slicePick vals.toArray none (some 7) none = (vals.take 7).toArray := by
    have := slicePick_upto' vals.toArray 7
    simpa using this
  rw [e, ← Heap.size_push s.heap { cls := .type "slice", data := .fields #[.none, .int 7 s.toks, .none] }]
  have I₂ := I.on (k := s.toks + 1) (h' := s.heap.push { cls := .type "slice", data := .fields #[.none, .int 7 s.toks, .none] }) (Nat.le_succ _) fun b o e => Heap.get?_push_of_some _ e
  exact h _ _ (I₂.push { cls := .type "list", data := .seq (vals.take 7).toArray })
theorem ev_mid {s : Shared} {y : Str} {D : Addr} {o : Obj} {vals : List Value} {k k2 : Nat} {p1 p2 p3 p4 p5 : Pos} {Q : Value → Shared → Prop} (I : In w s₀ L (loc l) news s) (hv : l.lookup y = some (.ref D)) (hdn : (D, o) ∈ news) (hlo : LO o vals) (hlen : vals.length ≤ 100000)
    (h : ∀ X s', In w s₀ L (loc l) ((X, { cls := .type "list", data := .seq ((vals.drop 7).take 7).toArray }) :: news) s' → Q (.ref X) s')
    (hL : env.locals = L := by rfl) (hk : env.scope.kind = .function := by rfl) (hl : env.kindOf y = some .local := by rfl) (hd : (y == ("__debug__" : Str)) = false := by decide) :
    wpAny (model pg w) A (eval (.Subscript (.Name y p1) (.Slice (some (.Constant (.int 7) k p2)) (some (.Constant (.int 14) k2 p3)) none p4) p5) env) Q E s := by
  refine wpAny_Subscript_list_slice (ldl I hv ?_ hL hk hl hd)
  refine evalPart_some_step (wpAny_Constant_int ?_)
  refine evalPart_some_step (wpAny_Constant_int ?_)
  have hl' := hlo.isList (I.nw _ hdn).2
  refine ⟨D, vals.toArray, some 7, some 14, rfl, hl', by rw [List.size_toArray, sizeLine_eq]; omega, .int 7 _, .int 14 _, ?_⟩
  have e : slicePick vals.toArray (some 7) (some 14) none = ((vals.drop 7).take 7).toArray := slice_mid _
  rw [e]
  have I₂ := I.on (k := s.toks + 1 + 1) (h' := s.heap.push { cls := .type "slice", data := .fields #[.int 7 s.toks, .int 14 (s.toks + 1), .none] }) (Nat.le_succ_of_le (Nat.le_succ _)) fun b o e => Heap.get?_push_of_some _ e
  have I₃ := I₂.push { cls := .type "list", data := .seq ((vals.drop 7).take 7).toArray }
  have hz : (s.heap.push { cls := .type "slice", data := .fields #[.int 7 s.toks, .int 14 (s.toks + 1), .none] }).objs.size = s.heap.objs.size + 1 := Heap.size_push ..
  simp only [hz] at I₃
  exact h _ _ I₃
end

/-- a code's entry, for a def with cells and one parameter, a local -/
theorem enterK {w : World} {A : Around} {s : Shared} {a : Addr} {v : Value} {x : Str} {body : List Stmt} {R : Result → Shared → Prop}
    (G : Gnd w s.heap) (hroom : A.depth < recursionLimit)
    (hbody : (fdAt w a).body = .stmts body) (hbind : bindArgs (fdAt w a) ⟨[v], []⟩ = pure [(x, v)]) (hclo : (fdAt w a).closure = []) (hx : (fdAt w a).scope.names.lookup x = some .local)
    (h : ∀ s₁ L, L = s.heap.objs.size → s.heap.get? L = none → In w { s with toks := s.toks + 1 } L (loc [(x, v)]) [] s₁ →
      (∀ n c, (callEnvC (fdAt w a) L a).cells.lookup n = some c → s₁.heap.IsCell c none) →
      wpAny (model pg w) (A.deeper (callEnvC (fdAt w a) L a)) (execs body (callEnvC (fdAt w a) L a)) (fun f s' => R (.ok (.ret (match f with | .ret v => v | _ => .none))) s') (fun _ _ => False) s₁)
    (ho : ∃ c d sl, (KF w).lookup a = some ⟨c, d, .func (fdAt w a), sl⟩ := by exact ⟨_, _, _, rfl⟩)
    (hcd : codeIn (KF w) (fdAt w a).code (fdAt w a).qualname = true := by rfl)
    (hco : (fdAt w a).scope.isCoroutine = false := by rfl) (hgen : (fdAt w a).scope.isGenerator = false := by rfl) (hk : (fdAt w a).scope.kind = .function := by rfl) :
    codeAny (model pg w) A (.call (.ref a) ⟨[v], []⟩) R s := by
  obtain ⟨c, d, sl, ho⟩ := ho
  refine codeAny_call_function hroom (G.k a _ ho) rfl hco hgen hbody (codeRec_of G.k hcd) ?_
  rw [hbind, hclo]
  refine wpAny_pure ?_
  simp only [newFunctionEnv, Option.isSome_none, Bool.false_eq_true, if_false]
  refine wpAny_bind (wpAny_alloc ?_)
  refine wpAny_bind (wpAny_layCells _ (fun name kind cells => by cases hkc : kind == NameKind.cell <;> simp) _ _ _ _ ?_)
  have ok := cellsFrom_ok (fdAt w a).scope.names (s.heap.push { cls := .type "frame", data := .dict #[] }) (s.heap.objs.size + 1) [] ⟨fun _ _ hm => (nomatch hm), List.Pairwise.nil⟩ (by rw [Heap.size_push]; exact Nat.le_refl _)
  rw [Heap.size_push] at ok
  rw [show ({ s with heap := s.heap.push { cls := .type "frame", data := .dict #[] } } : Shared).heap.objs.size = s.heap.objs.size + 1 from Heap.size_push ..]
  have hns : (pushCells (s.heap.push { cls := .type "frame", data := .dict #[] }) (fdAt w a).scope.names).Ns s.heap.objs.size (fun _ => none) := (Heap.Ns.new s.heap (.type "frame")).keeps (pushCells_keeps _ _)
  have hkp : ∀ b o, s.heap.get? b = some o → (pushCells (s.heap.push { cls := .type "frame", data := .dict #[] }) (fdAt w a).scope.names).get? b = some o := fun b o e => pushCells_keeps _ _ b o (Heap.get?_push_of_some _ e)
  generalize pushCells (s.heap.push { cls := .type "frame", data := .dict #[] }) (fdAt w a).scope.names = H at ok hns hkp ⊢
  simp only [List.forIn_cons, List.forIn_nil]
  refine wpAny_bind (wpAny_bind (wpAny_bind ?_))
  have hpc : ((callEnvC (fdAt w a) s.heap.objs.size a).scope.kind == .class || ((callEnvC (fdAt w a) s.heap.objs.size a).scope.kind == .module && (callEnvC (fdAt w a) s.heap.objs.size a).locals != (callEnvC (fdAt w a) s.heap.objs.size a).globals)) = false := by
    have e : (callEnvC (fdAt w a) s.heap.objs.size a).scope.kind = .function := hk
    rw [e]; rfl
  refine wpAny_storeName_local (env := callEnvC (fdAt w a) s.heap.objs.size a) hx hns (fun h' hn hs => ?_) hpc
  refine wpAny_pure (wpAny_pure (wpAny_pure ?_))
  have kp : ∀ b o, s.heap.get? b = some o → h'.get? b = some o := fun b o e => hs.extBut b o (Nat.ne_of_lt (Heap.lt_size e)) (hkp b o e)
  have e : (fun y => if y = x then some v else (fun _ => none : Str → Option Value) y) = loc [(x, v)] := loc_put x v []
  rw [e] at hn
  have hI : In w { s with toks := s.toks + 1 } s.heap.objs.size (loc [(x, v)]) [] { s with heap := h', toks := s.toks + 1 } :=
    ⟨⟨h', _, rfl⟩, fun b o _ e => kp b o e, hn, G.keeps kp, G.size, Nat.le_refl _, Nat.succ_pos _, fun p hp => nomatch hp⟩
  refine ⟨G.c.keeps kp, codeAny_func (wpAny_mono (h _ _ rfl (fresh_at (Nat.le_refl _)) hI ?_) (fun f s' h' => h') (fun _ _ x => x.elim))⟩
  intro n c hc
  have := ok.empty n c (mem_of_lookup hc)
  exact this.1.sameBut hs (Nat.ne_of_gt this.2)
end
end Mine

end PartM27

section PartM28
open PySem PySem.W PyProof.Rows PySem.Calls
set_option Elab.async false
set_option maxRecDepth 100000
namespace Mine
noncomputable section

/-- the plain law, at one table -/
structure PL (T : List (Nat × List Nat)) (fs : List (List Nat)) : Prop where
  q1 : lastOf (plat (fs.map (escBy T))) ≠ [45]
  q2 : (((plat (fs.map (escBy T))).map fun c => [c]).filter fun f => f != [38] && inT T f) = []
  q3 : spl 45 (readT T (plat (fs.map (escBy T)))) = dueL T fs
  q4 : Ok (dueL T fs)
  q5 : (plat (fs.map (escBy T))).length ≤ 5000
  q6 : ((fs.map (escBy T)).map List.length).sum ≤ 4500
  q7 : TC T

theorem In.apart {w : World} {s₀ s : Shared} {L c D : Addr} {m : Str → Option Value} {news : List (Addr × Obj)} {o16 oc : Obj} (I : In w s₀ L m news s) (h16 : s₀.heap.get? 16 = some o16) (hc : (c, oc) ∈ news) (hf : s.heap.get? D = none) : D ≠ 16 ∧ D ≠ c ∧ D ≠ L := by
  have hL : (16 : Addr) ≠ L := fun z => by have := I.lo; rw [← z] at this; exact absurd this (by decide)
  refine ⟨fun z => ?_, fun z => ?_, fun z => ?_⟩
  · rw [z, I.keep 16 o16 hL h16] at hf; cases hf
  · rw [z, (I.nw _ hc).2] at hf; cases hf
  · obtain ⟨o, _, _, ho, _⟩ := I.ns
    rw [z, ho] at hf; cases hf
theorem zip_apart (k l1 l2 : Nat) (h1 : l1 < k) (h2 : l2 < k) : ZipApart (k + 4) (k + 2) (k + 3) k (k + 1) l1 l2 := by
  constructor <;> (intro e; have e' : (_ : Nat) = _ := e; omega)
theorem filter_all (fs : List (List Nat)) : fs.filter (fun _ => true) = fs := List.filter_eq_self.mpr fun _ _ => rfl

set_option maxHeartbeats 2000000 in
theorem law_walk {w : World} {s : Shared} {Sc : Addr} {svals : List Value} {ns : List Int} {R : Result → Shared → Prop} (G : Gnd w s.heap) (hg : AllBare s.gens) (hTab : Tab s.heap) (hS : s.heap.IsList Sc svals.toArray) (hI : IntsAre svals ns) (hlen : ns.length ≤ 63)
    (hp : ∀ T ∈ TS, PL T (fieldsL (nums ns))) (hfs : (fieldsL (nums ns)).length ≤ 100 ∧ ((fieldsL (nums ns)).map List.length).sum ≤ 700)
    (hR : ∀ s', LS s s' → R (.ok (.ret (.bool true))) s') : codeAny (model pg w) callerA (.call (.ref 92) ⟨[.ref Sc], []⟩) R s := by
  obtain ⟨oS, hSo, hSl⟩ := LO.of hS
  refine enterK (x := "script") G (by decide) rfl rfl rfl rfl fun s₁ L hLe hL I hcell => ?_
  have hSL : Sc ≠ L := fun z => by rw [z, hL] at hSo; cases hSo
  obtain ⟨oc, hoc, hocd⟩ := hcell "table" (L + 1) rfl
  have I : In w { s with toks := s.toks + 1 } L (loc [("script", .ref Sc)]) [(L + 1, oc), (Sc, oS)] s₁ := (I.more (I.keep _ _ hSL hSo) hSL).more hoc (Nat.ne_of_gt (Nat.lt_succ_self _))
  generalize hA : callerA.deeper (callEnvC (fdAt w 92) L 92) = A
  have hh : A.handled = none := by rw [← hA]; rfl
  have hdp : A.depth + 8 < recursionLimit := by rw [← hA]; show callerA.depth + 1 + 8 < 1000; decide
  have hu : A.units + 64 < cLine := by rw [← hA]; show callerA.units + 3 + 64 < 9900; decide
  clear hA
  have hsl := hI.length
  obtain ⟨o16, h16⟩ : ∃ o, s.heap.get? 16 = some o := by
    obtain ⟨ps, ⟨o, vs, file, tf, flags, tg, inF, text, tt, op, a, r1, r2, r3, r4, r5, r6, b, r⟩, _⟩ := hTab
    exact ⟨_, b⟩
  refine wpAny_execs_cons (wpAny_Assign_Name ?_)
  refine ev_call (a := 77) I.gnd ?_
  refine spliced_cons (wpAny_BinOp (wpAny_BinOp ?_))
  refine ev_upto I rfl (.tail _ (.head _)) hSl (by omega) fun X1 s₂ I => ?_
  refine List_ ?_
  with_reducible refine items_ints mid I (fun mv s₃ hmv I => ?_) ?_
  rotate_left
  · repeat (first | exact IConsts.nil | refine IConsts.cons ?_)
  refine new_list I (by rw [hmv.length]; show 20 ≤ 100000; omega) fun X2 s₄ _ _ _ I => ?_
  have hmvl := hmv.length
  have hml : mid.length = 20 := rfl
  refine P.add_list (items := (svals.take 7).toArray) (items2 := mv.toArray) (n := 0) (n2 := 0) (I.nw _ (.tail _ (.head _))).2 (I.nw _ (.head _)).2 ?_ (by rw [List.size_toArray, List.size_toArray, sizeLine_eq, List.length_take]; omega)
  have I := I.push { cls := .type "list", data := .seq ((svals.take 7).toArray ++ mv.toArray) }
  refine ev_mid I rfl (.tail _ (.tail _ (.tail _ (.tail _ (.head _))))) hSl (by omega) fun X4 s₅ I => ?_
  refine P.add_list (items := (svals.take 7).toArray ++ mv.toArray) (items2 := ((svals.drop 7).take 7).toArray) (n := 0) (n2 := 0) (I.nw _ (.tail _ (.head _))).2 (I.nw _ (.head _)).2 ?_ (by rw [Array.size_append, List.size_toArray, List.size_toArray, List.size_toArray, sizeLine_eq, List.length_take, List.length_take]; omega)
  have I := I.push { cls := .type "list", data := .seq ((svals.take 7).toArray ++ mv.toArray ++ ((svals.drop 7).take 7).toArray) }
  refine spliced_nil ⟨I.gnd, ?_⟩
  have hN : (s₅.heap.push { cls := .type "list", data := .seq ((svals.take 7).toArray ++ mv.toArray ++ ((svals.drop 7).take 7).toArray) }).IsList s₅.heap.objs.size (svals.take 7 ++ mv ++ (svals.drop 7).take 7).toArray := by
    refine ⟨_, (I.nw _ (.head _)).2, rfl, 0, ?_⟩
    simp
  have hNI : IntsAre (svals.take 7 ++ mv ++ (svals.drop 7).take 7) (nums ns) := ((hI.take 7).append hmv).append ((hI.drop 7).take 7)
  have I := I.forget (news' := [(L + 1, oc)]) fun p hp => by rw [List.mem_singleton.mp hp]; exact .tail _ (.tail _ (.tail _ (.tail _ (.tail _ (.head _)))))
  refine wpAny_with_toks (Nat.le_refl _) (wpAny_mono (law_fields I.gnd I.pos hN hNI (Nat.le_trans (nums_le ns) (by decide)) A hh hdp (by omega)) (fun v s₆ h₆ ht₆ => ?_) fun _ _ x => x.elim)
  obtain ⟨hK₆, X, vals, rfl, hXf, ⟨ne, hXp⟩, hXv⟩ := h₆
  have rX := I.apart h16 (.head _) hXf
  have I := I.keeps hK₆ ht₆
  have hXl : LO { cls := .type "list", data := .seq vals.toArray ne } vals := ⟨rfl, ne, rfl⟩
  have I := I.more hXp (ns_not_list I.ns (hXl.isList hXp))
  refine st I fun s₇ I => ?_
  have hle : ∀ x ∈ fieldsL (nums ns), x.length ≤ 10000 := fun x hx => by have := mem_le_sum hx; omega
  refine wpAny_execs_cons (wpAny_Assign_Name ?_)
  refine List_ ?_
  refine wpAny_items_cons ?_
  refine lc_list (cl := []) (X := X) (fun _ => true) (escBy T1) hh I (fun Q' hq => ldl I rfl hq) (hXl.isList (I.nw _ (.head _)).2) hXv (by omega) (lq_esc (a := 35) I hh hdp (by omega) (fun s x t G h hx => esc1 G h hx) hle) (fun D1 y1 n1 s1' hf1 hy1 I' => ?_) rfl
  have r1 := I.apart h16 (.tail _ (.head _)) hf1
  have I := I'
  clear I'
  rw [filter_all] at hy1
  refine wpAny_items_cons ?_
  refine lc_list (cl := []) (X := X) (fun _ => true) (escBy T2) hh I (fun Q' hq => ldl I rfl hq) (hXl.isList (I.nw _ (.tail _ (.head _))).2) hXv (by omega) (lq_esc (a := 42) I hh hdp (by omega) (fun s x t G h hx => esc2 G h hx) hle) (fun D2 y2 n2 s2' hf2 hy2 I' => ?_) rfl
  have r2 := I.apart h16 (.tail _ (.tail _ (.head _))) hf2
  have I := I'
  clear I'
  rw [filter_all] at hy2
  refine wpAny_items_cons ?_
  refine lc_list (cl := []) (X := X) (fun _ => true) (escBy T3) hh I (fun Q' hq => ldl I rfl hq) (hXl.isList (I.nw _ (.tail _ (.tail _ (.head _)))).2) hXv (by omega) (lq_esc (a := 49) I hh hdp (by omega) (fun s x t G h hx => esc3 G h hx) hle) (fun D3 y3 n3 s3' hf3 hy3 I' => ?_) rfl
  have r3 := I.apart h16 (.tail _ (.tail _ (.tail _ (.head _)))) hf3
  have I := I'
  clear I'
  rw [filter_all] at hy3
  refine wpAny_items_cons ?_
  refine lc_list (cl := []) (X := X) (fun _ => true) (escBy T4) hh I (fun Q' hq => ldl I rfl hq) (hXl.isList (I.nw _ (.tail _ (.tail _ (.tail _ (.head _))))).2) hXv (by omega) (lq_esc (a := 56) I hh hdp (by omega) (fun s x t G h hx => esc4 G h hx) hle) (fun D4 y4 n4 s4' hf4 hy4 I' => ?_) rfl
  have r4 := I.apart h16 (.tail _ (.tail _ (.tail _ (.tail _ (.head _))))) hf4
  have I := I'
  clear I'
  rw [filter_all] at hy4
  refine wpAny_items_cons ?_
  refine lc_list (cl := []) (X := X) (fun _ => true) (escBy T5) hh I (fun Q' hq => ldl I rfl hq) (hXl.isList (I.nw _ (.tail _ (.tail _ (.tail _ (.tail _ (.head _)))))).2) hXv (by omega) (lq_esc (a := 63) I hh hdp (by omega) (fun s x t G h hx => esc5 G h hx) hle) (fun D5 y5 n5 s5' hf5 hy5 I' => ?_) rfl
  have r5 := I.apart h16 (.tail _ (.tail _ (.tail _ (.tail _ (.tail _ (.head _)))))) hf5
  have I := I'
  clear I'
  rw [filter_all] at hy5
  refine wpAny_items_nil ?_
  refine new_list I (by show 5 ≤ 100000; omega) fun Wr s₈ _ hWe _ I' => ?_
  have rW := I.fresh (Nat.le_of_eq hWe.symm)
  have I := I'
  clear I'
  refine st I fun s₉ I => ?_
  refine wpAny_execs_cons (wpAny_For ?_)
  refine wpAny_Call_Name_kw (ldb (v := .type "zip") I.gnd rfl rfl ?_)
  refine PySem.callWith_type rfl (evalArgs_plain (spliced_cons ?_))
  refine ldl I rfl ?_
  refine spliced_cons ?_
  refine ev_call0 (a := 70) I.gnd ?_
  refine wpAny_with_toks (Nat.le_refl _) (wpAny_mono (law_tables I.gnd I.pos A hh hdp (by omega)) (fun v s₁₀ h₁₀ ht₁₀ => ?_) fun _ _ x => x.elim)
  obtain ⟨hK₁₀, Tb, d1, d2, d3, d4, d5, o1, o2, o3, o4, o5, rfl, hTbf, ⟨nT, hTb⟩, t1, t2, t3, t4, t5, g1, g2, g3, g4, g5, gf⟩ := h₁₀
  have rd : ∀ d ∈ [Tb, d1, d2, d3, d4, d5], (d ≠ 16 ∧ d ≠ L + 1 ∧ d ≠ L) ∧ 92 < d := fun d hd => ⟨I.apart h16 (.tail _ (.tail _ (.tail _ (.tail _ (.tail _ (.tail _ (.tail _ (.head _)))))))) (gf d hd).1, (gf d hd).2⟩
  have I := I.keeps hK₁₀ ht₁₀
  refine spliced_nil ?_
  have hWl := (I.nw _ (.head _)).2
  refine call_zip_2 (xs := [.ref D1, .ref D2, .ref D3, .ref D4, .ref D5].toArray) (ys := #[.ref d1, .ref d2, .ref d3, .ref d4, .ref d5]) ⟨_, hWl, rfl, 0, rfl⟩ ⟨_, hTb, rfl, nT, rfl⟩ fun h' z1 z2 z3 z4 z5 z6 hkz => ?_
  have hWlt : Wr < s₁₀.heap.objs.size := Heap.lt_size hWl
  have hTlt : Tb < s₁₀.heap.objs.size := Heap.lt_size hTb
  have hsz10 := I.gnd.size
  have hLlt : L < s₁₀.heap.objs.size := I.ns.lt
  have hclt : L + 1 < s₁₀.heap.objs.size := Heap.lt_size (I.nw _ (.tail _ (.tail _ (.tail _ (.tail _ (.tail _ (.tail _ (.tail _ (.head _))))))))).2
  have J := I.on (Nat.le_refl _) hkz
  have Z : LS s { s₁₀ with heap := h' } := LS.frame (s := { s with toks := s.toks + 1 }) ⟨rfl, hg, hTab, fun _ _ _ e => e⟩ hL J
  refine wpAny_pyIter_zip z1 ?_
  have hcN := (J.nw _ (.tail _ (.tail _ (.tail _ (.tail _ (.tail _ (.tail _ (.tail _ (.head _)))))))))
  have K : In w { s₁₀ with heap := h' } L _ ((L + 1, oc) :: (d1, o1) :: (d2, o2) :: (d3, o3) :: (d4, o4) :: (d5, o5) :: (D1, { cls := .type "list", data := .seq y1.toArray n1 }) :: (D2, { cls := .type "list", data := .seq y2.toArray n2 }) :: (D3, { cls := .type "list", data := .seq y3.toArray n3 }) ::
      (D4, { cls := .type "list", data := .seq y4.toArray n4 }) :: (D5, { cls := .type "list", data := .seq y5.toArray n5 }) :: [(X, { cls := .type "list", data := .seq vals.toArray ne })]) { s₁₀ with heap := h' } :=
    (((((((J.anew.forget (news' := (D1, { cls := .type "list", data := .seq y1.toArray n1 }) :: (D2, { cls := .type "list", data := .seq y2.toArray n2 }) :: (D3, { cls := .type "list", data := .seq y3.toArray n3 }) ::
      (D4, { cls := .type "list", data := .seq y4.toArray n4 }) :: (D5, { cls := .type "list", data := .seq y5.toArray n5 }) :: [(X, { cls := .type "list", data := .seq vals.toArray ne })]) (fun p hp => by
        simp only [List.mem_cons, List.not_mem_nil, or_false] at hp ⊢
        rcases hp with rfl | rfl | rfl | rfl | rfl | rfl <;> simp)).more (hkz _ _ g5) (rd d5 (by simp)).1.2.2).more (hkz _ _ g4) (rd d4 (by simp)).1.2.2).more (hkz _ _ g3) (rd d3 (by simp)).1.2.2).more (hkz _ _ g2) (rd d2 (by simp)).1.2.2).more (hkz _ _ g1) (rd d1 (by simp)).1.2.2).more hcN.2 hcN.1)
  have hNall : ∀ p ∈ ((d1, o1) :: (d2, o2) :: (d3, o3) :: (d4, o4) :: (d5, o5) :: (D1, ({ cls := .type "list", data := .seq y1.toArray n1 } : Obj)) :: (D2, { cls := .type "list", data := .seq y2.toArray n2 }) :: (D3, { cls := .type "list", data := .seq y3.toArray n3 }) ::
      (D4, { cls := .type "list", data := .seq y4.toArray n4 }) :: (D5, { cls := .type "list", data := .seq y5.toArray n5 }) :: [(X, { cls := .type "list", data := .seq vals.toArray ne })]), p.1 ≠ 16 ∧ p.1 ≠ L + 1 := by
    intro p hp
    simp only [List.mem_cons, List.not_mem_nil, or_false] at hp
    rcases hp with rfl | rfl | rfl | rfl | rfl | rfl | rfl | rfl | rfl | rfl | rfl
    · exact ⟨(rd d1 (by simp)).1.1, (rd d1 (by simp)).1.2.1⟩
    · exact ⟨(rd d2 (by simp)).1.1, (rd d2 (by simp)).1.2.1⟩
    · exact ⟨(rd d3 (by simp)).1.1, (rd d3 (by simp)).1.2.1⟩
    · exact ⟨(rd d4 (by simp)).1.1, (rd d4 (by simp)).1.2.1⟩
    · exact ⟨(rd d5 (by simp)).1.1, (rd d5 (by simp)).1.2.1⟩
    · exact ⟨r1.1, r1.2.1⟩
    · exact ⟨r2.1, r2.2.1⟩
    · exact ⟨r3.1, r3.2.1⟩
    · exact ⟨r4.1, r4.2.1⟩
    · exact ⟨r5.1, r5.2.1⟩
    · exact ⟨rX.1, rX.2.1⟩
  have hN16 := fun p hp => (hNall p hp).1
  have hNlt : ∀ p ∈ ((d1, o1) :: (d2, o2) :: (d3, o3) :: (d4, o4) :: (d5, o5) :: (D1, ({ cls := .type "list", data := .seq y1.toArray n1 } : Obj)) :: (D2, { cls := .type "list", data := .seq y2.toArray n2 }) :: (D3, { cls := .type "list", data := .seq y3.toArray n3 }) ::
      (D4, { cls := .type "list", data := .seq y4.toArray n4 }) :: (D5, { cls := .type "list", data := .seq y5.toArray n5 }) :: [(X, { cls := .type "list", data := .seq vals.toArray ne })]), p.1 < s₁₀.heap.objs.size := by
    intro p hp
    simp only [List.mem_cons, List.not_mem_nil, or_false] at hp
    rcases hp with rfl | rfl | rfl | rfl | rfl | rfl | rfl | rfl | rfl | rfl | rfl
    · exact Heap.lt_size g1
    · exact Heap.lt_size g2
    · exact Heap.lt_size g3
    · exact Heap.lt_size g4
    · exact Heap.lt_size g5
    all_goals exact Heap.lt_size (I.nw _ (by simp)).2
  have new : ∀ b : Nat, s₁₀.heap.objs.size ≤ b → b ≠ L ∧ b ≠ L + 1 ∧ 92 < b ∧ s.heap.get? b = none := fun b hb =>
    ⟨Nat.ne_of_gt (Nat.lt_of_lt_of_le hLlt hb), Nat.ne_of_gt (Nat.lt_of_lt_of_le hclt hb), Nat.lt_of_lt_of_le hsz10 hb, (I.fresh hb).1⟩
  refine for_zip (s₀ := s) (cT := L + 1) (oc := oc) (X := .ref X) (n := 5) (xs := [.ref D1, .ref D2, .ref D3, .ref D4, .ref D5]) (ys := [.ref d1, .ref d2, .ref d3, .ref d4, .ref d5]) hh (zip_apart _ _ _ hWlt hTlt) rfl rfl K hocd rfl Z ?_ ?_ ?_ (Nat.lt_succ_of_lt I.lo) (fun p hp => (hNall p hp).2) hL ⟨z1, z2, ⟨_, _, z3⟩, z4, z5, ?_, ?_⟩ ?_ ?_
  · intro b hb
    simp only [List.mem_cons, List.not_mem_nil, or_false] at hb
    rcases hb with rfl | rfl | rfl | rfl | rfl | rfl | rfl
    · exact ⟨(new _ (Nat.le_add_right _ _)).1, (new _ (Nat.le_add_right _ _)).2.1, (new _ (Nat.le_add_right _ _)).2.2.1⟩
    · exact ⟨(new _ (Nat.le_add_right _ _)).1, (new _ (Nat.le_add_right _ _)).2.1, (new _ (Nat.le_add_right _ _)).2.2.1⟩
    · exact ⟨(new _ (Nat.le_add_right _ _)).1, (new _ (Nat.le_add_right _ _)).2.1, (new _ (Nat.le_add_right _ _)).2.2.1⟩
    · exact ⟨(new _ (Nat.le_refl _)).1, (new _ (Nat.le_refl _)).2.1, (new _ (Nat.le_refl _)).2.2.1⟩
    · exact ⟨(new _ (Nat.le_add_right _ _)).1, (new _ (Nat.le_add_right _ _)).2.1, (new _ (Nat.le_add_right _ _)).2.2.1⟩
    · exact ⟨rW.2.2.1, (rW.2.2.2 (L + 1, oc) (by simp)).symm, rW.2.1⟩
    · exact ⟨(rd _ (.head _)).1.2.2, (rd _ (.head _)).1.2.1, (rd _ (.head _)).2⟩
  · intro b hb
    have hbs : s₁₀.heap.objs.size ≤ b := by
      simp only [List.mem_cons, List.not_mem_nil, or_false] at hb
      rcases hb with rfl | rfl | rfl | rfl
      · exact Nat.le_add_right _ _
      · exact Nat.le_add_right _ _
      · exact Nat.le_refl _
      · exact Nat.le_add_right _ _
    exact ⟨(new b hbs).2.2.2, fun p hp => Nat.ne_of_lt (Nat.lt_of_lt_of_le (hNlt p hp) hbs)⟩
  · rw [hLe]; exact fresh_at (Nat.le_succ _)
  · exact ⟨_, hkz _ _ hWl, rfl, 0, rfl⟩
  · exact ⟨_, hkz _ _ hTb, rfl, nT, rfl⟩
  · intro i x y l₁ oc₁ s₁ hi hx hy hX₁ hW₁ I₁ hoc₁ Z₁
    have hi5 : i = 0 ∨ i = 1 ∨ i = 2 ∨ i = 3 ∨ i = 4 := by omega
    rcases hi5 with rfl | rfl | rfl | rfl | rfl
    · obtain rfl : Value.ref D1 = x := by simpa using hx
      obtain rfl : Value.ref d1 = y := by simpa using hy
      have P := hp T1 (by simp [TS])
      exact law_turn (T := T1) (d := d1) (o := o1) (wvals := y1) (vals := vals) (fs := fieldsL (nums ns)) hh hdp hu I₁ hoc₁ (Nat.lt_succ_of_lt I.lo) hN16 (.head _) (rd d1 (by simp)).2 t1 P.q7 Z₁ hL (.tail _ (.tail _ (.tail _ (.tail _ (.tail _ (.tail _ (.tail _ (.tail _ (.tail _ (.tail _ (.head _))))))))))) hXl hXv hX₁ (.tail _ (.tail _ (.tail _ (.tail _ (.tail _ (.head _)))))) ⟨rfl, n1, rfl⟩ hy1 hW₁ hfs.1 hfs.2 P.q6 (by decide +kernel) (by decide +kernel) P.q1 P.q2 P.q3 P.q4 P.q5 rfl
    · obtain rfl : Value.ref D2 = x := by simpa using hx
      obtain rfl : Value.ref d2 = y := by simpa using hy
      have P := hp T2 (by simp [TS])
      exact law_turn (T := T2) (d := d2) (o := o2) (wvals := y2) (vals := vals) (fs := fieldsL (nums ns)) hh hdp hu I₁ hoc₁ (Nat.lt_succ_of_lt I.lo) hN16 (.tail _ (.head _)) (rd d2 (by simp)).2 t2 P.q7 Z₁ hL (.tail _ (.tail _ (.tail _ (.tail _ (.tail _ (.tail _ (.tail _ (.tail _ (.tail _ (.tail _ (.head _))))))))))) hXl hXv hX₁ (.tail _ (.tail _ (.tail _ (.tail _ (.tail _ (.tail _ (.head _))))))) ⟨rfl, n2, rfl⟩ hy2 hW₁ hfs.1 hfs.2 P.q6 (by decide +kernel) (by decide +kernel) P.q1 P.q2 P.q3 P.q4 P.q5 rfl
    · obtain rfl : Value.ref D3 = x := by simpa using hx
      obtain rfl : Value.ref d3 = y := by simpa using hy
      have P := hp T3 (by simp [TS])
      exact law_turn (T := T3) (d := d3) (o := o3) (wvals := y3) (vals := vals) (fs := fieldsL (nums ns)) hh hdp hu I₁ hoc₁ (Nat.lt_succ_of_lt I.lo) hN16 (.tail _ (.tail _ (.head _))) (rd d3 (by simp)).2 t3 P.q7 Z₁ hL (.tail _ (.tail _ (.tail _ (.tail _ (.tail _ (.tail _ (.tail _ (.tail _ (.tail _ (.tail _ (.head _))))))))))) hXl hXv hX₁ (.tail _ (.tail _ (.tail _ (.tail _ (.tail _ (.tail _ (.tail _ (.head _)))))))) ⟨rfl, n3, rfl⟩ hy3 hW₁ hfs.1 hfs.2 P.q6 (by decide +kernel) (by decide +kernel) P.q1 P.q2 P.q3 P.q4 P.q5 rfl
    · obtain rfl : Value.ref D4 = x := by simpa using hx
      obtain rfl : Value.ref d4 = y := by simpa using hy
      have P := hp T4 (by simp [TS])
      exact law_turn (T := T4) (d := d4) (o := o4) (wvals := y4) (vals := vals) (fs := fieldsL (nums ns)) hh hdp hu I₁ hoc₁ (Nat.lt_succ_of_lt I.lo) hN16 (.tail _ (.tail _ (.tail _ (.head _)))) (rd d4 (by simp)).2 t4 P.q7 Z₁ hL (.tail _ (.tail _ (.tail _ (.tail _ (.tail _ (.tail _ (.tail _ (.tail _ (.tail _ (.tail _ (.head _))))))))))) hXl hXv hX₁ (.tail _ (.tail _ (.tail _ (.tail _ (.tail _ (.tail _ (.tail _ (.tail _ (.head _))))))))) ⟨rfl, n4, rfl⟩ hy4 hW₁ hfs.1 hfs.2 P.q6 (by decide +kernel) (by decide +kernel) P.q1 P.q2 P.q3 P.q4 P.q5 rfl
    · obtain rfl : Value.ref D5 = x := by simpa using hx
      obtain rfl : Value.ref d5 = y := by simpa using hy
      have P := hp T5 (by simp [TS])
      exact law_turn (T := T5) (d := d5) (o := o5) (wvals := y5) (vals := vals) (fs := fieldsL (nums ns)) hh hdp hu I₁ hoc₁ (Nat.lt_succ_of_lt I.lo) hN16 (.tail _ (.tail _ (.tail _ (.tail _ (.head _))))) (rd d5 (by simp)).2 t5 P.q7 Z₁ hL (.tail _ (.tail _ (.tail _ (.tail _ (.tail _ (.tail _ (.tail _ (.tail _ (.tail _ (.tail _ (.head _))))))))))) hXl hXv hX₁ (.tail _ (.tail _ (.tail _ (.tail _ (.tail _ (.tail _ (.tail _ (.tail _ (.tail _ (.head _)))))))))) ⟨rfl, n5, rfl⟩ hy5 hW₁ hfs.1 hfs.2 P.q6 (by decide +kernel) (by decide +kernel) P.q1 P.q2 P.q3 P.q4 P.q5 rfl
  · intro l₁ oc₁ s₁ I₁ Z₁
    exact wpAny_execs_cons (wpAny_Return_some (wpAny_Constant_bool (hR s₁ Z₁)))
end
end Mine

end PartM28

section PartP3
open PySem
set_option Elab.async false
set_option maxRecDepth 100000
namespace Mine

/-- what _platform puts for a sign -/
def sb (c : Nat) : Nat := if c = 32 then 95 else if c ∈ [47, 92, 58, 59, 34, 40, 41] then 45 else c
theorem rep1_map (c z : Nat) (x : List Nat) : rep1 c [z] x = x.map fun a => if a = c then z else a := by
  induction x with
  | nil => rfl
  | cons a r ih =>
    unfold rep1 at ih ⊢
    rw [List.flatMap_cons, List.map_cons, ih]
    split <;> rfl
theorem subs_map (x : List Nat) : subs x = x.map sb := by
  unfold subs
  simp only [rep1_map, List.map_map]
  apply List.map_congr_left
  intro c _
  simp only [Function.comp]
  by_cases h1 : c = 32
  · subst h1; decide
  by_cases h2 : c = 47
  · subst h2; decide
  by_cases h3 : c = 92
  · subst h3; decide
  by_cases h4 : c = 58
  · subst h4; decide
  by_cases h5 : c = 59
  · subst h5; decide
  by_cases h6 : c = 34
  · subst h6; decide
  by_cases h7 : c = 40
  · subst h7; decide
  by_cases h8 : c = 41
  · subst h8; decide
  simp [sb, h1, h2, h3, h4, h5, h6, h7, h8]

theorem dw_flat (p q : Nat → Bool) (e : Nat → List Nat) : ∀ f : List Nat, (∀ c ∈ f, (q c = true → e c = [c] ∧ p c = true) ∧ (q c = false → ∃ a r, e c = a :: r ∧ p a = false)) → (f.flatMap e).dropWhile p = (f.dropWhile q).flatMap e
  | [], _ => rfl
  | c :: r, h => by
    have hc := h c (.head _)
    cases hq : q c with
    | true =>
      obtain ⟨h1, h2⟩ := hc.1 hq
      rw [List.flatMap_cons, h1, List.dropWhile_cons, hq, if_pos rfl]
      show (c :: r.flatMap e).dropWhile p = _
      rw [List.dropWhile_cons, h2, if_pos rfl]
      exact dw_flat p q e r fun c hc => h c (.tail _ hc)
    | false =>
      obtain ⟨a, t, h1, h2⟩ := hc.2 hq
      rw [List.dropWhile_cons, hq, if_neg Bool.false_ne_true, List.flatMap_cons, h1]
      show (a :: (t ++ r.flatMap e)).dropWhile p = _
      rw [List.dropWhile_cons, h2, if_neg Bool.false_ne_true]
      rfl
theorem mem_dropWhile {q : Nat → Bool} {c : Nat} : ∀ {f : List Nat}, c ∈ f.dropWhile q → c ∈ f
  | [], h => h
  | a :: r, h => by
    rw [List.dropWhile_cons] at h
    split at h
    · exact .tail _ (mem_dropWhile h)
    · exact h
theorem strp_flat (p q : Nat → Bool) (e : Nat → List Nat) (f : List Nat) (h : ∀ c ∈ f, (q c = true → e c = [c] ∧ p c = true) ∧ (q c = false → (∃ a r, e c = a :: r ∧ p a = false) ∧ ∃ a r, (e c).reverse = a :: r ∧ p a = false)) :
    strp p (f.flatMap e) = (strp q f).flatMap e := by
  unfold strp
  rw [dw_flat p q e f fun c hc => ⟨(h c hc).1, fun hq => ((h c hc).2 hq).1⟩]
  have rv : ∀ l : List Nat, (l.flatMap e).reverse = l.reverse.flatMap fun c => (e c).reverse := by
    intro l
    rw [List.reverse_flatMap]; rfl
  rw [rv, dw_flat p q (fun c => (e c).reverse) (f.dropWhile q).reverse fun c hc => ?_]
  · have rv2 : ∀ l : List Nat, (l.flatMap fun c => (e c).reverse).reverse = l.reverse.flatMap e := by
      intro l
      rw [List.reverse_flatMap]
      congr 1
      funext c
      simp
    rw [rv2]
  · have hc' : c ∈ f := mem_dropWhile (List.mem_reverse.mp hc)
    refine ⟨fun hq => ⟨by rw [((h c hc').1 hq).1]; rfl, ((h c hc').1 hq).2⟩, fun hq => ((h c hc').2 hq).2⟩

theorem jn_flat (e : Nat → List Nat) (he : e 45 = [45]) : ∀ l : List (List Nat), jn [45] (l.map fun f => f.flatMap e) = (jn [45] l).flatMap e
  | [] => rfl
  | [f] => rfl
  | f :: g :: r => by
    have ih := jn_flat e he (g :: r)
    simp only [List.map_cons, jn] at ih ⊢
    rw [ih, List.flatMap_append, List.flatMap_append]
    show _ = _ ++ [45].flatMap e ++ _
    rw [List.flatMap_cons, he]; rfl
end Mine

end PartP3

section PartP4
open PySem
set_option Elab.async false
set_option maxRecDepth 100000
namespace Mine

/-- how a sign is written -/
def ex (T : List (Nat × List Nat)) (c : Nat) : List Nat := (T.lookup c).getD [c]
/-- how a sign is told in the name -/
def rf (T : List (Nat × List Nat)) (c : Nat) : List Nat := match T.lookup c with
  | some z => cut z ++ [45]
  | none => [c]
/-- how a sign of the row comes into the name, before hyphens fall together -/
def img (T : List (Nat × List Nat)) (c : Nat) : List Nat := (ex T c).map sb

/-- what the proof asks of a table -/
structure GT (T : List (Nat × List Nat)) : Prop where
  ref : ∀ p ∈ T, ∃ b, p.2 = 38 :: b ++ [59] ∧ b.length ≤ 5 ∧ (∀ c ∈ b, c ≠ 38 ∧ c ≠ 45 ∧ T.lookup c = none) ∧ (38 :: b ++ [59]).map sb = 38 :: b ++ [45] ∧ lookR T (38 :: b) = [p.1]
  amp : (T.lookup 38).isSome = true
  no : ∀ c ∈ [45, 95, 32, 47, 92, 58, 59, 40, 41, 117, 110, 107, 111, 119], T.lookup c = none
  keys : ∀ p ∈ T, p.1 ∈ [38, 60, 62, 34, 13, 10, 9]

theorem lookup_in : ∀ {T : List (Nat × List Nat)} {c : Nat} {z : List Nat}, T.lookup c = some z → (c, z) ∈ T
  | (k, v) :: T, c, z, h => by
    rw [List.lookup_cons] at h
    split at h
    · rename_i e
      cases h
      obtain rfl := eq_of_beq e
      exact .head _
    · exact .tail _ (lookup_in h)

section
variable {T : List (Nat × List Nat)} (G : GT T)
include G
/-- a key, and the body of its reference -/
theorem GT.key {c : Nat} {z : List Nat} (h : T.lookup c = some z) : ∃ b, z = 38 :: b ++ [59] ∧ b.length ≤ 5 ∧ (∀ a ∈ b, a ≠ 38 ∧ a ≠ 45 ∧ T.lookup a = none) ∧ img T c = 38 :: b ++ [45] ∧ rf T c = 38 :: b ++ [45] ∧ lookR T (38 :: b) = [c] ∧ cut z = 38 :: b := by
  obtain ⟨b, h1, h2, h3, h4, h5⟩ := G.ref (c, z) (lookup_in h)
  simp only at h1 h5
  have hc : cut z = 38 :: b := by
    rw [h1]; unfold cut
    simp
  refine ⟨b, h1, h2, h3, ?_, ?_, h5, hc⟩
  · unfold img ex; rw [h, h1]; exact h4
  · unfold rf; rw [h]; simp only; rw [hc]
theorem GT.plain {c : Nat} (h : T.lookup c = none) : ex T c = [c] ∧ img T c = [sb c] ∧ rf T c = [c] := by
  unfold img ex rf; rw [h]; exact ⟨rfl, rfl, rfl⟩

/-- an image has no start of «unknown» but in the plain -/
theorem rpl_pass : ∀ (s R : List Nat), s.length ≤ 7 → (s ≠ [] → s.getLast? = some 45) → rpl uk [] (s ++ R) = s ++ rpl uk [] R
  | [], _, _, _ => rfl
  | a :: s, R, h1, h2 => by
    have hl := h2 (by simp)
    have hp : uk.isPrefixOf (a :: (s ++ R)) = false := by
      cases e : uk.isPrefixOf (a :: (s ++ R)) with
      | false => rfl
      | true =>
        have hpre : uk <+: (a :: s) ++ R := List.isPrefixOf_iff_prefix.mp e
        have hs : (a :: s) <+: (a :: s) ++ R := List.prefix_append ..
        have hle : (a :: s).length ≤ uk.length := h1
        have hin := List.prefix_of_prefix_length_le hs hpre hle
        have hm : (45 : Nat) ∈ uk := hin.subset (List.mem_of_getLast? hl)
        exact absurd hm (by decide)
    show rpl uk [] (a :: (s ++ R)) = _
    rw [rpl_miss _ _ _ _ hp]
    have ih := rpl_pass s R (Nat.le_of_succ_le h1) (fun hs => by
      cases s with
      | nil => exact absurd rfl hs
      | cons b t => rw [List.getLast?_cons_cons] at hl; exact hl)
    rw [ih]; rfl

theorem img_head (c : Nat) : (c ∈ uk → img T c = [c]) ∧ (c ∉ uk → ∃ a r, img T c = a :: r ∧ a ∉ uk) := by
  constructor
  · intro h
    have hn : T.lookup c = none := G.no c (by
      simp only [uk, List.mem_cons, List.not_mem_nil, or_false] at h
      rcases h with rfl | rfl | rfl | rfl | rfl | rfl | rfl <;> decide)
    rw [(G.plain hn).2.1]
    have : sb c = c := by
      simp only [uk, List.mem_cons, List.not_mem_nil, or_false] at h
      rcases h with rfl | rfl | rfl | rfl | rfl | rfl | rfl <;> decide
    rw [this]
  · intro h
    cases e : T.lookup c with
    | some z =>
      obtain ⟨b, _, _, _, h4, _⟩ := G.key e
      exact ⟨38, _, by rw [h4]; rfl, by decide⟩
    | none =>
      refine ⟨sb c, [], (G.plain e).2.1, ?_⟩
      unfold sb
      split
      · decide
      · split
        · decide
        · exact h

theorem img_prefix : ∀ (y r : List Nat), (∀ a ∈ y, a ∈ uk) → y.isPrefixOf (r.flatMap (img T)) = y.isPrefixOf r
  | [], r, _ => by simp
  | a :: y, [], _ => by simp
  | a :: y, c :: r, h => by
    have ha := h a (.head _)
    by_cases hc : c ∈ uk
    · rw [List.flatMap_cons, (img_head G c).1 hc]
      show ((a == c) && y.isPrefixOf (r.flatMap (img T))) = ((a == c) && y.isPrefixOf r)
      rw [img_prefix y r fun b hb => h b (.tail _ hb)]
    · obtain ⟨b, t, e, hb⟩ := (img_head G c).2 hc
      rw [List.flatMap_cons, e]
      show ((a == b) && y.isPrefixOf (t ++ r.flatMap (img T))) = ((a == c) && y.isPrefixOf r)
      have h1 : (a == b) = false := by simpa using fun z : a = b => hb (z ▸ ha)
      have h2 : (a == c) = false := by simpa using fun z : a = c => hc (z ▸ ha)
      rw [h1, h2, Bool.false_and, Bool.false_and]

theorem rpl_img : ∀ (n : Nat) (r : List Nat), r.length ≤ n → rpl uk [] (r.flatMap (img T)) = (rpl uk [] r).flatMap (img T)
  | _, [], _ => by simp [rpl_nil]
  | 0, _ :: _, h => by simp at h
  | n + 1, c :: r, h => by
    have hlen : r.length ≤ n := by simpa using h
    cases hp : uk.isPrefixOf (c :: r) with
    | true =>
      have hp' := hp
      rw [← img_prefix G uk (c :: r) fun a ha => ha] at hp'
      obtain ⟨t, ht⟩ := List.isPrefixOf_iff_prefix.mp hp
      have hfl : (c :: r).flatMap (img T) = uk ++ t.flatMap (img T) := by
        rw [← ht, List.flatMap_append]
        congr 1
        have : ∀ l : List Nat, (∀ a ∈ l, a ∈ uk) → l.flatMap (img T) = l := by
          intro l hl
          induction l with
          | nil => rfl
          | cons a l ih => rw [List.flatMap_cons, (img_head G a).1 (hl a (.head _)), ih fun b hb => hl b (.tail _ hb)]; rfl
        exact this uk fun a ha => ha
      rw [rpl_hit _ _ _ (by decide) hp' (by rw [hfl]; exact fun z => by simp [uk] at z), rpl_hit _ _ _ (by decide) hp (by simp), List.nil_append, List.nil_append, hfl, ← ht]
      rw [List.drop_left' rfl, List.drop_left' rfl]
      refine rpl_img n t ?_
      have : (uk ++ t).length = (c :: r).length := by rw [ht]
      rw [List.length_append] at this
      have hu : uk.length = 7 := rfl
      simp only [List.length_cons] at this
      omega
    | false =>
      rw [rpl_miss _ _ _ _ hp, List.flatMap_cons, List.flatMap_cons, ← rpl_img n r hlen]
      cases e : T.lookup c with
      | some z =>
        obtain ⟨b, _, h2, _, h4, _⟩ := G.key e
        rw [h4]
        exact rpl_pass G _ _ (by simp; omega) (fun _ => List.getLast?_concat)
      | none =>
        have hp' := hp
        rw [← img_prefix G uk (c :: r) fun a ha => ha, List.flatMap_cons, (G.plain e).2.1] at hp'
        rw [(G.plain e).2.1]
        show rpl uk [] (sb c :: r.flatMap (img T)) = _
        have hp2 : uk.isPrefixOf (sb c :: r.flatMap (img T)) = false := hp'
        rw [rpl_miss _ _ _ _ hp2]
        rfl
end
end Mine

end PartP4

section PartP5
open PySem
set_option Elab.async false
set_option maxRecDepth 100000
set_option linter.unusedSectionVars false
namespace Mine

theorem coll_ne : ∀ {r : List Nat}, r ≠ [] → coll r ≠ []
  | [], h => absurd rfl h
  | a :: r, _ => by
    have := coll_head (a :: r)
    intro e
    rw [e] at this
    simp at this
theorem coll_snoc (a : Nat) : ∀ x : List Nat, coll (x ++ [a]) = if a = 45 ∧ (coll x).getLast? = some 45 then coll x else coll x ++ [a]
  | [] => by
    have h1 : coll [a] = [a] := by simp [coll]
    have h0 : coll [] = [] := rfl
    rw [List.nil_append, h1, h0]
    simp
  | [b] => by
    have h1 : coll [b] = [b] := by simp [coll]
    have ha : coll [a] = [a] := by simp [coll]
    have h2 : coll [b, a] = if b = 45 ∧ a = 45 then [a] else [b, a] := by
      conv => lhs; unfold coll
      simp only [List.head?_cons, Option.some.injEq, ha]
    show coll [b, a] = _
    rw [h2, h1]
    by_cases hb : b = 45
    · by_cases ha : a = 45
      · subst hb ha; simp
      · simp [ha]
    · simp [hb]
  | b :: d :: t => by
    have ih := coll_snoc a (d :: t)
    have e1 : coll (b :: d :: t) = if b = 45 ∧ d = 45 then coll (d :: t) else b :: coll (d :: t) := by
      conv => lhs; unfold coll
      simp only [List.head?_cons, Option.some.injEq]
    have e2 : coll (b :: ((d :: t) ++ [a])) = if b = 45 ∧ d = 45 then coll ((d :: t) ++ [a]) else b :: coll ((d :: t) ++ [a]) := by
      conv => lhs; unfold coll
      simp only [List.cons_append, List.head?_cons, Option.some.injEq]
    show coll (b :: ((d :: t) ++ [a])) = _
    rw [e1, e2]
    by_cases h : b = 45 ∧ d = 45
    · rw [if_pos h, if_pos h]; exact ih
    · rw [if_neg h, if_neg h, ih]
      have hl : (b :: coll (d :: t)).getLast? = (coll (d :: t)).getLast? := by
        cases e : coll (d :: t) with
        | nil => exact absurd e (coll_ne (by simp))
        | cons x y => rw [List.getLast?_cons_cons]
      rw [hl]
      split <;> simp
theorem coll_free : ∀ (w x : List Nat), (∀ a ∈ w, a ≠ 45) → coll (x ++ w) = coll x ++ w
  | [], x, _ => by simp
  | a :: w, x, h => by
    have e : x ++ a :: w = (x ++ [a]) ++ w := by simp
    rw [e, coll_free w (x ++ [a]) fun b hb => h b (.tail _ hb), coll_snoc, if_neg (fun z => h a (.head _) z.1)]
    simp

theorem lastOf_snoc (t : List Nat) (a : Nat) : lastOf (t ++ [a]) = [a] := by unfold lastOf; simp
theorem snoc_cases (u : List Nat) : u = [] ∨ ∃ t a, u = t ++ [a] := by
  rcases List.eq_nil_or_concat u with h | ⟨t, a, h⟩
  · exact .inl h
  · exact .inr ⟨t, a, by rw [h, List.concat_eq_append]⟩

section
variable {T : List (Nat × List Nat)} (G : GT T)
include G
theorem rf_hyphen : rf T 45 = [45] := (G.plain (G.no 45 (by decide))).2.2
theorem last_rf (told : List Nat) : (told.flatMap (rf T)).getLast? = some 45 ↔ (lastOf told = [45] ∨ inT T (lastOf told) = true) := by
  rcases snoc_cases told with rfl | ⟨t, a, rfl⟩
  · simp [lastOf, inT]
  · rw [lastOf_snoc, List.flatMap_append]
    have e : [a].flatMap (rf T) = rf T a := by simp
    rw [e]
    show _ ↔ ([a] = [45] ∨ (T.lookup a).isSome = true)
    cases h : T.lookup a with
    | some z =>
      obtain ⟨b, _, _, _, _, h5, _⟩ := G.key h
      rw [h5, ← List.append_assoc, List.getLast?_concat]
      simp
    | none =>
      rw [(G.plain h).2.2]
      simp

theorem coll_step {X told : List Nat} (c : Nat) (h : coll X = told.flatMap (rf T)) : coll (X ++ img T c) = (dueStep T told c).flatMap (rf T) := by
  unfold dueStep
  by_cases h1 : c ∉ [45, 47, 92, 58, 59, 40, 41] ∧ (c ≠ 34 ∨ inT T [c] = true)
  · rw [if_pos h1]
    cases hl : T.lookup c with
    | some z =>
      obtain ⟨b, _, _, h3, h4, h5, _⟩ := G.key hl
      have hc32 : c ≠ 32 := fun z => by rw [z, G.no 32 (by decide)] at hl; cases hl
      rw [if_neg hc32, h4, List.flatMap_append, ← h]
      have e : [c].flatMap (rf T) = rf T c := by simp
      rw [e, h5, ← List.append_assoc, coll_snoc, coll_free (38 :: b) X (fun a ha => by
        rcases List.mem_cons.mp ha with rfl | ha
        · decide
        · exact (h3 a ha).2.1)]
      rw [if_neg ?_, List.append_assoc]
      rintro ⟨_, hl2⟩
      have hm : (45 : Nat) ∈ (38 :: b) := by
        rw [List.getLast?_append] at hl2
        cases e2 : (38 :: b).getLast? with
        | none => simp at e2
        | some x =>
          rw [e2] at hl2
          simp only [Option.some_or, Option.some.injEq] at hl2
          subst hl2
          exact List.mem_of_getLast? e2
      rcases List.mem_cons.mp hm with hm | hm
      · exact absurd hm (by decide)
      · exact (h3 45 hm).2.1 rfl
    | none =>
      have hq : c ≠ 34 := by
        rcases h1.2 with h | h
        · exact h
        · have : (T.lookup c).isSome = true := h
          rw [hl] at this; cases this
      rw [(G.plain hl).2.1]
      have hsb : sb c = if c = 32 then 95 else c := by
        unfold sb
        split
        · rfl
        · rw [if_neg]
          intro hm
          have := h1.1
          simp only [List.mem_cons, List.not_mem_nil, or_false, not_or] at hm this
          omega
      rw [hsb, List.flatMap_append, ← h]
      by_cases h32 : c = 32
      · rw [if_pos h32, if_pos h32]
        have e : [95].flatMap (rf T) = [95] := by simp [(G.plain (G.no 95 (by decide))).2.2]
        rw [e, coll_free [95] X (fun a ha => by rw [List.mem_singleton.mp ha]; decide)]
      · rw [if_neg h32, if_neg h32]
        have e : [c].flatMap (rf T) = [c] := by simp [(G.plain hl).2.2]
        rw [e, coll_free [c] X (fun a ha => by
          rw [List.mem_singleton.mp ha]
          exact fun z => h1.1 (by rw [z]; decide))]
  · rw [if_neg h1]
    have hl : T.lookup c = none := by
      by_cases hm : c ∈ [45, 47, 92, 58, 59, 40, 41]
      · refine G.no c ?_
        simp only [List.mem_cons, List.not_mem_nil, or_false] at hm ⊢
        omega
      · cases e : T.lookup c with
        | none => rfl
        | some z => exact absurd ⟨hm, .inr (show (T.lookup c).isSome = true by rw [e]; rfl)⟩ h1
    have him : img T c = [45] := by
      rw [(G.plain hl).2.1]
      have : sb c = 45 := by
        unfold sb
        by_cases hm : c ∈ [45, 47, 92, 58, 59, 40, 41]
        · simp only [List.mem_cons, List.not_mem_nil, or_false] at hm
          rcases hm with rfl | rfl | rfl | rfl | rfl | rfl | rfl <;> decide
        · have : c = 34 := by
            by_cases h34 : c = 34
            · exact h34
            · exact absurd ⟨hm, .inl h34⟩ h1
          subst this; decide
      rw [this]
    rw [him, coll_snoc, h]
    have hiff := last_rf G told
    by_cases hlast : (told.flatMap (rf T)).getLast? = some 45
    · rw [if_pos ⟨rfl, hlast⟩, if_neg]
      rintro ⟨n1, n2⟩
      rcases hiff.mp hlast with e | e
      · exact n1 e
      · rw [e] at n2; cases n2
    · have h3 : inT T (lastOf told) = false := by
        cases e : inT T (lastOf told) with
        | false => rfl
        | true => exact absurd (hiff.mpr (.inr e)) hlast
      rw [if_neg (fun z => hlast z.2), if_pos ⟨fun z => hlast (hiff.mpr (.inl z)), h3⟩, List.flatMap_append]
      simp [rf_hyphen G]

theorem coll_fold : ∀ (R X told : List Nat), coll X = told.flatMap (rf T) → coll (X ++ R.flatMap (img T)) = (R.foldl (dueStep T) told).flatMap (rf T)
  | [], X, told, h => by simpa using h
  | c :: R, X, told, h => by
    rw [List.flatMap_cons, ← List.append_assoc]
    exact coll_fold R _ _ (coll_step G c h)

/-- no end right behind an end, or behind a reference -/
def Apart (T : List (Nat × List Nat)) (told : List Nat) : Prop := ∀ t, told = t ++ [45] → (t.flatMap (rf T)).getLast? ≠ some 45
theorem apart_step {told : List Nat} (c : Nat) (h : Apart T told) : Apart T (dueStep T told c) := by
  unfold dueStep
  by_cases h1 : c ∉ [45, 47, 92, 58, 59, 40, 41] ∧ (c ≠ 34 ∨ inT T [c] = true)
  · rw [if_pos h1]
    intro t e
    by_cases h32 : c = 32
    · rw [if_pos h32] at e
      have := (List.append_inj' e rfl).2
      exact absurd this (by decide)
    · rw [if_neg h32] at e
      have := (List.append_inj' e rfl).2
      have hc : c = 45 := by simpa using this
      exact absurd (show c ∈ [45, 47, 92, 58, 59, 40, 41] by rw [hc]; decide) h1.1
  · rw [if_neg h1]
    by_cases h2 : lastOf told ≠ [45] ∧ inT T (lastOf told) = false
    · rw [if_pos h2]
      intro t e
      have := (List.append_inj' e rfl).1
      subst this
      intro hl
      rcases (last_rf G told).mp hl with e | e
      · exact h2.1 e
      · rw [e] at h2; exact absurd h2.2 (by decide)
    · rw [if_neg h2]; exact h
theorem apart_fold : ∀ (R told : List Nat), Apart T told → Apart T (R.foldl (dueStep T) told)
  | [], _, h => h
  | c :: R, told, h => apart_fold R _ (apart_step G c h)
end
end Mine

end PartP5

section PartP6
open PySem
set_option Elab.async false
set_option maxRecDepth 100000
set_option linter.unusedSectionVars false
namespace Mine

theorem unt_id {y : List Nat} (h : y.getLast? ≠ some 45) : unt y = y := by
  rcases snoc_cases y with rfl | ⟨t, a, rfl⟩
  · rfl
  · rw [unt_snoc, if_neg]
    intro e
    rw [e, List.getLast?_concat] at h
    exact h rfl
theorem unt_last : ∀ (n : Nat) (y : List Nat), y.length ≤ n → lastOf (unt y) ≠ [45]
  | n, y, h => by
    rcases snoc_cases y with rfl | ⟨t, a, rfl⟩
    · decide
    · rw [unt_snoc]
      by_cases e : a = 45
      · rw [if_pos e]
        cases n with
        | zero => simp at h
        | succ n => exact unt_last n t (by simp at h; omega)
      · rw [if_neg e, lastOf_snoc]
        simpa using e
theorem unt_sub {c : Nat} : ∀ (n : Nat) (y : List Nat), y.length ≤ n → c ∈ unt y → c ∈ y
  | n, y, h, hc => by
    rcases snoc_cases y with rfl | ⟨t, a, rfl⟩
    · exact hc
    · rw [unt_snoc] at hc
      by_cases e : a = 45
      · rw [if_pos e] at hc
        cases n with
        | zero => simp at h
        | succ n => exact List.mem_append_left _ (unt_sub n t (by simp at h; omega) hc)
      · rw [if_neg e] at hc; exact hc

/-- the name of what is told -/
def Nm (T : List (Nat × List Nat)) : List Nat → List Nat
  | [] => []
  | [a] => match T.lookup a with
    | some z => cut z
    | none => [a]
  | a :: b :: r => rf T a ++ Nm T (b :: r)
theorem Nm_snoc (T : List (Nat × List Nat)) (a : Nat) : ∀ t : List Nat, Nm T (t ++ [a]) = t.flatMap (rf T) ++ Nm T [a]
  | [] => rfl
  | [b] => by simp [Nm]
  | b :: c :: t => by
    have ih := Nm_snoc T a (c :: t)
    show rf T b ++ Nm T (c :: (t ++ [a])) = _
    rw [List.flatMap_cons, List.append_assoc]
    congr 1

theorem spl_cons_ne {c k : Nat} {x a : List Nat} {r : List (List Nat)} (h : k ≠ c) (e : spl c x = a :: r) : spl c (k :: x) = (k :: a) :: r := by
  unfold spl; rw [if_neg h, e]
theorem spl_free_app {c : Nat} : ∀ {w x a : List Nat} {r : List (List Nat)}, (∀ k ∈ w, k ≠ c) → spl c x = a :: r → spl c (w ++ x) = (w ++ a) :: r
  | [], _, _, _, _, e => e
  | k :: w, x, a, r, h, e => spl_cons_ne (h k (.head _)) (spl_free_app (w := w) (fun b hb => h b (.tail _ hb)) e)

section
variable {T : List (Nat × List Nat)} (G : GT T)
include G

theorem step_key {k : Nat} {b acc rest : List Nat} (h3 : ∀ a ∈ b, a ≠ 38 ∧ a ≠ 45 ∧ T.lookup a = none) (hl : lookR T (38 :: b) = [k]) : readStep T acc (b ++ 45 :: rest) = acc ++ [k] ++ rest ∧ readStep T acc b = acc ++ [k] := by
  have t1 : (b ++ 45 :: rest).takeWhile (· != 45) = b := by
    rw [List.takeWhile_append_of_pos (fun a ha => by simpa using (h3 a ha).2.1)]
    simp
  have t2 : (b ++ 45 :: rest).dropWhile (· != 45) = 45 :: rest := by
    rw [List.dropWhile_append_of_pos (fun a ha => by simpa using (h3 a ha).2.1)]
    simp
  have t3 : b.takeWhile (· != 45) = b := by
    have := List.takeWhile_append_of_pos (p := (· != 45)) (l₁ := b) (l₂ := []) (fun a ha => by simpa using (h3 a ha).2.1)
    simpa using this
  have t4 : b.dropWhile (· != 45) = [] := by
    have := List.dropWhile_append_of_pos (p := (· != 45)) (l₁ := b) (l₂ := []) (fun a ha => by simpa using (h3 a ha).2.1)
    simpa using this
  unfold readStep
  rw [t1, t2, t3, t4, hl]
  exact ⟨by simp, by simp⟩

theorem read_back : ∀ (u acc a : List Nat) (r : List (List Nat)), spl 38 (Nm T u) = a :: r → r.foldl (readStep T) (acc ++ a) = acc ++ u
  | [], acc, a, r, h => by
    have : spl 38 (Nm T []) = [[]] := rfl
    rw [this] at h
    cases h
    simp
  | [k], acc, a, r, h => by
    unfold Nm at h
    cases e : T.lookup k with
    | some z =>
      obtain ⟨b, _, _, h3, _, _, h6, h7⟩ := G.key e
      rw [e] at h
      simp only at h
      rw [h7] at h
      have hb : spl 38 b = [b] := spl_free 38 b fun hm => (h3 38 hm).1 rfl
      have : spl 38 (38 :: b) = [] :: [b] := by
        have := spl_at 38 b [] (by simp)
        rw [List.nil_append, hb] at this
        exact this
      rw [this] at h
      cases h
      rw [List.append_nil, List.foldl_cons, List.foldl_nil, (step_key G (rest := []) h3 h6).2]
    | none =>
      rw [e] at h
      simp only at h
      have hk : k ≠ 38 := fun z => by have := G.amp; rw [← z, e] at this; cases this
      have : spl 38 [k] = [[k]] := spl_free 38 [k] (by simpa using fun z : 38 = k => hk z.symm)
      rw [this] at h
      cases h
      rfl
  | k :: k2 :: u, acc, a, r, h => by
    obtain ⟨a', r', hs⟩ : ∃ a' r', spl 38 (Nm T (k2 :: u)) = a' :: r' := by
      cases e : spl 38 (Nm T (k2 :: u)) with
      | nil => exact absurd e (spl_ne 38 _)
      | cons a' r' => exact ⟨a', r', rfl⟩
    have ih := read_back (k2 :: u)
    have hN : Nm T (k :: k2 :: u) = rf T k ++ Nm T (k2 :: u) := rfl
    rw [hN] at h
    cases e : T.lookup k with
    | some z =>
      obtain ⟨b, _, _, h3, _, h5, h6, _⟩ := G.key e
      rw [h5] at h
      have hb : spl 38 (b ++ 45 :: Nm T (k2 :: u)) = (b ++ 45 :: a') :: r' := spl_free_app (fun c hc => (h3 c hc).1) (spl_cons_ne (by decide) hs)
      have : spl 38 (38 :: b ++ [45] ++ Nm T (k2 :: u)) = [] :: (b ++ 45 :: a') :: r' := by
        have e1 : 38 :: b ++ [45] ++ Nm T (k2 :: u) = [] ++ 38 :: (b ++ 45 :: Nm T (k2 :: u)) := by simp
        rw [e1, spl_at 38 _ [] (by simp), hb]
      rw [this] at h
      cases h
      rw [List.append_nil, List.foldl_cons, (step_key G (rest := a') h3 h6).1, ih (acc ++ [k]) a' _ hs]
      simp
    | none =>
      have hk : k ≠ 38 := fun z => by have := G.amp; rw [← z, e] at this; cases this
      rw [(G.plain e).2.2] at h
      have : spl 38 ([k] ++ Nm T (k2 :: u)) = (k :: a') :: r' := spl_cons_ne hk hs
      rw [this] at h
      cases h
      have e1 : acc ++ k :: a' = (acc ++ [k]) ++ a' := by simp
      rw [e1, ih (acc ++ [k]) a' _ hs]
      simp
theorem read_Nm (u : List Nat) : readT T (Nm T u) = u := by
  unfold readT
  cases e : spl 38 (Nm T u) with
  | nil => exact absurd e (spl_ne 38 _)
  | cons a r =>
    have := read_back G u [] a r e
    simpa using this

/-- the name told back -/
theorem name_Nm (told : List Nat) (hA : Apart T told) : unt (told.flatMap (rf T)) = Nm T (if lastOf told = [45] then cut told else told) := by
  rcases snoc_cases told with rfl | ⟨t, a, rfl⟩
  · rfl
  · rw [lastOf_snoc, List.flatMap_append]
    have e : [a].flatMap (rf T) = rf T a := by simp
    rw [e]
    by_cases ha : a = 45
    · subst ha
      rw [if_pos rfl, rf_hyphen G, unt_snoc, if_pos rfl, unt_id (hA t rfl)]
      have hc : cut (t ++ [45]) = t := by unfold cut; simp
      rw [hc]
      have hl := hA t rfl
      rcases snoc_cases t with rfl | ⟨t', x, rfl⟩
      · rfl
      · rw [Nm_snoc, List.flatMap_append]
        congr 1
        have hx : T.lookup x = none := by
          cases e : T.lookup x with
          | none => rfl
          | some z =>
            refine absurd ((last_rf G (t' ++ [x])).mpr (.inr ?_)) hl
            rw [lastOf_snoc]
            show (T.lookup x).isSome = true
            rw [e]; rfl
        unfold Nm
        rw [hx]
        simp [(G.plain hx).2.2]
    · rw [if_neg (by simpa using ha), Nm_snoc]
      unfold Nm
      cases h : T.lookup a with
      | some z =>
        obtain ⟨b, _, _, h3, _, h5, _, h7⟩ := G.key h
        rw [h5, ← List.append_assoc, unt_snoc, if_pos rfl]
        simp only
        rw [h7, unt_id]
        intro hl2
        have hm : (45 : Nat) ∈ (38 :: b) := by
          rw [List.getLast?_append] at hl2
          cases e2 : (38 :: b).getLast? with
          | none => simp at e2
          | some x =>
            rw [e2] at hl2
            simp only [Option.some_or, Option.some.injEq] at hl2
            subst hl2
            exact List.mem_of_getLast? e2
        rcases List.mem_cons.mp hm with hm | hm
        · exact absurd hm (by decide)
        · exact (h3 45 hm).2.1 rfl
      | none =>
        rw [(G.plain h).2.2, unt_snoc, if_neg ha]
end
end Mine

end PartP6

section PartP7
open PySem
set_option Elab.async false
set_option maxRecDepth 100000
namespace Mine

/-- the signs of the pieces -/
def sigma : List Nat := [117, 110, 107, 111, 119, 97, 108, 116, 35, 32, 45, 95, 47, 92, 58, 59, 40, 41, 38, 60, 62, 34, 13, 10, 9]
theorem pcs_sigma (k : Nat) : ∀ c ∈ pcs.getD k [], c ∈ sigma := by
  by_cases h : k < 22
  · have : (List.range 22).all (fun k => (pcs.getD k []).all fun c => sigma.contains c) = true := by decide +kernel
    have := List.all_eq_true.mp this k (List.mem_range.mpr h)
    intro c hc
    have := List.all_eq_true.mp this c hc
    simpa using this
  · intro c hc
    have e : pcs.getD k [] = [] := by
      rw [List.getD_eq_getElem?_getD, List.getElem?_eq_none (by show 22 ≤ k; omega)]; rfl
    rw [e] at hc; cases hc
theorem fold_sigma : ∀ (ns : List Int) (F : List (List Nat) × List Nat), (∀ f ∈ flat F, ∀ c ∈ f, c ∈ sigma) → ∀ f ∈ flat (ns.foldl fstep F), ∀ c ∈ f, c ∈ sigma
  | [], _, h => h
  | x :: ns, F, h => by
    refine fold_sigma ns (fstep F x) ?_
    intro f hf c hc
    unfold fstep at hf
    split at hf
    · have hf' : f ∈ F.1 ++ [F.2] ++ [[]] := hf
      rcases List.mem_append.mp hf' with hf' | hf'
      · exact h f hf' c hc
      · rw [List.mem_singleton.mp hf'] at hc; cases hc
    · have hf' : f ∈ F.1 ++ [F.2 ++ pcs.getD (x.fmod 24).toNat []] := hf
      rcases List.mem_append.mp hf' with hf' | hf'
      · exact h f (List.mem_append_left _ hf') c hc
      · rw [List.mem_singleton.mp hf'] at hc
        rcases List.mem_append.mp hc with hc | hc
        · exact h F.2 (List.mem_append_right _ (List.mem_singleton.mpr rfl)) c hc
        · exact pcs_sigma _ c hc
theorem fields_sigma (ns : List Int) : ∀ f ∈ fieldsL ns, ∀ c ∈ f, c ∈ sigma := fold_sigma ns ([], []) (by
  intro f hf c hc
  have : f = [] := by simpa [flat] using hf
  rw [this] at hc; cases hc)

def gtOk (T : List (Nat × List Nat)) : Bool :=
  (T.all fun p => (p.2 == 38 :: (cut p.2).tail ++ [59]) && decide ((cut p.2).tail.length ≤ 5) && ((cut p.2).tail.all fun c => c != 38 && c != 45 && (T.lookup c).isNone) && ((38 :: (cut p.2).tail ++ [59]).map sb == 38 :: (cut p.2).tail ++ [45]) &&
    (lookR T (38 :: (cut p.2).tail) == [p.1]) && [38, 60, 62, 34, 13, 10, 9].contains p.1) &&
  (T.lookup 38).isSome && ([45, 95, 32, 47, 92, 58, 59, 40, 41, 117, 110, 107, 111, 119].all fun c => (T.lookup c).isNone)
theorem GT.of {T : List (Nat × List Nat)} (h : gtOk T = true) : GT T := by
  unfold gtOk at h
  simp only [Bool.and_eq_true, List.all_eq_true] at h
  obtain ⟨⟨h1, h2⟩, h3⟩ := h
  refine ⟨fun p hp => ?_, h2, fun c hc => by simpa using h3 c hc, fun p hp => by simpa using (h1 p hp).2⟩
  obtain ⟨⟨⟨⟨⟨a1, a2⟩, a3⟩, a4⟩, a5⟩, _⟩ := h1 p hp
  refine ⟨(cut p.2).tail, eq_of_beq a1, of_decide_eq_true a2, fun c hc => ?_, eq_of_beq a4, eq_of_beq a5⟩
  have := a3 c hc
  simp only [bne_iff_ne, ne_eq] at this
  exact ⟨this.1.1, this.1.2, by simpa using this.2⟩

def stOk (T : List (Nat × List Nat)) : Bool := sigma.all fun c =>
  if (bareL T).contains c then (ex T c == [c]) && Unicode.isSpace c else (match ex T c with | a :: _ => !Unicode.isSpace a | [] => false) && (match (ex T c).reverse with | a :: _ => !Unicode.isSpace a | [] => false)
theorem ok1 : gtOk T1 = true ∧ stOk T1 = true := by decide +kernel
theorem ok2 : gtOk T2 = true ∧ stOk T2 = true := by decide +kernel
theorem ok3 : gtOk T3 = true ∧ stOk T3 = true := by decide +kernel
theorem ok4 : gtOk T4 = true ∧ stOk T4 = true := by decide +kernel
theorem ok5 : gtOk T5 = true ∧ stOk T5 = true := by decide +kernel
theorem tc_all : ∀ T ∈ TS, TC T := by
  have : TS.all (fun T => decide ((T.map fun p => cut p.2).Nodup) && T.all (fun p => decide (p.2.length ≤ 10)) && decide (T.length ≤ 15)) = true := by decide +kernel
  intro T hT
  have := List.all_eq_true.mp this T hT
  simp only [Bool.and_eq_true, decide_eq_true_eq, List.all_eq_true] at this
  exact ⟨this.1.1, this.1.2, this.2⟩
theorem six_all : ∀ T ∈ TS, (T.all fun p => decide (p.2.length ≤ 6)) = true := by
  have : TS.all (fun T => T.all fun p => decide (p.2.length ≤ 6)) = true := by decide +kernel
  exact fun T hT => List.all_eq_true.mp this T hT
theorem ok_all : ∀ T ∈ TS, GT T ∧ stOk T = true := by
  intro T hT
  simp only [TS, List.mem_cons, List.not_mem_nil, or_false] at hT
  rcases hT with rfl | rfl | rfl | rfl | rfl
  · exact ⟨.of ok1.1, ok1.2⟩
  · exact ⟨.of ok2.1, ok2.2⟩
  · exact ⟨.of ok3.1, ok3.2⟩
  · exact ⟨.of ok4.1, ok4.2⟩
  · exact ⟨.of ok5.1, ok5.2⟩
end Mine

end PartP7

section PartP8
open PySem
set_option Elab.async false
set_option maxRecDepth 100000
namespace Mine

theorem esc_strip {T : List (Nat × List Nat)} (hs : stOk T = true) (f : List Nat) (hf : ∀ c ∈ f, c ∈ sigma) : strp Unicode.isSpace (f.flatMap (ex T)) = (strp (fun c => (bareL T).contains c) f).flatMap (ex T) := by
  refine strp_flat _ _ _ f fun c hc => ?_
  have h := List.all_eq_true.mp hs c (hf c hc)
  refine ⟨fun hq => ?_, fun hq => ?_⟩
  · rw [if_pos hq, Bool.and_eq_true] at h
    exact ⟨eq_of_beq h.1, h.2⟩
  · rw [if_neg (by rw [hq]; exact Bool.false_ne_true), Bool.and_eq_true] at h
    refine ⟨?_, ?_⟩
    · cases e : ex T c with
      | nil => rw [e] at h; exact absurd h.1 (by simp)
      | cons a r => rw [e] at h; exact ⟨a, r, rfl, by simpa using h.1⟩
    · cases e : (ex T c).reverse with
      | nil => rw [e] at h; exact absurd h.2 (by simp)
      | cons a r => rw [e] at h; exact ⟨a, r, rfl, by simpa using h.2⟩

section
variable {T : List (Nat × List Nat)} (G : GT T) (hs : stOk T = true) {fs : List (List Nat)} (hf : ∀ f ∈ fs, ∀ c ∈ f, c ∈ sigma)
include G
theorem ex_ne (c : Nat) : ex T c ≠ [] := by
  cases e : T.lookup c with
  | some z =>
    obtain ⟨b, h1, _⟩ := G.key e
    unfold ex; rw [e, h1]; simp
  | none => rw [(G.plain e).1]; simp
include hs hf
theorem row_eq : platRow (fs.map (escBy T)) = (rowD T fs).flatMap (ex T) := by
  unfold platRow rowD
  rw [← jn_flat (ex T) (G.plain (G.no 45 (by decide))).1]
  congr 1
  rw [List.filter_map, List.map_map, List.map_map]
  have hp : ((fun x : List Nat => decide (x.length ≠ 0)) ∘ escBy T) = fun f => f != [] := by
    funext f
    cases f with
    | nil => rfl
    | cons c r =>
      have h1 : (escBy T (c :: r)).length ≠ 0 := by
        intro z
        have z' : ((ex T c) ++ r.flatMap (ex T)).length = 0 := z
        rw [List.length_append] at z'
        exact ex_ne G c (List.eq_nil_of_length_eq_zero (by omega))
      show decide _ = _
      rw [decide_eq_true h1]; rfl
  rw [hp]
  apply List.map_congr_left
  intro f hfm
  exact esc_strip hs f (hf f (List.mem_filter.mp hfm).1)
theorem plat_eq : plat (fs.map (escBy T)) = unt ((dueT T fs).flatMap (rf T)) := by
  unfold plat
  rw [row_eq G hs hf, subs_map, List.map_flatMap]
  have e : (fun a => (ex T a).map sb) = img T := rfl
  rw [e, rpl_img G _ _ (Nat.le_refl _)]
  have := coll_fold G (rpl uk [] (rowD T fs)) [] [] rfl
  rw [List.nil_append] at this
  rw [this]
  rfl
end

theorem spl_sub {c : Nat} : ∀ {x f : List Nat}, f ∈ spl c x → ∀ a ∈ f, a ∈ x
  | [], f, hf, a, ha => by
    have : f = [] := by simpa [spl] using hf
    rw [this] at ha; exact ha
  | k :: r, f, hf, a, ha => by
    unfold spl at hf
    split at hf
    · rcases List.mem_cons.mp hf with rfl | hf
      · cases ha
      · exact .tail _ (spl_sub hf a ha)
    · cases e : spl c r with
      | nil => exact absurd e (spl_ne c r)
      | cons p q =>
        rw [e] at hf
        rcases List.mem_cons.mp hf with rfl | hf
        · rcases List.mem_cons.mp ha with rfl | ha
          · exact .head _
          · exact .tail _ (spl_sub (c := c) (f := p) (by rw [e]; exact .head _) a ha)
        · exact .tail _ (spl_sub (c := c) (f := f) (by rw [e]; exact .tail _ hf) a ha)
theorem rpl_sub {c : Nat} : ∀ (n : Nat) (x : List Nat), x.length ≤ n → c ∈ rpl uk [] x → c ∈ x
  | _, [], _, h => h
  | 0, _ :: _, h, _ => by simp at h
  | n + 1, a :: r, hl, h => by
    cases hp : uk.isPrefixOf (a :: r) with
    | true =>
      rw [rpl_hit _ _ _ (by decide) hp (by simp), List.nil_append] at h
      have hd : ((a :: r).drop uk.length).length ≤ n := by
        rw [List.length_drop]
        have : uk.length = 7 := rfl
        simp only [List.length_cons] at hl ⊢
        omega
      exact List.mem_of_mem_drop (rpl_sub n _ hd h)
    | false =>
      rw [rpl_miss _ _ _ _ hp] at h
      rcases List.mem_cons.mp h with rfl | h
      · exact .head _
      · exact .tail _ (rpl_sub n r (by simpa using hl) h)
theorem due_sub (T : List (Nat × List Nat)) {P : Nat → Prop} (h1 : P 95) (h2 : P 45) : ∀ (R told : List Nat), (∀ c ∈ R, P c) → (∀ c ∈ told, P c) → ∀ c ∈ R.foldl (dueStep T) told, P c
  | [], _, _, ht => ht
  | a :: R, told, hR, ht => by
    refine due_sub T h1 h2 R (dueStep T told a) (fun c hc => hR c (.tail _ hc)) ?_
    intro c hc
    unfold dueStep at hc
    split at hc
    · rcases List.mem_append.mp hc with hc | hc
      · exact ht c hc
      · split at hc
        · rw [List.mem_singleton.mp hc]; exact h1
        · rw [List.mem_singleton.mp hc]; exact hR a (.head _)
    · split at hc
      · rcases List.mem_append.mp hc with hc | hc
        · exact ht c hc
        · rw [List.mem_singleton.mp hc]; exact h2
      · exact ht c hc
theorem jn_sub {P : Nat → Prop} (h2 : P 45) : ∀ l : List (List Nat), (∀ f ∈ l, ∀ c ∈ f, P c) → ∀ c ∈ jn [45] l, P c
  | [], _, c, hc => by cases hc
  | [f], h, c, hc => h f (.head _) c hc
  | f :: g :: r, h, c, hc => by
    unfold jn at hc
    rcases List.mem_append.mp hc with hc | hc
    · rcases List.mem_append.mp hc with hc | hc
      · exact h f (.head _) c hc
      · rw [List.mem_singleton.mp hc]; exact h2
    · exact jn_sub h2 (g :: r) (fun f hf => h f (.tail _ hf)) c hc
theorem strp_sub {p : Nat → Bool} {f : List Nat} {c : Nat} (h : c ∈ strp p f) : c ∈ f := by
  unfold strp at h
  exact mem_dropWhile (List.mem_reverse.mp (mem_dropWhile (List.mem_reverse.mp h)))
theorem dueT_lt (T : List (Nat × List Nat)) {fs : List (List Nat)} (hf : ∀ f ∈ fs, ∀ c ∈ f, c ∈ sigma) : ∀ c ∈ dueT T fs, c < 0x110000 := by
  have hsg : ∀ c ∈ sigma, c < 0x110000 := by
    intro c hc
    have : sigma.all (fun c => decide (c < 0x110000)) = true := by decide +kernel
    exact of_decide_eq_true (List.all_eq_true.mp this c hc)
  refine due_sub T (by decide) (by decide) _ _ (fun c hc => ?_) (fun c hc => nomatch hc)
  have hc' := rpl_sub _ _ (Nat.le_refl _) hc
  refine jn_sub (P := fun c => c < 0x110000) (by decide) _ ?_ c hc'
  intro f hfm c hc
  obtain ⟨g, hg, rfl⟩ := List.mem_map.mp hfm
  exact hsg c (hf g (List.mem_filter.mp hg).1 c (strp_sub hc))

theorem plat_len (fs : List (List Nat)) : (plat fs).length ≤ (fs.map List.length).sum + fs.length := by
  have h1 := platRow_le fs
  have h2 := rpl_le uk (by decide) _ (subs (platRow fs)) (Nat.le_refl _)
  have h3 := coll_le (rpl uk [] (subs (platRow fs)))
  have h4 : (unt (coll (rpl uk [] (subs (platRow fs))))).length ≤ (coll (rpl uk [] (subs (platRow fs)))).length := by
    unfold unt
    rw [List.length_reverse]
    have := (List.dropWhile_sublist (l := (coll (rpl uk [] (subs (platRow fs)))).reverse) (· == 45)).length_le
    rw [List.length_reverse] at this
    exact this
  rw [subs_len] at h2
  unfold plat
  omega
theorem esc_sum {T : List (Nat × List Nat)} (h6 : (T.all fun p => decide (p.2.length ≤ 6)) = true) : ∀ fs : List (List Nat), ((fs.map (escBy T)).map List.length).sum ≤ 6 * (fs.map List.length).sum
  | [] => by simp
  | f :: fs => by
    have ih := esc_sum h6 fs
    have := escBy_le T h6 f
    simp only [List.map_cons, List.sum_cons]
    omega
theorem fields_bound (ns : List Int) : (fieldsL (nums ns)).length ≤ 35 ∧ ((fieldsL (nums ns)).map List.length).sum ≤ 238 := by
  have h1 := ffold_len (nums ns)
  have h2 := nums_le ns
  unfold fieldsL flat
  rw [List.length_append, List.map_append, List.sum_append]
  simp only [List.length_cons, List.length_nil, List.map_cons, List.map_nil, List.sum_cons, List.sum_nil]
  omega

theorem pure_law (ns : List Int) : ∀ T ∈ TS, PL T (fieldsL (nums ns)) := by
  intro T hT
  obtain ⟨G, hs⟩ := ok_all T hT
  have hf := fields_sigma (nums ns)
  have hb := fields_bound ns
  have hsum := esc_sum (six_all T hT) (fieldsL (nums ns))
  have hpl := plat_len ((fieldsL (nums ns)).map (escBy T))
  rw [List.length_map] at hpl
  have hA : Apart T (dueT T (fieldsL (nums ns))) := apart_fold G _ _ (fun t e => absurd e (by simp))
  have hpe := plat_eq G hs hf
  have hN := name_Nm G _ hA
  refine ⟨?_, ?_, ?_, ?_, by omega, by omega, tc_all T hT⟩
  · rw [hpe]; exact unt_last _ _ (Nat.le_refl _)
  · rw [List.filter_eq_nil_iff]
    intro f hfm
    obtain ⟨c, hc, rfl⟩ := List.mem_map.mp hfm
    rw [hpe] at hc
    have hc' := unt_sub _ _ (Nat.le_refl _) hc
    obtain ⟨a, _, ha⟩ := List.mem_flatMap.mp hc'
    have hor : c = 38 ∨ T.lookup c = none := by
      cases e : T.lookup a with
      | some z =>
        obtain ⟨b, _, _, h3, _, h5, _⟩ := G.key e
        rw [h5] at ha
        rcases List.mem_append.mp ha with ha | ha
        · rcases List.mem_cons.mp ha with rfl | ha
          · exact .inl rfl
          · exact .inr (h3 c ha).2.2
        · rw [List.mem_singleton.mp ha]; exact .inr (G.no 45 (by decide))
      | none =>
        rw [(G.plain e).2.2] at ha
        rw [List.mem_singleton.mp ha]; exact .inr e
    rcases hor with rfl | h
    · simp
    · have : inT T [c] = false := by show (T.lookup c).isSome = false; rw [h]; rfl
      rw [this]; simp
  · rw [hpe, hN, read_Nm G]; rfl
  · intro f hfm c hc
    have hm := spl_sub hfm c hc
    refine dueT_lt T hf c ?_
    split at hm
    · unfold cut at hm; exact List.mem_of_mem_take hm
    · exact hm
end Mine

end PartP8

section PartM29
open PySem PySem.W PyProof.Rows
set_option Elab.async false
namespace Mine
noncomputable section

theorem gnd_of {w : World} {s₀ : Shared} {mg mb : Str → Option Value} {s : Shared} (K : (KF w).In s.heap) (T : Top Mine.hd.view_39 (looseW Mine.hd.view_39 []) (ExcName.means s₀.heap) mg mb s.heap) : Gnd w s.heap ∧ s.heap.TableAt 20 16 #[] ∧ s.heap.IsCode 20 16 #[] := by
  refine ⟨⟨K, ⟨mg, T.g⟩, ⟨mb, T.b, T.builtins⟩, T.nolimit, ?_⟩, ?_⟩
  · obtain ⟨bm, ob, h1, h2, h3, h4, h5, h6⟩ := T.bmain
    have e := mg_of K T.g (n := "__builtins__") (v := .ref 4) rfl
    rw [e] at h1
    cases h1
    exact ⟨ob, h3, h4, h5, h6⟩
  · have hd : ∃ d ∈ recsOf Mine.hd.view_39, d.name = ("_platform" : Str) := by
      have e : (recsOf Mine.hd.view_39).any (fun d => d.name == ("_platform" : Str)) = true := by decide +kernel
      obtain ⟨d, h1, h2⟩ := List.any_eq_true.mp e
      exact ⟨d, h1, eq_of_beq h2⟩
    obtain ⟨d, hd1, hd2⟩ := hd
    obtain ⟨a, o, fd, c, P, h1, h2, h3, h4, h5, h6⟩ := T.tab d hd1
    rw [hd2] at h1
    have e := mg_of K T.g (n := "_platform") (v := .ref 21) rfl
    rw [e] at h1
    cases h1
    obtain ⟨c', d', sl, e21⟩ : ∃ c d sl, (KF w).lookup 21 = some ⟨c, d, .func (fdAt w 21), sl⟩ := ⟨_, _, _, rfl⟩
    have g21 := K 21 _ e21
    rw [h2] at g21
    cases g21
    obtain rfl : fdAt w 21 = fd := by injection h3
    have ec : (fdAt w 21).code = .ref 20 := rfl
    rw [ec] at h4
    cases h4
    obtain ⟨o20, vs, e20, ev, e11⟩ : ∃ o vs, (KF w).lookup 20 = some o ∧ o.data = .fields vs ∧ vs.getD 11 .none = .ref 16 := ⟨_, _, rfl, rfl, rfl⟩
    have g20 := K 20 _ e20
    obtain ⟨o', vs', file, tf, flags, tg, inF, text, tt, op, a1, r1, r2, rest⟩ := id h5
    rw [g20] at a1
    cases a1
    rw [ev] at r1
    cases r1
    rw [e11] at r2
    cases r2
    exact ⟨h6, h5⟩

theorem oldK_of {s s' : Shared} (t : s.heap.TableAt 20 16 #[]) (Z : LS s s') : OldK s.heap s'.heap := by
  obtain ⟨ps, _, t'⟩ := Z.tab
  refine ⟨fun b o e => ?_, fun b o e => ?_⟩
  · by_cases hb : b = 16
    · subst hb
      have e₀ : o = { cls := .none, data := .fields #[] } := Option.some.inj (e.symm.trans t.2)
      subst e₀
      exact .inr (.inl ⟨t.isCodeTable, rfl, #[], ps, rfl, by rw [t'.2]; simp⟩)
    · exact .inl (Z.old b o hb e)
  · by_cases hb : b = 16
    · subst hb; exact ⟨_, t'.2⟩
    · exact ⟨o, Z.old b o hb e⟩

set_option maxRecDepth 100000 in
set_option maxHeartbeats 0 in
theorem holds_of (hpure : ∀ ns : List Int, ns.length ≤ 63 → ∀ T ∈ TS, PL T (fieldsL (nums ns))) (hfs : ∀ ns : List Int, (fieldsL (nums ns)).length ≤ 100 ∧ ((fieldsL (nums ns)).map List.length).sum ≤ 700) : PySem.Challenge.rw_ny0130_01.Holds := by
  refine Mine.hd ?_
  k_fill
  intro w s₀ s₁ mg mb G Y fa o pm cd doc dV kV ho hd hcd hD hmg hg args vals as hpre hlay hrd hwl hlo
  have KX := kIn_of Y
  refine Ground.open G ?_
  intro T B D TE TW
  try (refine guard_noD D (by decide +kernel) ?_; clear D)
  obtain ⟨_, _, M⟩ := bmod_of_top T
  have TA := at_of_top T
  have hfa : fa = 92 := by
    have e := mg_of KX T.g (n := "law") (v := .ref 92) rfl
    have hmg' : mg "law" = some (.ref fa) := hmg
    rw [e] at hmg'
    cases hmg'
    rfl
  subst hfa
  clear hd hcd hD hmg ho
  wrow_args hpre hlay hrd hwl hlo
  refine enter_call ?_
  w_top on
  obtain ⟨Gn, tb, ic⟩ := gnd_of KX T
  rename Heap.IsList _ _ _ => hLs
  rename IntsAre _ _ => hI
  rename ¬ ((63 : Nat) : Int) < _ => hlen
  refine law_walk Gn (.of_eq hg) ⟨#[], ic, tb⟩ hLs hI (by omega) (hpure _ (by omega)) (hfs _) fun s' Z => ?_
  refine ⟨.inl ⟨.bool true, ofPy (.bool true), [], rfl, fun cls => ?_, .bool _, ?_, fun _ => ⟨.nil, fun _ h => nomatch h⟩⟩, oldK_of tb Z, Z.os, Z.bare⟩
  · rfl
  · unfold PySem.W.OpenLaw.row
    simp only [PySem.W.RowW.claim]
    have e1 : WShape.has [] (ofPy (PyData.bool true)) WShape.bool = true := by decide +kernel
    rw [e1]
    simp [WTm.holds, WTm.value, ofPy, PySem.W.same]
end
end Mine

end PartM29

set_option maxRecDepth 100000 in
theorem PySem.Challenge.cw_ny0130_01_holds : PySem.Challenge.rw_ny0130_01.Holds := by
  exact Mine.holds_of (fun ns _ => Mine.pure_law ns) (fun ns => ⟨Nat.le_trans (Mine.fields_bound ns).1 (by decide), Nat.le_trans (Mine.fields_bound ns).2 (by decide)⟩)
