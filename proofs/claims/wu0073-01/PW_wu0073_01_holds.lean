import PyProof.Rows.All
import Wide.All
import OpenK.AllK
import Wide.FinOn
import Lean
import PySem.Challenge.RW_wu0073_01
open Lean Elab Tactic Meta PySem PySem.W PyProof.Rows PyProof.V PySem.Spec PySem.Calls
set_option Elab.async false
set_option linter.unusedSimpArgs false
set_option linter.unusedVariables false
namespace Mine
--PLAIN
set_option maxRecDepth 100000 in
set_option maxHeartbeats 8000000 in
open_top hd for PySem.Challenge.rw_wu0073_01

end Mine
namespace Mine
--PLAIN
theorem top_off : True := by
  w_top off
  trivial

end Mine
namespace Mine
--PLAIN
/-! ## the plain side: what the text computes, over plain lists -/

/-- page and depth behind i elements -/
noncomputable def reach : Nat → List (List Nat × Nat)
  | 0 => [([40], 0)]
  | i + 1 => (reach i).flatMap fun p => (List.range (p.2 + 2)).map fun e => (p.1 ++ List.replicate (p.2 + 1 - e) 41 ++ [40], e)
noncomputable def pagesOf (i : Nat) : List (List Nat) := (reach i).map fun p => p.1 ++ List.replicate (p.2 + 1) 41

/-- bisect: the first place whose test fails, sought between lo and hi -/
noncomputable def bis (ps : List Bool) : Nat → Nat → Nat → Nat
  | 0, lo, _ => lo
  | f + 1, lo, hi => if lo < hi then (if ps.getD ((lo + hi) / 2) false then bis ps f ((lo + hi) / 2 + 1) hi else bis ps f lo ((lo + hi) / 2)) else lo

noncomputable def insertAt {α : Type} (i : Nat) (x : α) (l : List α) : List α := l.take i ++ x :: l.drop i

structure St where
  steps : List (Nat × Nat)
  begun : List Nat
  depth : Nat
  pairs : Int

noncomputable def bisN (ps : List Bool) : Nat := bis ps ps.length 0 ps.length

noncomputable def turn (s : St) (c : Nat) : St :=
  let steps := insertAt (bisN (s.steps.map fun q => decide (q.1 < s.depth))) (s.depth, c) s.steps
  if c = 40 then
    { steps, depth := s.depth + 1,
      pairs := s.pairs + ((bisN (s.begun.map fun d => !decide (s.depth < d)) : Nat) : Int) - ((bisN (s.begun.map fun d => decide (d + 1 < s.depth)) : Nat) : Int) - (if s.depth = 0 then 0 else 1)
      begun := insertAt (bisN (s.begun.map fun d => decide (d < s.depth))) s.depth s.begun }
  else { s with steps, depth := s.depth - 1 }
noncomputable def run (page : List Nat) : St := page.foldl turn ⟨[], [], 0, 0⟩

noncomputable def chk : Int → List Nat → Bool
  | o, [] => decide (o = 0)
  | o, c :: r => if c = 40 then chk (o + 1) r else if c = 41 then (if o - 1 < 0 then false else chk (o - 1) r) else chk o r

/-- the runs' lengths: swept.split(')') -/
noncomputable def runsOf (l : List Nat) : List Nat := l.foldr (fun c ws => match ws with
  | [] => []
  | w :: r => if c = 41 then 0 :: w :: r else (w + 1) :: r) [0]

noncomputable def firstsOf : Nat → List Nat → List Nat
  | _, [] => []
  | b, c :: r => b :: firstsOf (b + c) r

/-- inner[place] += '(' + inner[child] + ')' -/
noncomputable def innerStep (p : Nat) (inner : List (List Nat)) (c : Nat) : List (List Nat) := inner.set p (inner.getD p [] ++ (40 :: inner.getD c [] ++ [41]))
/-- the children first + k - 1 .. first of place p -/
noncomputable def innerAt (p first : Nat) : Nat → List (List Nat) → List (List Nat)
  | 0, inner => inner
  | k + 1, inner => innerAt p first k (innerStep p inner (first + k))
/-- the places from the last one down -/
noncomputable def innerGo (counts firsts : List Nat) : Nat → List (List Nat) → List (List Nat)
  | 0, inner => inner
  | p + 1, inner => innerGo counts firsts p (innerAt p (firsts.getD p 0) (counts.getD p 0) inner)
noncomputable def toldOf (swept : List Nat) : List Nat :=
  (innerGo (runsOf swept) (firstsOf 1 (runsOf swept)) (runsOf swept).length (List.replicate (runsOf swept).length [])).getD 0 []

noncomputable def bouncesGo (runs : List Nat) : Nat → Nat → List Int
  | 0, _ => []
  | n + 1, told => (((runs.take (told + 1)).sum : Int) - (told : Int)) :: bouncesGo runs n (runs.take (told + 1)).sum

noncomputable def depthsIn : Int → Int → List Nat → Int
  | _, t, [] => t
  | d, t, c :: r => if c = 40 then depthsIn (d + 1) (t + d) r else depthsIn (d - 1) t r

noncomputable def good (page : List Nat) : Bool :=
  let r := run page
  let swept := r.steps.map (·.2)
  let size := page.length / 2
  chk 0 page && chk 0 swept && !chk 0 (swept.drop 1 ++ [40]) && !chk 0 swept.dropLast &&
  toldOf swept == page && bouncesGo (runsOf swept) size 0 == (List.range size).map (fun d => (((r.steps.filter fun q => q.1 == d && q.2 == 40).length : Nat) : Int)) &&
  depthsIn 0 0 swept == r.pairs
theorem all_chunks {α : Type} (P : α → Bool) (k : Nat) : ∀ (n : Nat) (l : List α), (∀ i, i < n → ((l.drop (i * k)).take k).all P = true) → l.length ≤ n * k → l.all P = true
  | 0, l, _, hl => by
    have h0 : l = [] := List.eq_nil_of_length_eq_zero (by omega)
    rw [h0]; rfl
  | n + 1, l, h, hl => by
    have h1 := h 0 (Nat.succ_pos n)
    rw [Nat.zero_mul, List.drop_zero] at h1
    have h2 := all_chunks P k n (l.drop k) (fun i hi => by
      have := h (i + 1) (Nat.succ_lt_succ hi)
      rw [List.drop_drop, show k + i * k = (i + 1) * k from by rw [Nat.add_mul, Nat.one_mul, Nat.add_comm]]
      exact this) (by rw [List.length_drop]; rw [Nat.add_mul, Nat.one_mul] at hl; omega)
    rw [← List.take_append_drop k l, List.all_append, h1, h2]; rfl
set_option maxRecDepth 100000 in
theorem good4 : (pagesOf 4).all good = true := by decide +kernel
set_option maxRecDepth 100000 in
theorem good5_a : (((pagesOf 5).drop (0 * 33)).take 33).all good = true := by decide +kernel
set_option maxRecDepth 100000 in
theorem good5_b : (((pagesOf 5).drop (1 * 33)).take 33).all good = true := by decide +kernel
set_option maxRecDepth 100000 in
theorem good5_c : (((pagesOf 5).drop (2 * 33)).take 33).all good = true := by decide +kernel
set_option maxRecDepth 100000 in
theorem good5_d : (((pagesOf 5).drop (3 * 33)).take 33).all good = true := by decide +kernel
set_option maxRecDepth 100000 in
theorem good5 : (pagesOf 5).all good = true := by
  refine all_chunks good 33 4 _ ?_ (by decide +kernel)
  intro i hi
  match i, hi with
  | 0, _ => exact good5_a
  | 1, _ => exact good5_b
  | 2, _ => exact good5_c
  | 3, _ => exact good5_d
  | i + 4, hi => exact absurd hi (by omega)
set_option maxRecDepth 100000 in
theorem good6_a : (((pagesOf 6).drop (0 * 33)).take 33).all good = true := by decide +kernel
set_option maxRecDepth 100000 in
theorem good6_b : (((pagesOf 6).drop (1 * 33)).take 33).all good = true := by decide +kernel
set_option maxRecDepth 100000 in
theorem good6_c : (((pagesOf 6).drop (2 * 33)).take 33).all good = true := by decide +kernel
set_option maxRecDepth 100000 in
theorem good6_d : (((pagesOf 6).drop (3 * 33)).take 33).all good = true := by decide +kernel
set_option maxRecDepth 100000 in
theorem good6_e : (((pagesOf 6).drop (4 * 33)).take 33).all good = true := by decide +kernel
set_option maxRecDepth 100000 in
theorem good6_f : (((pagesOf 6).drop (5 * 33)).take 33).all good = true := by decide +kernel
set_option maxRecDepth 100000 in
theorem good6_g : (((pagesOf 6).drop (6 * 33)).take 33).all good = true := by decide +kernel
set_option maxRecDepth 100000 in
theorem good6_h : (((pagesOf 6).drop (7 * 33)).take 33).all good = true := by decide +kernel
set_option maxRecDepth 100000 in
theorem good6_i : (((pagesOf 6).drop (8 * 33)).take 33).all good = true := by decide +kernel
set_option maxRecDepth 100000 in
theorem good6_j : (((pagesOf 6).drop (9 * 33)).take 33).all good = true := by decide +kernel
set_option maxRecDepth 100000 in
theorem good6_k : (((pagesOf 6).drop (10 * 33)).take 33).all good = true := by decide +kernel
set_option maxRecDepth 100000 in
theorem good6_l : (((pagesOf 6).drop (11 * 33)).take 33).all good = true := by decide +kernel
set_option maxRecDepth 100000 in
theorem good6_m : (((pagesOf 6).drop (12 * 33)).take 33).all good = true := by decide +kernel
set_option maxRecDepth 100000 in
theorem good6 : (pagesOf 6).all good = true := by
  refine all_chunks good 33 13 _ ?_ (by decide +kernel)
  intro i hi
  match i, hi with
  | 0, _ => exact good6_a
  | 1, _ => exact good6_b
  | 2, _ => exact good6_c
  | 3, _ => exact good6_d
  | 4, _ => exact good6_e
  | 5, _ => exact good6_f
  | 6, _ => exact good6_g
  | 7, _ => exact good6_h
  | 8, _ => exact good6_i
  | 9, _ => exact good6_j
  | 10, _ => exact good6_k
  | 11, _ => exact good6_l
  | 12, _ => exact good6_m
  | i + 13, hi => exact absurd hi (by omega)

end Mine
namespace Mine
--PLAIN
theorem bis_fuel (ps : List Bool) : ∀ f g a b, b - a ≤ f → b - a ≤ g → bis ps f a b = bis ps g a b := by
  intro f
  induction f with
  | zero =>
    intro g a b h _
    cases g with
    | zero => rfl
    | succ g => unfold bis; rw [if_neg (by omega)]
  | succ f ih =>
    intro g a b h h'
    cases g with
    | zero => unfold bis; rw [if_neg (by omega)]
    | succ g =>
      unfold bis
      by_cases hl : a < b
      · rw [if_pos hl, if_pos hl]
        split
        · exact ih _ _ _ (by omega) (by omega)
        · exact ih _ _ _ (by omega) (by omega)
      · rw [if_neg hl, if_neg hl]
/-- between lo and hi the search still ends at r -/
noncomputable def Bs (ps : List Bool) (r : Nat) (lo hi : Int) : Prop := ∃ a b : Nat, lo = a ∧ hi = b ∧ b ≤ ps.length ∧ ∀ f, b - a ≤ f → bis ps f a b = r
theorem Bs.start (ps : List Bool) {hi : Int} (h : hi = ps.length) : Bs ps (bisN ps) 0 hi := ⟨0, ps.length, rfl, h, Nat.le_refl _, fun f hf => bis_fuel ps _ _ _ _ hf (by omega)⟩
theorem Bs.stop {ps : List Bool} {r : Nat} {lo hi : Int} (B : Bs ps r lo hi) (h : ¬ lo < hi) : lo = (r : Int) := by
  obtain ⟨a, b, rfl, rfl, _, hb⟩ := B
  have := hb 0 (by omega)
  unfold bis at this
  rw [this]
theorem Bs.mid {ps : List Bool} {r : Nat} {lo hi : Int} (B : Bs ps r lo hi) (h : lo < hi) : ∃ m : Nat, Int.fdiv (lo + hi) 2 = m ∧ m < ps.length ∧ lo ≤ m ∧ (m : Int) < hi := by
  obtain ⟨a, b, rfl, rfl, hl, hb⟩ := B
  refine ⟨(a + b) / 2, ?_, by omega, by omega, by omega⟩
  rw [Int.fdiv_eq_ediv_of_nonneg _ (by omega)]; omega
theorem Bs.right {ps : List Bool} {r : Nat} {lo hi : Int} (B : Bs ps r lo hi) (h : lo < hi) {m : Nat} (e : Int.fdiv (lo + hi) 2 = m) (hp : ps[m]? = some true) : Bs ps r ((m : Int) + 1) hi := by
  obtain ⟨a, b, rfl, rfl, hl, hb⟩ := B
  have hm : m = (a + b) / 2 := by rw [Int.fdiv_eq_ediv_of_nonneg _ (by omega)] at e; omega
  have h2 : a ≤ m ∧ m < b := by omega
  refine ⟨m + 1, b, by omega, rfl, hl, fun f hf => ?_⟩
  rw [bis_fuel ps f (b - a) (m + 1) b hf (by omega)]
  have := hb (b - a + 1) (by omega)
  unfold bis at this
  rw [if_pos (by omega), ← hm, List.getD_eq_getElem?_getD, hp] at this
  exact this
theorem Bs.left {ps : List Bool} {r : Nat} {lo hi : Int} (B : Bs ps r lo hi) (h : lo < hi) {m : Nat} (e : Int.fdiv (lo + hi) 2 = m) (hp : ps[m]? = some false) : Bs ps r lo m := by
  obtain ⟨a, b, rfl, rfl, hl, hb⟩ := B
  have hm : m = (a + b) / 2 := by rw [Int.fdiv_eq_ediv_of_nonneg _ (by omega)] at e; omega
  have h2 : a ≤ m ∧ m < b := by omega
  refine ⟨a, m, by omega, rfl, by omega, fun f hf => ?_⟩
  rw [bis_fuel ps f (b - a) a m hf (by omega)]
  have := hb (b - a + 1) (by omega)
  unfold bis at this
  rw [if_pos (by omega), ← hm, List.getD_eq_getElem?_getD, hp] at this
  exact this

theorem Bs.right2 {α : Type} {f : α → Bool} {its : List α} {r : Nat} {lo hi : Int} (B : Bs (its.map f) r lo hi) (h : lo < hi) {p : α} (hp : its[(Int.fdiv (lo + hi) 2).toNat]? = some p) (hc : f p = true) : Bs (its.map f) r (Int.fdiv (lo + hi) 2 + 1) hi := by
  obtain ⟨m, e, _⟩ := B.mid h
  rw [e]
  refine B.right h e ?_
  rw [e] at hp
  simp only [Int.toNat_natCast] at hp
  rw [List.getElem?_map, hp, Option.map_some, hc]
theorem Bs.left2 {α : Type} {f : α → Bool} {its : List α} {r : Nat} {lo hi : Int} (B : Bs (its.map f) r lo hi) (h : lo < hi) {p : α} (hp : its[(Int.fdiv (lo + hi) 2).toNat]? = some p) (hc : f p = false) : Bs (its.map f) r lo (Int.fdiv (lo + hi) 2) := by
  obtain ⟨m, e, _⟩ := B.mid h
  rw [e]
  refine B.left h e ?_
  rw [e] at hp
  simp only [Int.toNat_natCast] at hp
  rw [List.getElem?_map, hp, Option.map_some, hc]
theorem bis_le (ps : List Bool) : ∀ f a b, a ≤ b → bis ps f a b ≤ b := by
  intro f
  induction f with
  | zero => intro a b h; exact h
  | succ f ih =>
    intro a b h
    unfold bis
    split
    · split
      · exact ih _ _ (by omega)
      · exact Nat.le_trans (ih _ _ (by omega)) (by omega)
    · exact h
theorem bisN_le (ps : List Bool) : bisN ps ≤ ps.length := bis_le _ _ _ _ (Nat.zero_le _)

end Mine
namespace Mine
--PLAIN
theorem close_is : (Str.ofString ")") = (⟨#[41]⟩ : Str) := by decide +kernel
theorem join41 : ∀ (p : Str) (r : List Str), r ≠ [] → (Str.join ⟨#[41]⟩ (p :: r)).cps.toList = p.cps.toList ++ 41 :: (Str.join ⟨#[41]⟩ r).cps.toList
  | p, [], h => absurd rfl h
  | p, q :: r, _ => by
    show (p ++ ⟨#[41]⟩ ++ Str.join ⟨#[41]⟩ (q :: r) : Str).cps.toList = _
    rw [Str.cps_append, Str.cps_append]
    simp
theorem runs_free : ∀ l : List Nat, 41 ∉ l → runsOf l = [l.length]
  | [], _ => rfl
  | c :: l, h => by
    have ih := runs_free l fun q => h (.tail _ q)
    unfold runsOf at ih ⊢
    rw [List.foldr_cons, ih]
    have hc : c ≠ 41 := fun e => h (e ▸ .head _)
    simp [hc]
theorem runs_ne (l : List Nat) : runsOf l ≠ [] := by
  induction l with
  | nil => intro h; cases h
  | cons c l ih =>
    unfold runsOf at ih ⊢
    rw [List.foldr_cons]
    split
    · rename_i e; exact absurd e ih
    · split <;> intro h <;> cases h
theorem runs_step : ∀ (a : List Nat) (b : List Nat), 41 ∉ a → runsOf (a ++ 41 :: b) = a.length :: runsOf b
  | [], b, _ => by
    have hb := runs_ne b
    show List.foldr _ _ (41 :: b) = _
    rw [List.foldr_cons]
    show (match runsOf b with | [] => [] | w :: r => if 41 = 41 then 0 :: w :: r else (w + 1) :: r) = _
    split
    · rename_i e; exact absurd e hb
    · rename_i w r e; rw [if_pos rfl, e]; rfl
  | c :: a, b, h => by
    have ih := runs_step a b fun q => h (.tail _ q)
    have hc : c ≠ 41 := fun e => h (e ▸ .head _)
    show (match runsOf (a ++ 41 :: b) with | [] => [] | w :: r => if c = 41 then 0 :: w :: r else (w + 1) :: r) = _
    rw [ih]
    simp [hc]
theorem runs_join : ∀ ps : List Str, ps ≠ [] → (∀ p ∈ ps, 41 ∉ p.cps.toList) → runsOf (Str.join ⟨#[41]⟩ ps).cps.toList = ps.map (·.length)
  | [], h, _ => absurd rfl h
  | [p], _, h => by
    show runsOf p.cps.toList = _
    rw [runs_free _ (h p (.head _))]
    rfl
  | p :: q :: r, _, h => by
    rw [join41 p (q :: r) (by intro e; cases e), runs_step _ _ (h p (.head _)), runs_join (q :: r) (by intro e; cases e) fun y hy => h y (.tail _ hy)]
    rfl
theorem split_ne (x : Str) (h : 1 ≤ x.length) : Txt.split x ⟨#[41]⟩ ≠ [] := by
  intro e
  have := StrLaws.join_split x ⟨#[41]⟩
  rw [e] at this
  rw [← this] at h
  exact absurd h (by decide +kernel)
theorem split_runs (x : Str) (h : 1 ≤ x.length) : (Txt.split x (Str.ofString ")")).map (·.length) = runsOf x.cps.toList := by
  rw [close_is, ← runs_join _ (split_ne x h) (StrLaws.split_free x 41), StrLaws.join_split]
theorem runs_sum : ∀ l : List Nat, (∀ c ∈ l, c = 40 ∨ c = 41) → (runsOf l).sum + (runsOf l).length = l.length + 1
  | [], _ => rfl
  | c :: l, h => by
    have ih := runs_sum l fun q hq => h q (.tail _ hq)
    show (List.sum (match runsOf l with | [] => [] | w :: r => if c = 41 then 0 :: w :: r else (w + 1) :: r)) + _ = _
    have e : runsOf (c :: l) = (match runsOf l with | [] => [] | w :: r => if c = 41 then 0 :: w :: r else (w + 1) :: r) := rfl
    rw [e]
    split
    · rename_i q; exact absurd q (runs_ne l)
    · rename_i w r q
      rw [q] at ih
      simp only [List.sum_cons, List.length_cons] at ih ⊢
      split <;> simp only [List.sum_cons, List.length_cons] <;> omega
theorem firsts_length : ∀ (b : Nat) (l : List Nat), (firstsOf b l).length = l.length
  | _, [] => rfl
  | b, c :: l => by show (firstsOf (b + c) l).length + 1 = _; rw [firsts_length (b + c) l]; rfl
theorem firsts_at : ∀ (b : Nat) (l : List Nat) (i : Nat), i < l.length → (firstsOf b l)[i]? = some (b + (l.take i).sum)
  | _, [], _, h => nomatch h
  | b, c :: l, 0, _ => by show some b = _; simp
  | b, c :: l, i + 1, h => by
    show (firstsOf (b + c) l)[i]? = _
    rw [firsts_at (b + c) l i (Nat.lt_of_succ_lt_succ h), List.take_succ_cons, List.sum_cons, Nat.add_assoc]
theorem sum_take_succ {l : List Nat} {i c : Nat} (h : l[i]? = some c) : (l.take (i + 1)).sum = (l.take i).sum + c := by
  rw [List.take_add_one, h, List.sum_append]; simp
theorem sum_take_le (l : List Nat) (i : Nat) : (l.take i).sum ≤ l.sum := by
  have h : (l.take i).sum + (l.drop i).sum = l.sum := by rw [← List.sum_append, List.take_append_drop]
  omega
theorem ints_at {vs : List Value} {ns : List Int} (h : IntsAre vs ns) {i : Nat} {v : Value} (e : vs[i]? = some v) : ∃ k t, ns[i]? = some k ∧ v = .int k t := by
  obtain ⟨k, t, a, b⟩ := IntsAre.at h i v e
  first | exact ⟨k, t, b, a⟩ | exact ⟨k, t, a, b⟩
theorem innerAt_step {p f k j : Nat} {X : List (List Nat)} (h : j < k) : innerAt p f (k - j) X = innerAt p f (k - (j + 1)) (innerStep p X (f + (k - (j + 1)))) := by
  have e : k - j = (k - (j + 1)) + 1 := by omega
  rw [e]; rfl
theorem innerStep_of {X : List (List Nat)} {p c : Nat} {a b : List Nat} (ha : X[p]? = some a) (hb : X[c]? = some b) : innerStep p X c = X.set p (a ++ (40 :: b ++ [41])) := by
  unfold innerStep
  rw [List.getD_eq_getElem?_getD, List.getD_eq_getElem?_getD, ha, hb]
  rfl
theorem reach_bound : ∀ (i : Nat) (p : List Nat × Nat), p ∈ reach i → p.2 ≤ i ∧ p.1.length + p.2 = 2 * i + 1
  | 0, p, h => by
    rcases List.mem_singleton.mp h with rfl
    exact ⟨Nat.le_refl _, rfl⟩
  | i + 1, p, h => by
    obtain ⟨q, hq, hp⟩ := List.mem_flatMap.mp h
    obtain ⟨e, he, rfl⟩ := List.mem_map.mp hp
    obtain ⟨h1, h2⟩ := reach_bound i q hq
    have := List.mem_range.mp he
    refine ⟨by dsimp only; omega, ?_⟩
    simp only [List.length_append, List.length_replicate, List.length_cons, List.length_nil]
    omega
theorem reach_step {i : Nat} {l : List Nat} {d e : Nat} (h : (l, d) ∈ reach i) (he : e < d + 2) : (l ++ List.replicate (d + 1 - e) 41 ++ [40], e) ∈ reach (i + 1) :=
  List.mem_flatMap.mpr ⟨_, h, List.mem_map.mpr ⟨e, List.mem_range.mpr he, rfl⟩⟩
theorem pages_of {i : Nat} {l : List Nat} {d : Nat} (h : (l, d) ∈ reach i) : l ++ List.replicate (d + 1) 41 ∈ pagesOf i := List.mem_map.mpr ⟨_, h, rfl⟩

end Mine
namespace Mine
--PLAIN
/-- the frame's names ps hold, those of st are forgotten, the others stand as in m₀ -/
noncomputable def Vars (ps : List (Str × Value)) (st : List Str) (m₀ m : Str → Option Value) : Prop := (∀ p ∈ ps, m p.1 = some p.2) ∧ ∀ z, (∀ p ∈ ps, z ≠ p.1) → st.contains z = false → m z = m₀ z
theorem Vars.eq {ps : List (Str × Value)} {st : List Str} {m₀ m : Str → Option Value} (V : Vars ps st m₀ m) : kstB (fun z => if st.contains z then m z else m₀ z) ps = m := by
  funext y
  refine kstB_eq V.1 fun hn => ?_
  show (if st.contains y = true then m y else m₀ y) = m y
  cases h3 : st.contains y with
  | true => simp
  | false => simp only [Bool.false_eq_true, if_false]; exact (V.2 y hn h3).symm
theorem Vars.fr {ps : List (Str × Value)} {st : List Str} {m₀ m : Str → Option Value} {h₀ h : Heap} {L : Addr} {x : Str} {v : Value} (V : Vars ps st m₀ m) (F : Fr h₀ L h (fun y => if y = x then some v else m y)) :
    Fr h₀ L h (fun y => if y = x then some v else kstB (fun z => if st.contains z then m z else m₀ z) ps y) := by rw [V.eq]; exact F
theorem Vars.frOut {ps : List (Str × Value)} {st : List Str} {m₀ m : Str → Option Value} {h₀ h : Heap} {L : Addr} (V : Vars ps st m₀ m) (F : Fr h₀ L h m) :
    Fr h₀ L h (kstB (fun z => if st.contains z then m z else m₀ z) ps) := by rw [V.eq]; exact F

noncomputable def LdEnd (h₀ : Heap) (L : Addr) (J : (Str → Option Value) → List (Addr × Obj) → Prop) (own : List (Addr × Obj)) (s₁ s₂ : Shared) : Prop :=
  ∃ h' tk m' news' nx, s₂ = { s₁ with heap := h', toks := tk } ∧ Fr h₀ L h' m' ∧ News h₀ L h' news' ∧ (∀ p ∈ nx, p ∈ news') ∧ (∀ p ∈ own, p ∈ news') ∧ J m' nx
noncomputable def LdPost (h₀ : Heap) (L : Addr) (J : (Str → Option Value) → List (Addr × Obj) → Prop) (own : List (Addr × Obj)) (s₁ : Shared) (Q : Flow → Shared → Prop) (f : Flow) (s₂ : Shared) : Prop :=
  match f with
  | .ret v => Q (.ret v) s₂
  | .brk => Q .next s₂
  | _ => LdEnd h₀ L J own s₁ s₂
/-- the state behind a turn: a letter c' -/
noncomputable def LdJ {σ : Type} (I : Addr) (Led : σ → List (Addr × Obj)) (ps : σ → List (Str × Value)) (st : List Str) (m₀ : Str → Option Value) (R : σ → Prop) (m : Str → Option Value) (nx : List (Addr × Obj)) : Prop :=
  (∀ p ∈ nx, p.1 ≠ I) ∧ ∃ c, nx = Led c ∧ Vars (ps c) st m₀ m ∧ R c
theorem ld_end {σ : Type} {I : Addr} {Led : σ → List (Addr × Obj)} {ps : σ → List (Str × Value)} {st : List Str} {m₀ m' : Str → Option Value} {R : σ → Prop} {h₀ h' : Heap} {L : Addr} {own news' : List (Addr × Obj)} {s₁ : Shared} {tk : Nat} (c : σ)
    (F : Fr h₀ L h' m') (N : News h₀ L h' news') (hn : ∀ p ∈ Led c, p ∈ news') (ho : ∀ p ∈ own, p ∈ news') (ha : ∀ p ∈ Led c, p.1 ≠ I) (h1 : ∀ p ∈ ps c, m' p.1 = some p.2) (h2 : ∀ z, (∀ p ∈ ps c, z ≠ p.1) → st.contains z = false → m' z = m₀ z) (hr : R c) :
    LdEnd h₀ L (LdJ I Led ps st m₀ R) own s₁ { s₁ with heap := h', toks := tk } := ⟨h', tk, m', news', Led c, rfl, F, N, hn, ho, ha, c, rfl, ⟨h1, h2⟩, hr⟩
section
variable {prog : Program} {w : World} {A : Around} {E : Value → Shared → Prop} {s : Shared} {env : Env} {h₀ : Heap} {x : Str} {body : List Stmt} {Q : Flow → Shared → Prop}
theorem loop_led {σ : Type} {I : Addr} {fp : List Addr} {n : Nat} {P : Nat → Value → Prop} {St : Nat → Heap → Prop} {m₀ : Str → Option Value} (Led : σ → List (Addr × Obj)) (ps : σ → List (Str × Value)) (st : List Str) (R : Nat → σ → Prop) (c₀ : σ)
    (W : Walks prog w A I fp [I] n P St) (hI : h₀.get? I = none) (hLf : env.locals ∉ fp) (hex : ∀ i h, St i h → ∃ o, h.get? I = some o) (hst : St 0 s.heap) (F : Fr h₀ env.locals s.heap m₀) (N : News h₀ env.locals s.heap (Led c₀)) (hnw : ∀ p ∈ Led c₀, p.1 ≠ I)
    (hk : ∀ p ∈ ps c₀, m₀ p.1 = some p.2) (hr : R 0 c₀)
    (turn : ∀ (c : σ) i v (u : Str → Option Value) h tk own, i < n → P i v → R i c → (∃ o, (I, o) ∈ own) → (∀ p ∈ own, p.1 ∈ fp) → (∀ p ∈ Led c, p.1 ≠ I) →
      Fr h₀ env.locals h (fun y => if y = x then some v else kstB (fun z => if st.contains z then u z else m₀ z) (ps c) y) → News h₀ env.locals h (Led c ++ own) →
      wpAny (model prog w) A (execs body env) (LdPost h₀ env.locals (LdJ I Led ps st m₀ (R (i + 1))) own { s with heap := h, toks := tk } Q) E { s with heap := h, toks := tk })
    (done : ∀ (c : σ) (u : Str → Option Value) h tk, R n c → Fr h₀ env.locals h (kstB (fun z => if st.contains z then u z else m₀ z) (ps c)) → News h₀ env.locals h (Led c) → Q .next { s with heap := h, toks := tk }) :
    LoopAtV prog w A h₀ env x body Q E (.ref I) s := by
  have hIf : I ∈ fp := W.sub I (.head _)
  let J' : Nat → (Str → Option Value) → List (Addr × Obj) → Prop := fun i m nx => ∃ c, nx = Led c ∧ Vars (ps c) st m₀ m ∧ R i c
  refine ⟨I, fp, [I], n, P, St, m₀, Led c₀, J', rfl, W, hLf, ?_, ?_, hst, F, N, ⟨c₀, rfl, ⟨hk, fun _ _ _ => rfl⟩, hr⟩, ?_, ?_⟩
  · intro b hb
    rw [List.mem_singleton.mp hb]; exact hI
  · intro p hp hm
    exact hnw p hp (List.mem_singleton.mp hm)
  · rintro i v m₁ news₁ s₁ own ⟨hh', tk', rfl⟩ hin hP ⟨c, rfl, V, hR⟩ hoff hown _ hmem hst₁ F₁ N₁
    obtain ⟨oi, hoi⟩ := hex _ _ hst₁
    have hII : (I, oi) ∈ own := hmem I hIf hI oi hoi
    have hne : ∀ p ∈ Led c, p.1 ≠ I := fun p hp e => hoff p hp (List.mem_singleton.mpr e)
    have N₂ : News h₀ env.locals hh' (Led c ++ own) := fun p hp => N₁ p ((List.mem_append.mp hp).elim (fun h => List.mem_append.mpr (.inr h)) fun h => List.mem_append.mpr (.inl h))
    refine wpAny_mono (turn c i v m₁ hh' tk' own hin hP hR ⟨oi, hII⟩ hown hne (V.fr F₁) N₂) (fun f s₂ p => ?_) fun _ _ e => e
    have fin : LdEnd h₀ env.locals (LdJ I Led ps st m₀ (R (i + 1))) own { s with heap := hh', toks := tk' } s₂ → LoopStepU h₀ env.locals [I] own (J' (i + 1)) { s with heap := hh', toks := tk' } .next s₂ := by
      rintro ⟨h', tk, m', news', nx, e, F', N', hn, ho, ha, hJ⟩
      exact ⟨rfl, h', tk, m', nx, e, F', fun p hp => N' p ((List.mem_append.mp hp).elim (ho p) (hn p)), fun p hp hq => ha p hp (List.mem_singleton.mp hq), hJ⟩
    cases f with
    | ret v => exact .ret p
    | brk => exact .brk p
    | next => exact .next (fin p)
    | cont => exact .cont (fin p)
  · rintro h' tk m' news' F' N' _ ⟨c, rfl, V, hR⟩
    exact done c m' h' tk hR (V.frOut F') N'

/-- a loop over a text's signs -/
theorem loop_text {σ : Type} {xt : Str} {tx : Tok} {m₀ : Str → Option Value} (Led : σ → List (Addr × Obj)) (ps : σ → List (Str × Value)) (st : List Str) (R : List Nat → σ → Prop) (c₀ : σ)
    (hh : A.handled = none) (F : Fr h₀ env.locals s.heap m₀) (N : News h₀ env.locals s.heap (Led c₀)) (hk : ∀ p ∈ ps c₀, m₀ p.1 = some p.2) (hr : R [] c₀)
    (turn : ∀ (c : σ) (pre post : List Nat) (n : Nat) t (u : Str → Option Value) h tk own I, xt.cps.toList = pre ++ n :: post → R pre c → (∃ o, (I, o) ∈ own) → (∀ p ∈ own, p.1 = I) → (∀ p ∈ Led c, p.1 ≠ I) →
      Fr h₀ env.locals h (fun y => if y = x then some (.str ⟨#[n]⟩ t) else kstB (fun z => if st.contains z then u z else m₀ z) (ps c) y) → News h₀ env.locals h (Led c ++ own) →
      wpAny (model prog w) A (execs body env) (LdPost h₀ env.locals (LdJ I Led ps st m₀ (R (pre ++ [n]))) own { s with heap := h, toks := tk } Q) E { s with heap := h, toks := tk })
    (done : ∀ (c : σ) (u : Str → Option Value) h tk, R xt.cps.toList c → Fr h₀ env.locals h (kstB (fun z => if st.contains z then u z else m₀ z) (ps c)) → News h₀ env.locals h (Led c) → Q .next { s with heap := h, toks := tk }) :
    wpAny (model prog w) A (pyIter (.str xt tx)) (fun it s₂ => LoopAtV prog w A h₀ env x body Q E it s₂) E s := by
  have main : ∀ (o : Obj) (St : Nat → Heap → Prop), Walks prog w A s.heap.objs.size [s.heap.objs.size] [s.heap.objs.size] xt.cps.size (SignAt xt) St → (∀ i h, St i h → ∃ o, h.get? s.heap.objs.size = some o) → St 0 (s.heap.push o) →
      LoopAtV prog w A h₀ env x body Q E (.ref s.heap.objs.size) { s with heap := s.heap.push o } := by
    intro o St W hex hst
    refine loop_led Led ps st (fun i c => R (xt.cps.toList.take i) c) c₀ W (next_is_new F) ?_ hex hst (F.push _) (fun p hp => ⟨Heap.get?_push_of_some _ (N p hp).1, (N p hp).2⟩) (fun p hp e => ?_) hk (by simpa using hr) ?_ ?_
    · intro hm
      exact absurd F.ns.lt ((List.mem_singleton.mp hm) ▸ Nat.lt_irrefl _)
    · exact absurd (Heap.lt_size (N p hp).1) (e ▸ Nat.lt_irrefl _)
    · rintro c i v u h tk own hi ⟨n, t, hn, rfl⟩ hR hII hown hne F₁ N₁
      have hn' : xt.cps.toList[i]? = some n := by simpa using hn
      have hs : xt.cps.toList.take (i + 1) = xt.cps.toList.take i ++ [n] := by simp only [List.take_add_one, hn', Option.toList_some]
      have e : xt.cps.toList = xt.cps.toList.take i ++ n :: xt.cps.toList.drop (i + 1) := by
        have ht := List.take_append_drop (i + 1) xt.cps.toList
        rw [hs, List.append_assoc] at ht
        exact ht.symm
      rw [hs]
      exact turn c _ _ n t u h tk own _ e hR hII (fun p hp => List.mem_singleton.mp (hown p hp)) hne F₁ N₁
    · intro c u h tk hR F₁ N₁
      have hl : xt.cps.toList.take xt.cps.size = xt.cps.toList := List.take_of_length_le (by simp)
      rw [hl] at hR
      exact done c u h tk hR F₁ N₁
  cases ha : xt.cps.all (· < 128)
  · exact wpAny_pyIter_wide ha (main _ _ (Walks.strWide hh _ xt tx) (fun i h y => let ⟨o, ho, _⟩ := y; ⟨o, ho⟩) ⟨_, Heap.get?_push_size _ rfl, rfl, rfl⟩)
  · exact wpAny_pyIter_ascii ha (main _ _ (Walks.strAscii hh _ xt tx) (fun i h y => let ⟨o, ho, _⟩ := y; ⟨o, ho⟩) ⟨_, Heap.get?_push_size _ rfl, rfl, rfl⟩)

/-- a loop over a list of the ledger, that stands while it is walked -/
theorem loop_vals {σ : Type} {l : Addr} {vs : List Value} {nn : Nat} {m₀ : Str → Option Value} (Led : σ → List (Addr × Obj)) (ps : σ → List (Str × Value)) (st : List Str) (R : Nat → σ → Prop) (c₀ : σ)
    (hh : A.handled = none) (hl : (l, listOf vs.toArray nn) ∈ Led c₀) (F : Fr h₀ env.locals s.heap m₀) (N : News h₀ env.locals s.heap (Led c₀)) (hk : ∀ p ∈ ps c₀, m₀ p.1 = some p.2) (hr : R 0 c₀)
    (turn : ∀ (c : σ) i v (u : Str → Option Value) h tk own I, vs[i]? = some v → R i c → (∃ o, (I, o) ∈ own) → (∀ p ∈ own, p.1 = I ∨ p.1 = l) → (∀ p ∈ Led c, p.1 ≠ I) →
      Fr h₀ env.locals h (fun y => if y = x then some v else kstB (fun z => if st.contains z then u z else m₀ z) (ps c) y) → News h₀ env.locals h (Led c ++ own) →
      wpAny (model prog w) A (execs body env) (LdPost h₀ env.locals (LdJ I Led ps st m₀ (R (i + 1))) own { s with heap := h, toks := tk } Q) E { s with heap := h, toks := tk })
    (done : ∀ (c : σ) (u : Str → Option Value) h tk, R vs.length c → Fr h₀ env.locals h (kstB (fun z => if st.contains z then u z else m₀ z) (ps c)) → News h₀ env.locals h (Led c) → Q .next { s with heap := h, toks := tk }) :
    wpAny (model prog w) A (pyIter (.ref l)) (fun it s₂ => LoopAtV prog w A h₀ env x body Q E it s₂) E s := by
  have hls : s.heap.IsList l vs.toArray := News.isList N hl
  obtain ⟨ol, hol, _⟩ := id hls
  have hlt : l < s.heap.objs.size := Heap.lt_size hol
  have hne : l ≠ s.heap.objs.size := Nat.ne_of_lt hlt
  refine wpAny_pyIter_list hls ?_
  have W := Walks.list (prog := prog) (w := w) hh s.heap.objs.size l hne vs.toArray
  have hlen : vs.toArray.size = vs.length := by simp
  rw [hlen] at W
  refine loop_led Led ps st R c₀ W (next_is_new F) ?_ (fun i h y => let ⟨⟨o, ho, _⟩, _⟩ := y; ⟨o, ho⟩) ⟨⟨_, Heap.get?_push_size _ rfl, rfl, rfl⟩, hls.at fun o e => Heap.get?_push_of_some _ e⟩ (F.push _) (fun p hp => ⟨Heap.get?_push_of_some _ (N p hp).1, (N p hp).2⟩) (fun p hp e => ?_) hk hr ?_ done
  · intro hm
    rcases List.mem_cons.mp hm with e | hm
    · exact absurd F.ns.lt (e ▸ Nat.lt_irrefl _)
    · exact absurd (List.mem_singleton.mp hm).symm (N _ hl).2.1
  · exact absurd (Heap.lt_size (N p hp).1) (e ▸ Nat.lt_irrefl _)
  · intro c i v u h tk own hi hP hR hII hown hne F₁ N₁
    exact turn c i v u h tk own _ (by simpa using hP) hR hII (fun p hp => (List.mem_cons.mp (hown p hp)).imp id List.mem_singleton.mp) hne F₁ N₁

/-- a loop over a range by ones -/
theorem loop_range {σ : Type} {r : Addr} {a₀ b₀ : Int} {t₀ u₀ v₀ : Tok} {n : Nat} {m₀ : Str → Option Value} (Led : σ → List (Addr × Obj)) (ps : σ → List (Str × Value)) (st : List Str) (R : Nat → σ → Prop) (c₀ : σ)
    (hh : A.handled = none) (hr : IsRange s.heap r a₀ b₀ 1 t₀ u₀ v₀) (hsmall : Builtin.Range.small a₀ b₀ 1 = true) (hn : Builtin.Range.rangeSize a₀ b₀ 1 = (n : Int)) (F : Fr h₀ env.locals s.heap m₀) (N : News h₀ env.locals s.heap (Led c₀)) (hk : ∀ p ∈ ps c₀, m₀ p.1 = some p.2) (hr0 : R 0 c₀)
    (turn : ∀ (c : σ) (i : Nat) t (u : Str → Option Value) h tk own I, i < n → R i c → (∃ o, (I, o) ∈ own) → (∀ p ∈ own, p.1 = I) → (∀ p ∈ Led c, p.1 ≠ I) →
      Fr h₀ env.locals h (fun y => if y = x then some (.int (a₀ + (i : Int)) t) else kstB (fun z => if st.contains z then u z else m₀ z) (ps c) y) → News h₀ env.locals h (Led c ++ own) →
      wpAny (model prog w) A (execs body env) (LdPost h₀ env.locals (LdJ I Led ps st m₀ (R (i + 1))) own { s with heap := h, toks := tk } Q) E { s with heap := h, toks := tk })
    (done : ∀ (c : σ) (u : Str → Option Value) h tk, R n c → Fr h₀ env.locals h (kstB (fun z => if st.contains z then u z else m₀ z) (ps c)) → News h₀ env.locals h (Led c) → Q .next { s with heap := h, toks := tk }) :
    wpAny (model prog w) A (pyIter (.ref r)) (fun it s₂ => LoopAtV prog w A h₀ env x body Q E it s₂) E s := by
  refine wpAny_pyIter_range hr hsmall ?_
  have W : Walks prog w A s.heap.objs.size [s.heap.objs.size] [s.heap.objs.size] n (fun i v => i < n ∧ ∃ t, v = .int (a₀ + i * 1) t)
      (fun i h => IsRangeIter h s.heap.objs.size (a₀ + (i : Nat) * 1) ((n : Int) - (i : Nat)) 1) := (Walks.range hh _ a₀ 1 n).bound
  refine loop_led Led ps st R c₀ W (next_is_new F) ?_ (fun i h y => ⟨_, y⟩) (by show IsRangeIter _ _ _ _ _; rw [hn]; simpa using Heap.get?_push_size _ rfl) (F.push _) (fun p hp => ⟨Heap.get?_push_of_some _ (N p hp).1, (N p hp).2⟩) (fun p hp e => ?_) hk hr0 ?_ done
  · intro hm
    exact absurd F.ns.lt ((List.mem_singleton.mp hm) ▸ Nat.lt_irrefl _)
  · exact absurd (Heap.lt_size (N p hp).1) (e ▸ Nat.lt_irrefl _)
  · rintro c i v u h tk own hi ⟨_, t, rfl⟩ hR hII hown hne F₁ N₁
    have e1 : a₀ + (i : Int) * 1 = a₀ + (i : Int) := by omega
    rw [e1] at F₁
    exact turn c i t u h tk own _ hi hR hII (fun p hp => List.mem_singleton.mp (hown p hp)) hne F₁ N₁
/-- a loop over a range down by ones -/
theorem loop_down {σ : Type} {r : Addr} {a₀ b₀ : Int} {t₀ u₀ v₀ : Tok} {n : Nat} {m₀ : Str → Option Value} (Led : σ → List (Addr × Obj)) (ps : σ → List (Str × Value)) (st : List Str) (R : Nat → σ → Prop) (c₀ : σ)
    (hh : A.handled = none) (hr : IsRange s.heap r a₀ b₀ (-1) t₀ u₀ v₀) (hsmall : Builtin.Range.small a₀ b₀ (-1) = true) (hn : Builtin.Range.rangeSize a₀ b₀ (-1) = (n : Int)) (F : Fr h₀ env.locals s.heap m₀) (N : News h₀ env.locals s.heap (Led c₀)) (hk : ∀ p ∈ ps c₀, m₀ p.1 = some p.2) (hr0 : R 0 c₀)
    (turn : ∀ (c : σ) (i : Nat) t (u : Str → Option Value) h tk own I, i < n → R i c → (∃ o, (I, o) ∈ own) → (∀ p ∈ own, p.1 = I) → (∀ p ∈ Led c, p.1 ≠ I) →
      Fr h₀ env.locals h (fun y => if y = x then some (.int (a₀ - (i : Int)) t) else kstB (fun z => if st.contains z then u z else m₀ z) (ps c) y) → News h₀ env.locals h (Led c ++ own) →
      wpAny (model prog w) A (execs body env) (LdPost h₀ env.locals (LdJ I Led ps st m₀ (R (i + 1))) own { s with heap := h, toks := tk } Q) E { s with heap := h, toks := tk })
    (done : ∀ (c : σ) (u : Str → Option Value) h tk, R n c → Fr h₀ env.locals h (kstB (fun z => if st.contains z then u z else m₀ z) (ps c)) → News h₀ env.locals h (Led c) → Q .next { s with heap := h, toks := tk }) :
    wpAny (model prog w) A (pyIter (.ref r)) (fun it s₂ => LoopAtV prog w A h₀ env x body Q E it s₂) E s := by
  refine wpAny_pyIter_range hr hsmall ?_
  have W : Walks prog w A s.heap.objs.size [s.heap.objs.size] [s.heap.objs.size] n (fun i v => i < n ∧ ∃ t, v = .int (a₀ + i * (-1)) t)
      (fun i h => IsRangeIter h s.heap.objs.size (a₀ + (i : Nat) * (-1)) ((n : Int) - (i : Nat)) (-1)) := (Walks.range hh _ a₀ (-1) n).bound
  refine loop_led Led ps st R c₀ W (next_is_new F) ?_ (fun i h y => ⟨_, y⟩) (by show IsRangeIter _ _ _ _ _; rw [hn]; simpa using Heap.get?_push_size _ rfl) (F.push _) (fun p hp => ⟨Heap.get?_push_of_some _ (N p hp).1, (N p hp).2⟩) (fun p hp e => ?_) hk hr0 ?_ done
  · intro hm
    exact absurd F.ns.lt ((List.mem_singleton.mp hm) ▸ Nat.lt_irrefl _)
  · exact absurd (Heap.lt_size (N p hp).1) (e ▸ Nat.lt_irrefl _)
  · rintro c i v u h tk own hi ⟨_, t, rfl⟩ hR hII hown hne F₁ N₁
    have e1 : a₀ + (i : Int) * (-1) = a₀ - (i : Int) := by omega
    rw [e1] at F₁
    exact turn c i t u h tk own _ hi hR hII (fun p hp => List.mem_singleton.mp (hown p hp)) hne F₁ N₁
end
section
variable {prog : Program} {w : World} {A : Around} {h₀ : Heap} {L : Addr} {m : Str → Option Value} {env : Env} {elt : PySem.Expr} {x : Str} {scope : Scope} {cl : List (Str × Addr)} {s : Shared} {S : List (Addr × Obj) → Prop} {P : Nat → Value → Prop} {Fin : List Value → List (Addr × Obj) → Prop} {news : List (Addr × Obj)}
/-- a comprehension whose element at i gives a value with G i -/
theorem comp_rest {n : Nat} (G : Nat → Value → Prop)
    (turn : ∀ i v I oI C oC D m₂ ys h tk (E' : Value → Shared → Prop), i < n → P i v → LCg.NsObj oC m₂ → m₂ x = some v → Fr h₀ L h m → News h₀ L h ((I, oI) :: (C, oC) :: (D, LCg.lst ys) :: news) → LCg.Off3 I C D news → ((@Ne Nat I C) ∧ (@Ne Nat I D) ∧ (@Ne Nat C D)) →
      wpAny (model prog w) A (eval elt (compEnvC scope cl C env)) (LCg.CompEnd h₀ L m { s with heap := h, toks := tk } I oI C oC D (LCg.lst ys) S (fun y news' => news' = news ∧ G i y)) E' { s with heap := h, toks := tk })
    (fin : ∀ ys, ys.length = n → (∀ i y, ys[i]? = some y → G i y) → Fin ys news) : LCg.CompRest prog w A h₀ L m env elt x scope cl s S P Fin n 0 [] news := by
  have key : ∀ (j i : Nat) (ys : List Value), i + j = n → ys.length = i → (∀ k y, ys[k]? = some y → G k y) → LCg.CompRest prog w A h₀ L m env elt x scope cl s S P Fin j i ys news := by
    intro j
    induction j with
    | zero =>
      intro i ys hi hl hy
      exact LCg.CompRest.zero (fin ys (by omega) hy)
    | succ j ih =>
      intro i ys hi hl hy
      refine LCg.CompRest.succ ?_
      intro v I oI C oC D m₂ h tk E' hv hC hx F N off ne
      refine wpAny_mono (turn i v I oI C oC D m₂ ys h tk E' (by omega) hv hC hx F N off ne) (fun y s₂ hq => ?_) fun _ _ e => e
      obtain ⟨h', tk', nw, e, F', N', off', hS, hn, hG⟩ := hq
      subst hn
      refine ⟨h', tk', nw, e, F', N', off', hS, ?_⟩
      refine ih (i + 1) _ (by omega) (by rw [List.length_append, hl]; rfl) ?_
      intro k z hz
      rw [List.getElem?_append] at hz
      by_cases hk : k < ys.length
      · rw [if_pos hk] at hz
        exact hy k z hz
      · rw [if_neg hk] at hz
        have hk' : k = i := by
          by_cases h0 : k - ys.length = 0
          · omega
          · rw [List.getElem?_eq_none (by simp; omega)] at hz; cases hz
        subst hk'
        rw [hl, Nat.sub_self] at hz
        cases hz
        exact hG
  exact key n 0 [] (by omega) rfl (fun k y hz => by rw [List.getElem?_nil] at hz; cases hz)
end
theorem ints_of : ∀ {ys : List Value} {ns : List Int}, ys.length = ns.length → (∀ (i : Nat) y n, ys[i]? = some y → ns[i]? = some n → ∃ t, y = .int n t) → IntsAre ys ns
  | [], [], _, _ => .nil
  | [], _ :: _, h, _ => nomatch h
  | _ :: _, [], h, _ => nomatch h
  | y :: ys, n :: ns, h, g => by
    obtain ⟨t, rfl⟩ := g 0 y n rfl rfl
    exact .cons n t (ints_of (Nat.succ.inj h) fun i z k hz hk => g (i + 1) z k hz hk)

end Mine
namespace Mine
--PLAIN

/-- what a caller of a def of the text holds: k calls deep -/
structure Cx (w : World) (k dp un : Nat) (cs : Scope) (A₀ : Around) (base : Heap) (outer : List Env) (h₀ : Heap) (L : Addr) (m : Str → Option Value) (news : List (Addr × Obj)) (loose : List Str) (mean : ExcName → Option Value) (mg mb : Str → Option Value) (h : Heap) : Prop where
  B : Below A₀ base outer h₀
  F : Fr h₀ L h m
  X : (hd.heap_39 w.params).In h₀
  N : News h₀ L h news
  T : Top hd.view_39 loose mean mg mb h₀
  hk : cs.kind = .function
  hdp : dp + k < recursionLimit
  hu : un + 8 * k < cLine

/-- a QName of the ledger -/
noncomputable def IsQ (news : List (Addr × Obj)) (v : Value) (t : Str) : Prop :=
  ∃ x d hsh kt tk, v = .ref x ∧ (x, instObj 157 d) ∈ news ∧ (d, dictOf [⟨hsh, .str (Str.ofString "text") kt, .str t tk⟩] 1) ∈ news
theorem IsQ.mono {news news' : List (Addr × Obj)} {v : Value} {t : Str} (h : IsQ news v t) (hs : ∀ p ∈ news, p ∈ news') : IsQ news' v t := by
  obtain ⟨x, d, hsh, kt, tk, rfl, h1, h2⟩ := h
  exact ⟨x, d, hsh, kt, tk, rfl, hs _ h1, hs _ h2⟩

/-- a row of QNames, each with its text -/
noncomputable def QsAre (news : List (Addr × Obj)) (its : List (Value × Str)) : Prop := ∀ p ∈ its, IsQ news p.1 p.2 ∧ p.2.length ≤ 100 ∧ 2 ≤ p.2.length
theorem QsAre.mono {news news' : List (Addr × Obj)} {its : List (Value × Str)} (h : QsAre news its) (hs : ∀ p ∈ news, p ∈ news') : QsAre news' its := fun p hp => ⟨(h p hp).1.mono hs, (h p hp).2⟩

end Mine
namespace Mine
section
variable {w : World} {dp un : Nat} {gd : Option (List Code)} {cn : Str} {cs : Scope} {a : Addr} {ccd : Value} {cl : List (Str × Addr)} {outer : List Env} {A₀ : Around} {base h₀ : Heap} {L : Addr} {m : Str → Option Value} {news : List (Addr × Obj)} {s : Shared} {loose : List Str} {mean : ExcName → Option Value} {mg mb : Str → Option Value} {Q E : Value → Shared → Prop}

theorem len_its {prog : Program} {A : Around} {l : Addr} {its : List (Value × Str)} {n : Nat} (N : News h₀ L s.heap news) (hl : (l, listOf (its.map (·.1)).toArray n) ∈ news) (hlen : its.length ≤ 100)
    (h : Q (.int its.length (s.toks + 1)) { s with toks := s.toks + 1 + 1 }) : wpAny (model prog w) A (call (.builtin "len") [.ref l]) Q E s := by
  have e : (its.map (·.1)).toArray.size = its.length := by simp
  refine len_list (News.isList N hl) (by rw [e]; omega) ?_
  rw [e]; exact h
theorem item_its {prog : Program} {A : Around} {value slice : PySem.Expr} {l : Addr} {its : List (Value × Str)} {n : Nat} {k : Int} {u : Tok} (N : News h₀ L s.heap news) (hl : (l, listOf (its.map (·.1)).toArray n) ∈ news) (hlen : its.length ≤ 100)
    (h0 : 0 ≤ k) (h1 : k < its.length) (h : ∀ p, p ∈ its → its[k.toNat]? = some p → Q p.1 s)
    (hs : subscripted slice false (.ref l) (.int k u) = operate [.ref l, .int k u] (getItem (.ref l) (.int k u)) := by with_unfolding_all rfl) (hg : ∀ r, letTemporaryGo value (.ref l) r = pure () := by intro _; with_unfolding_all rfl) :
    wpAny (model prog w) A (subscriptTail value slice (.ref l) (.int k u)) Q E s := by
  have hk : k.toNat < its.length := by omega
  have hp : its[k.toNat]? = some its[k.toNat] := List.getElem?_eq_getElem hk
  refine item_list (News.isList N hl) h0 (by omega) (x := its[k.toNat].1) ?_ (h _ (List.getElem_mem hk) hp) hs hg
  simp [hk]
theorem kl_ins_its (its : List (Value × Str)) (i : Nat) (hi : i ≤ its.length) (y : Value × Str) : kl_ins (its.map (·.1)).toArray.toList (i : Int) y.1 = (insertAt i y its).map (·.1) := by
  unfold kl_ins insertAt
  rw [if_neg (by omega)]
  simp only [Int.toNat_natCast, List.length_map, List.map_append, List.map_cons, List.map_take, List.map_drop]
  rw [Nat.min_eq_left hi]
theorem insert_its {prog : Program} {A : Around} {l : Addr} {its : List (Value × Str)} {n i : Nat} {u : Tok} {y : Value × Str} {news' : List (Addr × Obj)} (F : Fr h₀ L s.heap m) (N : News h₀ L s.heap news)
    (U : Upd l (listOf (its.map (·.1)).toArray n) (listOf ((insertAt i y its).map (·.1)).toArray (n + 1)) news news') (hlen : its.length ≤ 100) (hi : i ≤ its.length)
    (h : ∀ h', Fr h₀ L h' m → News h₀ L h' news' → Q .none { s with heap := h' }) : wpAny (model prog w) A (call (.builtin "list.insert") [.ref l, .int i u, y.1]) Q E s := by
  refine kl_insert F N ?_ (kl_ins_its its i hi y) U (by simp; have := sizeLine_eq; omega) h
  unfold Builtin.List.listFitsIndex
  simp; omega
theorem split_own {prog : Program} {A : Around} {x y : Str} {t u : Tok} (F : Fr h₀ L s.heap m) (N : News h₀ L s.heap news) (hy : (y.length == 0) = false) (hsz : x.length ≤ 100)
    (h : ∀ lr l h' k, l.map (·.1) = Txt.split x y → (∀ p ∈ news, p.1 ≠ lr) → Fr h₀ L h' m → News h₀ L h' ((lr, listOf (strValues l).toArray 0) :: news) → Q (.ref lr) { s with heap := h', toks := k }) :
    wpAny (model prog w) A (call (.builtin "str.split") [.str x t, .str y u]) Q E s :=
  splitN1 F N hy (fun l h' k e F' N' => h _ l h' k e (fun p hp => Nat.ne_of_lt (Heap.lt_size (N p hp).1)) F' N') (by have := sizeLine_eq; omega)
theorem slice_strs {prog : Program} {A : Around} {value slice : PySem.Expr} {l : Addr} {ll : List (Str × Tok)} {n : Nat} {k : Nat} {y : Int} {u : Tok} (F : Fr h₀ L s.heap m) (N : News h₀ L s.heap news) (hl : (l, listOf (strValues ll).toArray n) ∈ news) (hlen : ll.length ≤ 1000) (hy : y = (k : Int))
    (h : ∀ D h', Fr h₀ L h' m → News h₀ L h' ((D, listOf (strValues (ll.take k)).toArray 0) :: news) → (∀ p ∈ news, p.1 < D) → Q (.ref D) { s with heap := h' })
    (hs : subscripted slice false (.ref l) (.ref s.heap.objs.size) = operate [.ref s.heap.objs.size, .ref l] (getItem (.ref l) (.ref s.heap.objs.size)) := by with_unfolding_all rfl) (ht : ∀ r, letTemporaryGo value (.ref l) r = pure () := by intro _; with_unfolding_all rfl) :
    wpAny (model prog w) A (subscriptTail value slice (.ref l) (.ref s.heap.objs.size)) Q E { s with heap := s.heap.push { cls := .type "slice", data := .fields #[.none, .int y u, .none] } } := by
  subst hy
  have hz : (strValues ll).toArray.size = ll.length := by simp [strValues]
  refine kms_slice_lit (lo := none) (hi := some (k : Int)) F N (News.isList N hl) (by constructor) (by constructor) ?_ h hs ht (by rw [hz]; have := sizeLine_eq; omega)
  unfold kms_pick kms_lo kms_hi
  simp only [List.toList_toArray, List.drop_zero, Nat.sub_zero]
  rw [if_neg (by omega), Int.toNat_natCast, kmk_take_min]
  unfold strValues
  rw [List.map_take]
theorem empty_is : (Str.ofString "") = (⟨#[]⟩ : Str) := by decide +kernel
theorem join0_cps : ∀ ys : List Str, (Str.join ⟨#[]⟩ ys).cps.toList = (ys.map (·.cps.toList)).flatten
  | [] => rfl
  | [x] => by simp [Str.join]
  | x :: y :: r => by
    show (x ++ ⟨#[]⟩ ++ Str.join ⟨#[]⟩ (y :: r) : Str).cps.toList = _
    rw [Str.cps_append, Str.cps_append, Array.toList_append, Array.toList_append, join0_cps (y :: r)]
    simp
theorem join0_length (ys : List Str) : (Str.join ⟨#[]⟩ ys).length = (ys.map (·.length)).sum := by
  have h := congrArg List.length (join0_cps ys)
  rw [Array.length_toList, List.length_flatten, List.map_map] at h
  exact h
theorem join_strs {prog : Program} {A : Around} {t : Tok} {l : Addr} {ll : List (Str × Tok)} {n : Nat} (N : News h₀ L s.heap news) (hl : (l, listOf (strValues ll).toArray n) ∈ news) (hw : (ll.map (·.1.length)).sum + ll.length ≤ 1000)
    (h : ∀ t' k, Q (.str (Str.join ⟨#[]⟩ (ll.map (·.1))) t') { s with toks := k }) : wpAny (model prog w) A (call (.builtin "str.join") [.str (Str.ofString "") t, .ref l]) Q E s := by
  refine join_listW (News.isList N hl) (ys := ll.map (·.1)) (strsAre_of_values ll) (by rw [empty_is]; exact Nat.zero_le _) (by rw [List.map_map, List.length_map]; exact Nat.le_trans hw (by decide)) ?_
  intro t' k
  have e : Txt.join (Str.ofString "") (ll.map (·.1)) = Str.join ⟨#[]⟩ (ll.map (·.1)) := by
    rw [empty_is]; exact StrLaws.glued_eq_join _ _
  rw [e]
  exact h t' k
theorem len_own {prog : Program} {A : Around} {x : Str} {t : Tok} (hx : x.length ≤ 1000) (h : ∀ t' tk, Q (.int x.length t') { s with toks := tk }) : wpAny (model prog w) A (call (.builtin "len") [.str x t]) Q E s :=
  SBL.len (by omega) (h _ _)
theorem len_vals {prog : Program} {A : Around} {l : Addr} {vs : List Value} {n : Nat} (N : News h₀ L s.heap news) (hl : (l, listOf vs.toArray n) ∈ news) (hlen : vs.length ≤ 1000)
    (h : ∀ t tk, Q (.int vs.length t) { s with toks := tk }) : wpAny (model prog w) A (call (.builtin "len") [.ref l]) Q E s := by
  have e : vs.toArray.size = vs.length := by simp
  refine len_list (News.isList N hl) (by rw [e]; omega) ?_
  rw [e]; exact h _ _
theorem item_vals {prog : Program} {A : Around} {value slice : PySem.Expr} {l : Addr} {vs : List Value} {n : Nat} {k : Int} {u : Tok} (N : News h₀ L s.heap news) (hl : (l, listOf vs.toArray n) ∈ news) (hlen : vs.length ≤ 1000)
    (h0 : 0 ≤ k) (h1 : k < vs.length) (h : ∀ v, vs[k.toNat]? = some v → Q v s)
    (hs : subscripted slice false (.ref l) (.int k u) = operate [.ref l, .int k u] (getItem (.ref l) (.int k u)) := by with_unfolding_all rfl) (hg : ∀ r, letTemporaryGo value (.ref l) r = pure () := by intro _; with_unfolding_all rfl) :
    wpAny (model prog w) A (subscriptTail value slice (.ref l) (.int k u)) Q E s := by
  have hk : k.toNat < vs.length := by omega
  have hp : vs[k.toNat]? = some vs[k.toNat] := List.getElem?_eq_getElem hk
  refine item_list (News.isList N hl) h0 (by omega) (x := vs[k.toNat]) ?_ (h _ hp) hs hg
  simp [hk]
theorem foldl_rep (v : Value) : ∀ (n : Nat) (acc : Array Value), List.foldl (fun x1 x2 => x1 ++ x2) acc (List.replicate n #[v]) = acc ++ (List.replicate n v).toArray
  | 0, acc => by simp
  | n + 1, acc => by
    rw [List.replicate_succ, List.foldl_cons, foldl_rep v n, List.replicate_succ, Array.append_assoc]
    congr 1
    apply Array.toList_inj.mp
    simp
theorem mul_one {prog : Program} {A : Around} {l : Addr} {v : Value} {k n : Nat} {x : Int} {u : Tok} (F : Fr h₀ L s.heap m) (N : News h₀ L s.heap news) (hl : (l, listOf [v].toArray k) ∈ news) (hx : x = (n : Int)) (hn : n ≤ 1000)
    (h : ∀ l' h', (∀ p ∈ news, p.1 ≠ l') → Fr h₀ L h' m → News h₀ L h' ((l', listOf (List.replicate n v).toArray 0) :: news) → Q (.ref l') { s with heap := h' }) :
    wpAny (model prog w) A (binaryOp .Mult (.ref l) (.int x u)) Q E s := by
  subst hx
  refine mul_list F N (items := [v].toArray) (k := k) (N _ hl).1 (by omega) (by omega) (by simp; omega) fun h' F' N' => h _ h' (fun p hp => Nat.ne_of_lt (Heap.lt_size (N p hp).1)) F' ?_
  have e : List.foldl (fun x1 x2 => x1 ++ x2) #[] (List.replicate (if ([v].toArray).isEmpty = true then 0 else ((n : Nat) : Int).toNat) [v].toArray) = (List.replicate n v).toArray := by
    rw [if_neg (by simp), Int.toNat_natCast]
    have := foldl_rep v n #[]
    simpa using this
  rw [e] at N'
  exact N'
theorem strs_rep (n : Nat) (y : Str) (t : Tok) : List.replicate n (.str y t) = strValues (List.replicate n (y, t)) := by
  unfold strValues; rw [List.map_replicate]
theorem set_vals {prog : Program} {A : Around} {D : Addr} {vs : List Value} {n : Nat} {k : Int} {t : Tok} {v : Value} {news' : List (Addr × Obj)} {Q : Unit → Shared → Prop} (F : Fr h₀ L s.heap m) (N : News h₀ L s.heap news)
    (U : Upd D (listOf vs.toArray n) (listOf (vs.set k.toNat v).toArray n) news news') (h0 : 0 ≤ k) (h1 : k < vs.length) (hlen : vs.length ≤ 1000)
    (h : ∀ h', Fr h₀ L h' m → News h₀ L h' news' → Q () { s with heap := h' }) : wpAny (model prog w) A (setItem (.ref D) (.int k t) v) Q E s := by
  obtain ⟨pre, post, rfl, rfl, a, b⟩ := U.split
  have z := N (D, listOf vs.toArray n) (List.mem_append.mpr (.inr (.head _)))
  have hs : vs.toArray.size = vs.length := by rw [List.size_toArray]
  refine ki_setAt z.1 h0 (by omega) (by omega) (h _ (F.change (Heap.SameBut.update ..) z.2.1 z.2.2) (ki_turn _ N a b ?_ ?_))
  · show vs.toArray.setIfInBounds k.toNat v = (vs.set k.toNat v).toArray
    apply Array.toList_inj.mp
    simp
  · simp
theorem get_vals {prog : Program} {A : Around} {l : Addr} {vs : List Value} {n : Nat} {k : Int} {u : Tok} (N : News h₀ L s.heap news) (hl : (l, listOf vs.toArray n) ∈ news) (hlen : vs.length ≤ 1000)
    (h0 : 0 ≤ k) (h1 : k < vs.length) (h : ∀ v, vs[k.toNat]? = some v → Q v s) : wpAny (model prog w) A (getItem (.ref l) (.int k u)) Q E s := by
  have hk : k.toNat < vs.length := by omega
  have hp : vs[k.toNat]? = some vs[k.toNat] := List.getElem?_eq_getElem hk
  exact wpAny_getItem_list (News.isList N hl) h0 (by omega) (x := vs[k.toNat]) (by simp [hk]) (h _ hp)
theorem strs_at {ll : List (Str × Tok)} {i : Nat} {v : Value} (h : (strValues ll)[i]? = some v) : ∃ p, ll[i]? = some p ∧ v = .str p.1 p.2 := by
  unfold strValues at h
  rw [List.getElem?_map] at h
  obtain ⟨p, hp, e⟩ := Option.map_eq_some_iff.mp h
  exact ⟨p, hp, e.symm⟩
theorem strs_len (ll : List (Str × Tok)) : (strValues ll).length = ll.length := by simp [strValues]
theorem strs_set (ll : List (Str × Tok)) (i : Nat) (y : Str) (t : Tok) : (strValues ll).set i (.str y t) = strValues (ll.set i (y, t)) := by
  unfold strValues; rw [List.map_set]
theorem add_own {prog : Program} {A : Around} {x y : Str} {t u : Tok} (hz : x.length + y.length ≤ 100000) (h : ∀ t' tk, Q (.str (x ++ y) t') { s with toks := tk }) : wpAny (model prog w) A (binaryOp .Add (.str x t) (.str y u)) Q E s :=
  PyProof.Rows.add_str h (by have := sizeLine_eq; omega)
theorem iadd_own {prog : Program} {A : Around} {x y : Str} {t u : Tok} (hz : x.length + y.length ≤ 100000) (h : ∀ t' tk, Q (.str (x ++ y) t') { s with toks := tk }) : wpAny (model prog w) A (inplaceOp .Add (.str x t) (.str y u)) Q E s :=
  PyProof.Rows.iadd_str h (by have := sizeLine_eq; omega)
theorem len_app (x y : Str) : (x ++ y).length = x.length + y.length := by
  unfold Str.length
  rw [Str.cps_append, Array.size_append]
theorem open_cps : (Str.ofString "(").cps.toList = [40] := by decide +kernel
theorem close_cps : (Str.ofString ")").cps.toList = [41] := by decide +kernel
theorem open_len : (Str.ofString "(").length = 1 := by decide +kernel
theorem close_len : (Str.ofString ")").length = 1 := by decide +kernel
theorem ints_some {vs : List Value} {ns : List Int} (hi : IntsAre vs ns) : ∀ {zs : List Value}, (∀ z ∈ zs, z ∈ vs) → ∃ ms, IntsAre zs ms
  | [], _ => ⟨[], .nil⟩
  | z :: zs, h => by
    obtain ⟨ms, hm⟩ := ints_some hi fun y hy => h y (.tail _ hy)
    obtain ⟨i, hlt, e⟩ := List.mem_iff_getElem.mp (h z (.head _))
    obtain ⟨k, t, _, rfl⟩ := ints_at hi (i := i) (v := z) (by rw [List.getElem?_eq_getElem hlt, e])
    exact ⟨k :: ms, .cons k t hm⟩
theorem slice3_ints {prog : Program} {A : Around} {value slice : PySem.Expr} {l : Addr} {vs : List Value} {ns : List Int} {i k : Int} {u t : Tok} {ops : List Value} (F : Fr h₀ L s.heap m) (N : News h₀ L s.heap news) (hl : s.heap.IsList l vs.toArray) (hi : IntsAre vs ns) (hlen : ns.length ≤ 1000) (hk : k ≠ 0)
    (h : ∀ D zs ms h', IntsAre zs ms → Fr h₀ L h' m → News h₀ L h' ((D, listOf zs.toArray 0) :: news) → (∀ p ∈ news, p.1 < D) → Q (.ref D) { s with heap := h' })
    (hs : subscripted slice false (.ref l) (.ref s.heap.objs.size) = operate ops (getItem (.ref l) (.ref s.heap.objs.size)) := by with_unfolding_all rfl) (ht : ∀ r, letTemporaryGo value (.ref l) r = pure () := by intro _; with_unfolding_all rfl) :
    wpAny (model prog w) A (subscriptTail value slice (.ref l) (.ref s.heap.objs.size)) Q E { s with heap := s.heap.push { cls := .type "slice", data := .fields #[.int i u, .none, .int k t] } } := by
  have hm : ∀ z ∈ (slicePick vs.toArray (some i) none (some k)).toList, z ∈ vs := by
    intro z hz
    unfold slicePick at hz
    rw [List.toList_toArray] at hz
    obtain ⟨j, _, hj⟩ := List.mem_filterMap.mp hz
    exact List.mem_of_getElem? (by simpa using hj)
  obtain ⟨ms, hms⟩ := ints_some hi hm
  exact kmk_slice3_lit (zs := (slicePick vs.toArray (some i) none (some k)).toList) F N hl (.int _ _) .none (.int _ _) (by intro e; cases e; exact hk rfl) rfl (fun D h' F' N' l' => h D _ ms h' hms F' N' l') hs ht (by rw [List.size_toArray, hi.length]; have := sizeLine_eq; omega)
theorem foldl_cps (v : Nat) : ∀ (n : Nat) (acc : Array Nat), List.foldl (fun x1 x2 => x1 ++ x2) acc (List.replicate n #[v]) = acc ++ (List.replicate n v).toArray
  | 0, acc => by simp
  | n + 1, acc => by
    rw [List.replicate_succ, List.foldl_cons, foldl_cps v n, List.replicate_succ, Array.append_assoc]
    congr 1
    apply Array.toList_inj.mp
    simp
theorem mul_close {prog : Program} {A : Around} {n : Int} {k : Nat} {t u : Tok} (hn : n = (k : Int)) (hk : k ≤ 1000) (h : ∀ y t' tk, y.cps.toList = List.replicate k 41 → Q (.str y t') { s with toks := tk }) :
    wpAny (model prog w) A (binaryOp .Mult (.str (Str.ofString ")") t) (.int n u)) Q E s := by
  subst hn
  refine SB.mul ⟨?_, ?_, ?_⟩ fun t' tk => h _ t' tk ?_
  · simp only [Bool.or_eq_false_iff, decide_eq_false_iff_not]; omega
  · intro h1 _ h2
    rw [close_len] at h2
    have h3 : (1 : Int) ≤ (2 ^ 63 - 1) / (k : Int) := (Int.le_ediv_iff_mul_le (by omega)).mpr (by omega)
    omega
  · intro _ _
    rw [close_len, Int.toNat_natCast]
    unfold Builtin.Str.tooLong
    simp only [decide_eq_false_iff_not]
    have := sizeLine_eq
    omega
  · unfold Txt.mul
    rw [close_len]
    split
    · have : k = 0 := by omega
      subst this; rfl
    · split
      · rename_i h1 h2
        have : k = 1 := by
          rcases Bool.or_eq_true_iff.mp h2 with e | e
          · have := beq_iff_eq.mp e; omega
          · cases e
        subst this
        exact close_cps
      · rw [close_is, Int.toNat_natCast]
        show (List.foldl (fun x1 x2 => x1 ++ x2) #[] (List.replicate k #[41])).toList = _
        rw [foldl_cps]
        simp
theorem quote_is : (Str.ofString "\"") = (⟨#[34]⟩ : Str) := by decide +kernel
theorem notin_quote {prog : Program} {A : Around} {x : Str} {t u : Tok} (hx : 34 ∉ x.cps.toList) (h : Q (.bool true) s) : wpAny (model prog w) A (compareOp .NotIn (.str (Str.ofString "\"") u) (.str x t)) Q E s := by
  refine notIn_str ?_
  rw [quote_is, StrLaws.found_one, decide_eq_false hx]
  exact h

end
end Mine
namespace Mine
section
variable {w : World} {dp un : Nat} {gd : Option (List Code)} {cn : Str} {cs : Scope} {a : Addr} {ccd : Value} {cl : List (Str × Addr)} {outer : List Env} {A₀ : Around} {base h₀ : Heap} {L : Addr} {m : Str → Option Value} {news : List (Addr × Obj)} {s : Shared} {loose : List Str} {mean : ExcName → Option Value} {mg mb : Str → Option Value} {Q E : Value → Shared → Prop}

set_option maxRecDepth 100000 in
set_option maxHeartbeats 8000000 in
theorem getitem_call {x : Str} {t : Tok} {k : Int} {tk : Tok} 
    (C : Cx w 1 dp un cs A₀ base outer h₀ L m news loose mean mg mb s.heap)
    (hx : x.length ≤ 100) (h0 : -(x.length : Int) ≤ k) (h1 : k < x.length)
    (hret : ∀ t h' tk', Fr h₀ L h' m → News h₀ L h' news → Q (.str (Txt.item x k) t) {s with heap := h', toks := tk'}) :
    wpAny (model PySem.Challenge.rw_wu0073_01.row.prog w) (ktrTop dp un gd cn cs L a ccd cl outer) (call (.ref 83) [.str x t, .int k tk]) Q E s := by
  obtain ⟨B, F, X, N, T, hk, hdp, hu⟩ := C
  revert X; k_fill; intro X
  ((refine wpAny_call ?_; k_dflt (refine' code_def ?k1q1 ?k2q1 ?k3q1 ?k4q1 ?k5q1 ?kAq1 ?kFq1 ?kKq1 ?k6q1 ?k7q1 ?k8q1 ?k9q1 ?kBq1 ?_ ?c2q1 ?c3q1 ?c4q1 ?c5q1; (case kAq1 => exact rfl); (case kFq1 => exact rfl); (case kKq1 => first | exact rfl | assumption); (case k1q1 => k_asm); (case k2q1 => k_asm); (case k3q1 => k_asm); (case k4q1 => k_asm); (case k5q1 => k_asm); (case k6q1 => k_is); (case k7q1 => k_is); (case k8q1 => ktr_room); (case k9q1 => first | exact BindsTo.of_eq rfl | exact binds_K (by k_in) rfl (by k_is) rfl rfl rfl | (refine' kp_binds ?kxq1 ?keq1; (case kxq1 => k_in); (case keq1 => exact fun _ => rfl))); (case c5q1 => decide); (case kBq1 => exact locs rfl); (case c2q1 => exact rfl); (case c3q1 => exact rfl); (case c4q1 => exact rfl); k_whole; intro _ _ _ _ _ _ _ _ _; (try dsimp only); (try k_fold))))
  have hfit : fitsSsize k = true := by unfold fitsSsize; simp only [Bool.not_eq_true', Bool.or_eq_false_iff, decide_eq_false_iff_not, Bool.and_eq_true, decide_eq_true_eq]; omega
  k_steps
  exact hret _ _ _ (by assumption) (by assumption)

set_option maxRecDepth 100000 in
set_option maxHeartbeats 8000000 in
theorem law_depth_call {x : Str} {v : Value}
    (C : Cx w 2 dp un cs A₀ base outer h₀ L m news loose mean mg mb s.heap)
    (hq : IsQ news v x)
    (hx : x.length ≤ 100) (h0 : 2 ≤ x.length) 
    (hret : ∀ t h' tk', Fr h₀ L h' m → News h₀ L h' news → Q (.str (Txt.item x 1) t) {s with heap := h', toks := tk'}) :
    wpAny (model PySem.Challenge.rw_wu0073_01.row.prog w) (ktrTop dp un gd cn cs L a ccd cl outer) (call (.ref 175) [v]) Q E s := by
  obtain ⟨B, F, X, N, T, hk, hdp, hu⟩ := C
  revert X; k_fill; intro X
  obtain ⟨x, d, hsh, kt, tk, rfl, m1, m2⟩ := hq
  ((refine wpAny_call ?_; k_dflt (refine' code_def ?k1q2 ?k2q2 ?k3q2 ?k4q2 ?k5q2 ?kAq2 ?kFq2 ?kKq2 ?k6q2 ?k7q2 ?k8q2 ?k9q2 ?kBq2 ?_ ?c2q2 ?c3q2 ?c4q2 ?c5q2; (case kAq2 => exact rfl); (case kFq2 => exact rfl); (case kKq2 => first | exact rfl | assumption); (case k1q2 => k_asm); (case k2q2 => k_asm); (case k3q2 => k_asm); (case k4q2 => k_asm); (case k5q2 => k_asm); (case k6q2 => k_is); (case k7q2 => k_is); (case k8q2 => ktr_room); (case k9q2 => first | exact BindsTo.of_eq rfl | exact binds_K (by k_in) rfl (by k_is) rfl rfl rfl | (refine' kp_binds ?kxq2 ?keq2; (case kxq2 => k_in); (case keq2 => exact fun _ => rfl))); (case c5q2 => decide); (case kBq2 => exact locs rfl); (case c2q2 => exact rfl); (case c3q2 => exact rfl); (case c4q2 => exact rfl); k_whole; intro _ _ _ _ _ _ _ _ _; (try dsimp only); (try k_fold))))
  k_steps
  refine' getitem_call (by ((refine' Mine.Cx.mk ?cBq3 ?cFq3 ?cXq3 ?cNq3 ?cTq3 ?ckq3 ?cdq3 ?cuq3; (case cBq3 => k_asm); (case cFq3 => k_asm); (case cXq3 => k_asm); (case cNq3 => k_asm); (case cTq3 => k_asm); (case ckq3 => first | exact rfl | assumption); (case cdq3 => ktr_room); (case cuq3 => ktr_units)))) hx (by omega) (by omega) ?_
  intro t' h' tk' F' N'
  k_steps
  exact hret _ _ _ (by assumption) (by assumption)

end
end Mine
namespace Mine
section
variable {w : World} {dp un : Nat} {gd : Option (List Code)} {cn : Str} {cs : Scope} {a : Addr} {ccd : Value} {cl : List (Str × Addr)} {outer : List Env} {A₀ : Around} {base h₀ : Heap} {L : Addr} {m : Str → Option Value} {news : List (Addr × Obj)} {s : Shared} {loose : List Str} {mean : ExcName → Option Value} {mg mb : Str → Option Value} {Q E : Value → Shared → Prop}

set_option maxRecDepth 100000 in
set_option maxHeartbeats 8000000 in
theorem qlt_qq {x y : Str} {xv yv : Value} (C : Cx w 1 dp un cs A₀ base outer h₀ L m news loose mean mg mb s.heap) (hx : IsQ news xv x) (hy : IsQ news yv y)
    (hret : ∀ h' tk', Fr h₀ L h' m → News h₀ L h' news → Q (.bool (decide (x.cps.toList < y.cps.toList))) {s with heap := h', toks := tk'}) :
    wpAny (model PySem.Challenge.rw_wu0073_01.row.prog w) (ktrTop dp un gd cn cs L a ccd cl outer) (compareOp .Lt xv yv) Q E s := by
  obtain ⟨B, F, X, N, T, hk, hdp, hu⟩ := C
  revert X; k_fill; intro X
  obtain ⟨xx, xd, xh, xkt, xtk, rfl, xm1, xm2⟩ := hx
  obtain ⟨yx, yd, yh, ykt, ytk, rfl, ym1, ym2⟩ := hy
  refine cmp_ofLt ?_
  ((k_dflt (refine' cmp_K ?k1q4 ?k2q4 ?k3q4 ?k4q4 ?k5q4 ?k6q4 ?k7q4 ?k8q4 ?_; (case k1q4 => ktr_units); (case k2q4 => k_asm); (case k3q4 => k_asm); (case k4q4 => k_inst); (case k5q4 => k_typeOf); (case k6q4 => k_is); (case k7q4 => k_is); (case k8q4 => k_is); k_whole)))
  ((refine wpAny_call ?_; k_dflt (refine' code_def ?k1q5 ?k2q5 ?k3q5 ?k4q5 ?k5q5 ?kAq5 ?kFq5 ?kKq5 ?k6q5 ?k7q5 ?k8q5 ?k9q5 ?kBq5 ?_ ?c2q5 ?c3q5 ?c4q5 ?c5q5; (case kAq5 => exact rfl); (case kFq5 => exact rfl); (case kKq5 => first | exact rfl | assumption); (case k1q5 => k_asm); (case k2q5 => k_asm); (case k3q5 => k_asm); (case k4q5 => k_asm); (case k5q5 => k_asm); (case k6q5 => k_is); (case k7q5 => k_is); (case k8q5 => ktr_room); (case k9q5 => first | exact BindsTo.of_eq rfl | exact binds_K (by k_in) rfl (by k_is) rfl rfl rfl | (refine' kp_binds ?kxq5 ?keq5; (case kxq5 => k_in); (case keq5 => exact fun _ => rfl))); (case c5q5 => decide); (case kBq5 => exact locs rfl); (case c2q5 => exact rfl); (case c3q5 => exact rfl); (case c4q5 => exact rfl); k_whole; intro _ _ _ _ _ _ _ _ _; (try dsimp only); (try k_fold))))
  k_steps
  exact hret _ _ (by assumption) (by assumption)
set_option maxRecDepth 100000 in
set_option maxHeartbeats 8000000 in
theorem qlt_qs {x y : Str} {xv : Value} {yt : Tok} (C : Cx w 1 dp un cs A₀ base outer h₀ L m news loose mean mg mb s.heap) (hx : IsQ news xv x)
    (hret : ∀ h' tk', Fr h₀ L h' m → News h₀ L h' news → Q (.bool (decide (x.cps.toList < y.cps.toList))) {s with heap := h', toks := tk'}) :
    wpAny (model PySem.Challenge.rw_wu0073_01.row.prog w) (ktrTop dp un gd cn cs L a ccd cl outer) (compareOp .Lt xv (.str y yt)) Q E s := by
  obtain ⟨B, F, X, N, T, hk, hdp, hu⟩ := C
  revert X; k_fill; intro X
  obtain ⟨xx, xd, xh, xkt, xtk, rfl, xm1, xm2⟩ := hx
  refine cmp_ofLt ?_
  ((k_dflt (refine' cmp_K ?k1q6 ?k2q6 ?k3q6 ?k4q6 ?k5q6 ?k6q6 ?k7q6 ?k8q6 ?_; (case k1q6 => ktr_units); (case k2q6 => k_asm); (case k3q6 => k_asm); (case k4q6 => k_inst); (case k5q6 => k_typeOf); (case k6q6 => k_is); (case k7q6 => k_is); (case k8q6 => k_is); k_whole)))
  ((refine wpAny_call ?_; k_dflt (refine' code_def ?k1q7 ?k2q7 ?k3q7 ?k4q7 ?k5q7 ?kAq7 ?kFq7 ?kKq7 ?k6q7 ?k7q7 ?k8q7 ?k9q7 ?kBq7 ?_ ?c2q7 ?c3q7 ?c4q7 ?c5q7; (case kAq7 => exact rfl); (case kFq7 => exact rfl); (case kKq7 => first | exact rfl | assumption); (case k1q7 => k_asm); (case k2q7 => k_asm); (case k3q7 => k_asm); (case k4q7 => k_asm); (case k5q7 => k_asm); (case k6q7 => k_is); (case k7q7 => k_is); (case k8q7 => ktr_room); (case k9q7 => first | exact BindsTo.of_eq rfl | exact binds_K (by k_in) rfl (by k_is) rfl rfl rfl | (refine' kp_binds ?kxq7 ?keq7; (case kxq7 => k_in); (case keq7 => exact fun _ => rfl))); (case c5q7 => decide); (case kBq7 => exact locs rfl); (case c2q7 => exact rfl); (case c3q7 => exact rfl); (case c4q7 => exact rfl); k_whole; intro _ _ _ _ _ _ _ _ _; (try dsimp only); (try k_fold))))
  k_steps
  exact hret _ _ (by assumption) (by assumption)
set_option maxRecDepth 100000 in
set_option maxHeartbeats 8000000 in
theorem qeq_qs {x y : Str} {xv : Value} {yt : Tok} (C : Cx w 1 dp un cs A₀ base outer h₀ L m news loose mean mg mb s.heap) (hx : IsQ news xv x)
    (hret : ∀ h' tk', Fr h₀ L h' m → News h₀ L h' news → Q (.bool (x == y)) {s with heap := h', toks := tk'}) :
    wpAny (model PySem.Challenge.rw_wu0073_01.row.prog w) (ktrTop dp un gd cn cs L a ccd cl outer) (compareOp .Eq xv (.str y yt)) Q E s := by
  obtain ⟨B, F, X, N, T, hk, hdp, hu⟩ := C
  revert X; k_fill; intro X
  obtain ⟨xx, xd, xh, xkt, xtk, rfl, xm1, xm2⟩ := hx
  refine cmp_ofEq ?_
  ((k_dflt (refine' cmp_K ?k1q8 ?k2q8 ?k3q8 ?k4q8 ?k5q8 ?k6q8 ?k7q8 ?k8q8 ?_; (case k1q8 => ktr_units); (case k2q8 => k_asm); (case k3q8 => k_asm); (case k4q8 => k_inst); (case k5q8 => k_typeOf); (case k6q8 => k_is); (case k7q8 => k_is); (case k8q8 => k_is); k_whole)))
  ((refine wpAny_call ?_; k_dflt (refine' code_def ?k1q9 ?k2q9 ?k3q9 ?k4q9 ?k5q9 ?kAq9 ?kFq9 ?kKq9 ?k6q9 ?k7q9 ?k8q9 ?k9q9 ?kBq9 ?_ ?c2q9 ?c3q9 ?c4q9 ?c5q9; (case kAq9 => exact rfl); (case kFq9 => exact rfl); (case kKq9 => first | exact rfl | assumption); (case k1q9 => k_asm); (case k2q9 => k_asm); (case k3q9 => k_asm); (case k4q9 => k_asm); (case k5q9 => k_asm); (case k6q9 => k_is); (case k7q9 => k_is); (case k8q9 => ktr_room); (case k9q9 => first | exact BindsTo.of_eq rfl | exact binds_K (by k_in) rfl (by k_is) rfl rfl rfl | (refine' kp_binds ?kxq9 ?keq9; (case kxq9 => k_in); (case keq9 => exact fun _ => rfl))); (case c5q9 => decide); (case kBq9 => exact locs rfl); (case c2q9 => exact rfl); (case c3q9 => exact rfl); (case c4q9 => exact rfl); k_whole; intro _ _ _ _ _ _ _ _ _; (try dsimp only); (try k_fold))))
  k_steps
  exact hret _ _ (by assumption) (by assumption)

end
end Mine
namespace Mine
section
variable {w : World} {dp un : Nat} {gd : Option (List Code)} {cn : Str} {cs : Scope} {a : Addr} {ccd : Value} {cl : List (Str × Addr)} {outer : List Env} {A₀ : Around} {base h₀ : Heap} {L : Addr} {m : Str → Option Value} {news : List (Addr × Obj)} {s : Shared} {loose : List Str} {mean : ExcName → Option Value} {mg mb : Str → Option Value} {Q E : Value → Shared → Prop}

theorem nt_false {p : Prop} [Decidable p] (h : ¬ p) : (!decide p) = true := by simp [h]
theorem nt_true {p : Prop} [Decidable p] (h : p) : (!decide p) = false := by simp [h]

set_option maxRecDepth 100000 in
set_option maxHeartbeats 8000000 in
theorem bisect_key_call {x : Str} {t tk0 : Tok} {l : Addr} {its : List (Value × Str)} {n : Nat} 
    (C : Cx w 3 dp un cs A₀ base outer h₀ L m news loose mean mg mb s.heap)
    (hl : (l, listOf (its.map (·.1)).toArray n) ∈ news) (hqL : QsAre news its) (hlen : its.length ≤ 100)
    (hret : ∀ t h' tk', Fr h₀ L h' m → News h₀ L h' news → Q (.int ((bisN (its.map fun p => decide ((Txt.item p.2 1).cps.toList < x.cps.toList)) : Nat) : Int) t) {s with heap := h', toks := tk'}) :
    wpAny (model PySem.Challenge.rw_wu0073_01.row.prog w) (ktrTop dp un gd cn cs L a ccd cl outer) (call (.ref 41) [.ref l, .str x t, .int 0 tk0, .none] [(Str.ofString "key", .ref 175)]) Q E s := by
  obtain ⟨B, F, X, N, T, hk, hdp, hu⟩ := C
  revert X; k_fill; intro X
  ((refine wpAny_call ?_; k_dflt (refine' code_def ?k1q10 ?k2q10 ?k3q10 ?k4q10 ?k5q10 ?kAq10 ?kFq10 ?kKq10 ?k6q10 ?k7q10 ?k8q10 ?k9q10 ?kBq10 ?_ ?c2q10 ?c3q10 ?c4q10 ?c5q10; (case kAq10 => exact rfl); (case kFq10 => exact rfl); (case kKq10 => first | exact rfl | assumption); (case k1q10 => k_asm); (case k2q10 => k_asm); (case k3q10 => k_asm); (case k4q10 => k_asm); (case k5q10 => k_asm); (case k6q10 => k_is); (case k7q10 => k_is); (case k8q10 => ktr_room); (case k9q10 => first | exact BindsTo.of_eq rfl | exact binds_K (by k_in) rfl (by k_is) rfl rfl rfl | (refine' kp_binds ?kxq10 ?keq10; (case kxq10 => k_in); (case keq10 => exact fun _ => rfl))); (case c5q10 => decide); (case kBq10 => exact locs rfl); (case c2q10 => exact rfl); (case c3q10 => exact rfl); (case c4q10 => exact rfl); k_whole; intro _ _ _ _ _ _ _ _ _; (try dsimp only); (try k_fold))))
  (repeat' ((fail_if_success ((with_reducible first | show wpAny _ _ (exec (PySem.Stmt.While _ _ _ _) _) _ _ _ | show wpAny _ _ (exec (PySem.Stmt.For _ _ _ _ _) _) _ _ _ | show wpAny _ _ (call (Value.ref _) _ _) _ _ _ | show wpAny _ _ (compareOp CmpOp.Lt (Value.ref _) _) _ _ _ | show wpAny _ _ (compareOp CmpOp.Lt _ (Value.ref _)) _ _ _ | show wpAny _ _ (compareOp CmpOp.Lt (Prod.fst _) _) _ _ _ | show wpAny _ _ (compareOp CmpOp.Lt _ (Prod.fst _)) _ _ _ | show wpAny _ _ (compareOp CmpOp.Eq (Value.ref _) _) _ _ _ | show wpAny _ _ (pyIter _) (fun it s₂ => LoopAtV _ _ _ _ _ _ _ _ _ it s₂) _ _ | show wpAny _ _ (call (Value.builtin "str.split") _ _) _ _ _ | show wpAny _ _ (newList _) _ _ _ | show wpAny _ _ (call (Value.builtin "str.join") _ _) _ _ _ | show wpAny _ _ (call (Value.builtin "list.append") _ _) _ _ _ | show wpAny _ _ (exec (PySem.Stmt.Assign _ (PySem.Expr.ListComp _ _ _ _) _) _) _ _ _ | show wpAny _ _ (eval (PySem.Expr.ListComp _ _ _ _) _) _ _ _ | show wpAny _ _ (binaryOp Operator.Mult (Value.ref _) _) _ _ _ | show wpAny _ _ (subscriptTail _ _ (Value.ref _) (Value.int _ _)) _ _ _ | show wpAny _ _ (getItem (Value.ref _) (Value.int _ _)) _ _ _ | show wpAny _ _ (setItem (Value.ref _) (Value.int _ _) _) _ _ _ | show wpAny _ _ (binaryOp Operator.Add (Value.str _ _) (Value.str _ _)) _ _ _ | show wpAny _ _ (inplaceOp Operator.Add (Value.str _ _) (Value.str _ _)) _ _ _ | show wpAny _ _ (subscriptTail _ (PySem.Expr.Slice _ _ _ _) (Value.ref _) (Value.ref _)) _ _ _ | show wpAny _ _ (call (Value.builtin "sum") _ _) _ _ _ | show wpAny _ _ (binaryOp Operator.Mult (Value.str _ _) _) _ _ _ | show wpAny _ _ (compareOp CmpOp.NotIn (Value.str _ _) (Value.str _ _)) _ _ _ | show wpAny _ _ (call (Value.type "str") _ _) _ _ _ | show wpAny _ _ (call (Value.type "builtins.str") _ _) _ _ _ | show wpAny _ _ (binaryOp Operator.Mod (Value.str _ _) _) _ _ _ | show wpAny _ _ (compareOp CmpOp.NotEq (Value.ref _) (Value.ref _)) _ _ _ | show wpAny _ _ (compareOp CmpOp.NotEq (Value.str _ _) (Value.str _ _)) _ _ _))); (fail_if_success (with_reducible show wpAny _ _ (call (Value.builtin "len") [Value.ref _]) _ _ _)); (first | (k_unfold; (try dsimp only)) | (k_end; wrow_close) | walk1 | (dsimp only; walk1) | (leave1; walk_say "STEP leave1"; try dsimp only) | fail "no step")))
  ((k_here; (with_reducible show wpAny _ _ (call (Value.builtin "len") [Value.ref _]) _ _ _); k_dflt (refine Mine.len_its (by k_asm) (by assumption) (by assumption) ?_)))
  (repeat' ((fail_if_success ((with_reducible first | show wpAny _ _ (exec (PySem.Stmt.While _ _ _ _) _) _ _ _ | show wpAny _ _ (exec (PySem.Stmt.For _ _ _ _ _) _) _ _ _ | show wpAny _ _ (call (Value.ref _) _ _) _ _ _ | show wpAny _ _ (compareOp CmpOp.Lt (Value.ref _) _) _ _ _ | show wpAny _ _ (compareOp CmpOp.Lt _ (Value.ref _)) _ _ _ | show wpAny _ _ (compareOp CmpOp.Lt (Prod.fst _) _) _ _ _ | show wpAny _ _ (compareOp CmpOp.Lt _ (Prod.fst _)) _ _ _ | show wpAny _ _ (compareOp CmpOp.Eq (Value.ref _) _) _ _ _ | show wpAny _ _ (pyIter _) (fun it s₂ => LoopAtV _ _ _ _ _ _ _ _ _ it s₂) _ _ | show wpAny _ _ (call (Value.builtin "str.split") _ _) _ _ _ | show wpAny _ _ (newList _) _ _ _ | show wpAny _ _ (call (Value.builtin "str.join") _ _) _ _ _ | show wpAny _ _ (call (Value.builtin "list.append") _ _) _ _ _ | show wpAny _ _ (exec (PySem.Stmt.Assign _ (PySem.Expr.ListComp _ _ _ _) _) _) _ _ _ | show wpAny _ _ (eval (PySem.Expr.ListComp _ _ _ _) _) _ _ _ | show wpAny _ _ (binaryOp Operator.Mult (Value.ref _) _) _ _ _ | show wpAny _ _ (subscriptTail _ _ (Value.ref _) (Value.int _ _)) _ _ _ | show wpAny _ _ (getItem (Value.ref _) (Value.int _ _)) _ _ _ | show wpAny _ _ (setItem (Value.ref _) (Value.int _ _) _) _ _ _ | show wpAny _ _ (binaryOp Operator.Add (Value.str _ _) (Value.str _ _)) _ _ _ | show wpAny _ _ (inplaceOp Operator.Add (Value.str _ _) (Value.str _ _)) _ _ _ | show wpAny _ _ (subscriptTail _ (PySem.Expr.Slice _ _ _ _) (Value.ref _) (Value.ref _)) _ _ _ | show wpAny _ _ (call (Value.builtin "sum") _ _) _ _ _ | show wpAny _ _ (binaryOp Operator.Mult (Value.str _ _) _) _ _ _ | show wpAny _ _ (compareOp CmpOp.NotIn (Value.str _ _) (Value.str _ _)) _ _ _ | show wpAny _ _ (call (Value.type "str") _ _) _ _ _ | show wpAny _ _ (call (Value.type "builtins.str") _ _) _ _ _ | show wpAny _ _ (binaryOp Operator.Mod (Value.str _ _) _) _ _ _ | show wpAny _ _ (compareOp CmpOp.NotEq (Value.ref _) (Value.ref _)) _ _ _ | show wpAny _ _ (compareOp CmpOp.NotEq (Value.str _ _) (Value.str _ _)) _ _ _))); (first | (k_unfold; (try dsimp only)) | (k_end; wrow_close) | walk1 | (dsimp only; walk1) | (leave1; walk_say "STEP leave1"; try dsimp only) | fail "no step")))
  k_with "state" => first | exact Bs.start _ (by simp) | exact Bs.right2 (by assumption) (by assumption) (by assumption) (decide_eq_true (by assumption)) | exact Bs.left2 (by assumption) (by assumption) (by assumption) (decide_eq_false (by assumption))
  k_while (fun (_ : List Int) lo hi => Bs (its.map fun p => decide ((Txt.item p.2 1).cps.toList < x.cps.toList)) (bisN (its.map fun p => decide ((Txt.item p.2 1).cps.toList < x.cps.toList))) lo hi) (fun (_ : List Int) lo hi => (hi - lo).toNat) "lo" "hi"
  (repeat' ((fail_if_success ((with_reducible first | show wpAny _ _ (exec (PySem.Stmt.While _ _ _ _) _) _ _ _ | show wpAny _ _ (exec (PySem.Stmt.For _ _ _ _ _) _) _ _ _ | show wpAny _ _ (call (Value.ref _) _ _) _ _ _ | show wpAny _ _ (compareOp CmpOp.Lt (Value.ref _) _) _ _ _ | show wpAny _ _ (compareOp CmpOp.Lt _ (Value.ref _)) _ _ _ | show wpAny _ _ (compareOp CmpOp.Lt (Prod.fst _) _) _ _ _ | show wpAny _ _ (compareOp CmpOp.Lt _ (Prod.fst _)) _ _ _ | show wpAny _ _ (compareOp CmpOp.Eq (Value.ref _) _) _ _ _ | show wpAny _ _ (pyIter _) (fun it s₂ => LoopAtV _ _ _ _ _ _ _ _ _ it s₂) _ _ | show wpAny _ _ (call (Value.builtin "str.split") _ _) _ _ _ | show wpAny _ _ (newList _) _ _ _ | show wpAny _ _ (call (Value.builtin "str.join") _ _) _ _ _ | show wpAny _ _ (call (Value.builtin "list.append") _ _) _ _ _ | show wpAny _ _ (exec (PySem.Stmt.Assign _ (PySem.Expr.ListComp _ _ _ _) _) _) _ _ _ | show wpAny _ _ (eval (PySem.Expr.ListComp _ _ _ _) _) _ _ _ | show wpAny _ _ (binaryOp Operator.Mult (Value.ref _) _) _ _ _ | show wpAny _ _ (subscriptTail _ _ (Value.ref _) (Value.int _ _)) _ _ _ | show wpAny _ _ (getItem (Value.ref _) (Value.int _ _)) _ _ _ | show wpAny _ _ (setItem (Value.ref _) (Value.int _ _) _) _ _ _ | show wpAny _ _ (binaryOp Operator.Add (Value.str _ _) (Value.str _ _)) _ _ _ | show wpAny _ _ (inplaceOp Operator.Add (Value.str _ _) (Value.str _ _)) _ _ _ | show wpAny _ _ (subscriptTail _ (PySem.Expr.Slice _ _ _ _) (Value.ref _) (Value.ref _)) _ _ _ | show wpAny _ _ (call (Value.builtin "sum") _ _) _ _ _ | show wpAny _ _ (binaryOp Operator.Mult (Value.str _ _) _) _ _ _ | show wpAny _ _ (compareOp CmpOp.NotIn (Value.str _ _) (Value.str _ _)) _ _ _ | show wpAny _ _ (call (Value.type "str") _ _) _ _ _ | show wpAny _ _ (call (Value.type "builtins.str") _ _) _ _ _ | show wpAny _ _ (binaryOp Operator.Mod (Value.str _ _) _) _ _ _ | show wpAny _ _ (compareOp CmpOp.NotEq (Value.ref _) (Value.ref _)) _ _ _ | show wpAny _ _ (compareOp CmpOp.NotEq (Value.str _ _) (Value.str _ _)) _ _ _))); (first | (k_unfold; (try dsimp only)) | (k_end; wrow_close) | walk1 | (dsimp only; walk1) | (leave1; walk_say "STEP leave1"; try dsimp only) | fail "no step")))
  · obtain ⟨mm, he, h1, h2, h3⟩ := Bs.mid kInv (by assumption)
    rw [List.length_map] at h1
    refine item_its (by k_asm) hl hlen (by omega) (by omega) ?_
    intro p hp hpe
    (repeat' ((fail_if_success ((with_reducible first | show wpAny _ _ (exec (PySem.Stmt.While _ _ _ _) _) _ _ _ | show wpAny _ _ (exec (PySem.Stmt.For _ _ _ _ _) _) _ _ _ | show wpAny _ _ (call (Value.ref _) _ _) _ _ _ | show wpAny _ _ (compareOp CmpOp.Lt (Value.ref _) _) _ _ _ | show wpAny _ _ (compareOp CmpOp.Lt _ (Value.ref _)) _ _ _ | show wpAny _ _ (compareOp CmpOp.Lt (Prod.fst _) _) _ _ _ | show wpAny _ _ (compareOp CmpOp.Lt _ (Prod.fst _)) _ _ _ | show wpAny _ _ (compareOp CmpOp.Eq (Value.ref _) _) _ _ _ | show wpAny _ _ (pyIter _) (fun it s₂ => LoopAtV _ _ _ _ _ _ _ _ _ it s₂) _ _ | show wpAny _ _ (call (Value.builtin "str.split") _ _) _ _ _ | show wpAny _ _ (newList _) _ _ _ | show wpAny _ _ (call (Value.builtin "str.join") _ _) _ _ _ | show wpAny _ _ (call (Value.builtin "list.append") _ _) _ _ _ | show wpAny _ _ (exec (PySem.Stmt.Assign _ (PySem.Expr.ListComp _ _ _ _) _) _) _ _ _ | show wpAny _ _ (eval (PySem.Expr.ListComp _ _ _ _) _) _ _ _ | show wpAny _ _ (binaryOp Operator.Mult (Value.ref _) _) _ _ _ | show wpAny _ _ (subscriptTail _ _ (Value.ref _) (Value.int _ _)) _ _ _ | show wpAny _ _ (getItem (Value.ref _) (Value.int _ _)) _ _ _ | show wpAny _ _ (setItem (Value.ref _) (Value.int _ _) _) _ _ _ | show wpAny _ _ (binaryOp Operator.Add (Value.str _ _) (Value.str _ _)) _ _ _ | show wpAny _ _ (inplaceOp Operator.Add (Value.str _ _) (Value.str _ _)) _ _ _ | show wpAny _ _ (subscriptTail _ (PySem.Expr.Slice _ _ _ _) (Value.ref _) (Value.ref _)) _ _ _ | show wpAny _ _ (call (Value.builtin "sum") _ _) _ _ _ | show wpAny _ _ (binaryOp Operator.Mult (Value.str _ _) _) _ _ _ | show wpAny _ _ (compareOp CmpOp.NotIn (Value.str _ _) (Value.str _ _)) _ _ _ | show wpAny _ _ (call (Value.type "str") _ _) _ _ _ | show wpAny _ _ (call (Value.type "builtins.str") _ _) _ _ _ | show wpAny _ _ (binaryOp Operator.Mod (Value.str _ _) _) _ _ _ | show wpAny _ _ (compareOp CmpOp.NotEq (Value.ref _) (Value.ref _)) _ _ _ | show wpAny _ _ (compareOp CmpOp.NotEq (Value.str _ _) (Value.str _ _)) _ _ _))); (first | (k_unfold; (try dsimp only)) | (k_end; wrow_close) | walk1 | (dsimp only; walk1) | (leave1; walk_say "STEP leave1"; try dsimp only) | fail "no step")))
    refine law_depth_call (by ((refine' Mine.Cx.mk ?cBq20 ?cFq20 ?cXq20 ?cNq20 ?cTq20 ?ckq20 ?cdq20 ?cuq20; (case cBq20 => k_asm); (case cFq20 => k_asm); (case cXq20 => k_asm); (case cNq20 => k_asm); (case cTq20 => k_asm); (case ckq20 => first | exact rfl | assumption); (case cdq20 => ktr_room); (case cuq20 => ktr_units)))) (hqL p hp).1 (hqL p hp).2.1 (hqL p hp).2.2 ?_
    intro t' h' tk' F' N'
    k_steps
  · rw [Bs.stop kInv (by assumption)]
    exact hret _ _ _ (by assumption) (by assumption)

set_option maxRecDepth 100000 in
set_option maxHeartbeats 8000000 in
theorem bisect_left_q_call {x : Str} {xv : Value} {tk0 : Tok} {l : Addr} {its : List (Value × Str)} {n : Nat} 
    (C : Cx w 3 dp un cs A₀ base outer h₀ L m news loose mean mg mb s.heap)
    (hl : (l, listOf (its.map (·.1)).toArray n) ∈ news) (hqL : QsAre news its) (hlen : its.length ≤ 100) (hx : IsQ news xv x)
    (hret : ∀ t h' tk', Fr h₀ L h' m → News h₀ L h' news → Q (.int ((bisN (its.map fun p => decide (p.2.cps.toList < x.cps.toList)) : Nat) : Int) t) {s with heap := h', toks := tk'}) :
    wpAny (model PySem.Challenge.rw_wu0073_01.row.prog w) (ktrTop dp un gd cn cs L a ccd cl outer) (call (.ref 41) [.ref l, xv, .int 0 tk0, .none] []) Q E s := by
  obtain ⟨B, F, X, N, T, hk, hdp, hu⟩ := C
  revert X; k_fill; intro X
  ((refine wpAny_call ?_; k_dflt (refine' code_def ?k1q21 ?k2q21 ?k3q21 ?k4q21 ?k5q21 ?kAq21 ?kFq21 ?kKq21 ?k6q21 ?k7q21 ?k8q21 ?k9q21 ?kBq21 ?_ ?c2q21 ?c3q21 ?c4q21 ?c5q21; (case kAq21 => exact rfl); (case kFq21 => exact rfl); (case kKq21 => first | exact rfl | assumption); (case k1q21 => k_asm); (case k2q21 => k_asm); (case k3q21 => k_asm); (case k4q21 => k_asm); (case k5q21 => k_asm); (case k6q21 => k_is); (case k7q21 => k_is); (case k8q21 => ktr_room); (case k9q21 => first | exact BindsTo.of_eq rfl | exact binds_K (by k_in) rfl (by k_is) rfl rfl rfl | (refine' kp_binds ?kxq21 ?keq21; (case kxq21 => k_in); (case keq21 => exact fun _ => rfl))); (case c5q21 => decide); (case kBq21 => exact locs rfl); (case c2q21 => exact rfl); (case c3q21 => exact rfl); (case c4q21 => exact rfl); k_whole; intro _ _ _ _ _ _ _ _ _; (try dsimp only); (try k_fold))))
  (repeat' ((fail_if_success ((with_reducible first | show wpAny _ _ (exec (PySem.Stmt.While _ _ _ _) _) _ _ _ | show wpAny _ _ (exec (PySem.Stmt.For _ _ _ _ _) _) _ _ _ | show wpAny _ _ (call (Value.ref _) _ _) _ _ _ | show wpAny _ _ (compareOp CmpOp.Lt (Value.ref _) _) _ _ _ | show wpAny _ _ (compareOp CmpOp.Lt _ (Value.ref _)) _ _ _ | show wpAny _ _ (compareOp CmpOp.Lt (Prod.fst _) _) _ _ _ | show wpAny _ _ (compareOp CmpOp.Lt _ (Prod.fst _)) _ _ _ | show wpAny _ _ (compareOp CmpOp.Eq (Value.ref _) _) _ _ _ | show wpAny _ _ (pyIter _) (fun it s₂ => LoopAtV _ _ _ _ _ _ _ _ _ it s₂) _ _ | show wpAny _ _ (call (Value.builtin "str.split") _ _) _ _ _ | show wpAny _ _ (newList _) _ _ _ | show wpAny _ _ (call (Value.builtin "str.join") _ _) _ _ _ | show wpAny _ _ (call (Value.builtin "list.append") _ _) _ _ _ | show wpAny _ _ (exec (PySem.Stmt.Assign _ (PySem.Expr.ListComp _ _ _ _) _) _) _ _ _ | show wpAny _ _ (eval (PySem.Expr.ListComp _ _ _ _) _) _ _ _ | show wpAny _ _ (binaryOp Operator.Mult (Value.ref _) _) _ _ _ | show wpAny _ _ (subscriptTail _ _ (Value.ref _) (Value.int _ _)) _ _ _ | show wpAny _ _ (getItem (Value.ref _) (Value.int _ _)) _ _ _ | show wpAny _ _ (setItem (Value.ref _) (Value.int _ _) _) _ _ _ | show wpAny _ _ (binaryOp Operator.Add (Value.str _ _) (Value.str _ _)) _ _ _ | show wpAny _ _ (inplaceOp Operator.Add (Value.str _ _) (Value.str _ _)) _ _ _ | show wpAny _ _ (subscriptTail _ (PySem.Expr.Slice _ _ _ _) (Value.ref _) (Value.ref _)) _ _ _ | show wpAny _ _ (call (Value.builtin "sum") _ _) _ _ _ | show wpAny _ _ (binaryOp Operator.Mult (Value.str _ _) _) _ _ _ | show wpAny _ _ (compareOp CmpOp.NotIn (Value.str _ _) (Value.str _ _)) _ _ _ | show wpAny _ _ (call (Value.type "str") _ _) _ _ _ | show wpAny _ _ (call (Value.type "builtins.str") _ _) _ _ _ | show wpAny _ _ (binaryOp Operator.Mod (Value.str _ _) _) _ _ _ | show wpAny _ _ (compareOp CmpOp.NotEq (Value.ref _) (Value.ref _)) _ _ _ | show wpAny _ _ (compareOp CmpOp.NotEq (Value.str _ _) (Value.str _ _)) _ _ _))); (fail_if_success (with_reducible show wpAny _ _ (call (Value.builtin "len") [Value.ref _]) _ _ _)); (first | (k_unfold; (try dsimp only)) | (k_end; wrow_close) | walk1 | (dsimp only; walk1) | (leave1; walk_say "STEP leave1"; try dsimp only) | fail "no step")))
  ((k_here; (with_reducible show wpAny _ _ (call (Value.builtin "len") [Value.ref _]) _ _ _); k_dflt (refine Mine.len_its (by k_asm) (by assumption) (by assumption) ?_)))
  (repeat' ((fail_if_success ((with_reducible first | show wpAny _ _ (exec (PySem.Stmt.While _ _ _ _) _) _ _ _ | show wpAny _ _ (exec (PySem.Stmt.For _ _ _ _ _) _) _ _ _ | show wpAny _ _ (call (Value.ref _) _ _) _ _ _ | show wpAny _ _ (compareOp CmpOp.Lt (Value.ref _) _) _ _ _ | show wpAny _ _ (compareOp CmpOp.Lt _ (Value.ref _)) _ _ _ | show wpAny _ _ (compareOp CmpOp.Lt (Prod.fst _) _) _ _ _ | show wpAny _ _ (compareOp CmpOp.Lt _ (Prod.fst _)) _ _ _ | show wpAny _ _ (compareOp CmpOp.Eq (Value.ref _) _) _ _ _ | show wpAny _ _ (pyIter _) (fun it s₂ => LoopAtV _ _ _ _ _ _ _ _ _ it s₂) _ _ | show wpAny _ _ (call (Value.builtin "str.split") _ _) _ _ _ | show wpAny _ _ (newList _) _ _ _ | show wpAny _ _ (call (Value.builtin "str.join") _ _) _ _ _ | show wpAny _ _ (call (Value.builtin "list.append") _ _) _ _ _ | show wpAny _ _ (exec (PySem.Stmt.Assign _ (PySem.Expr.ListComp _ _ _ _) _) _) _ _ _ | show wpAny _ _ (eval (PySem.Expr.ListComp _ _ _ _) _) _ _ _ | show wpAny _ _ (binaryOp Operator.Mult (Value.ref _) _) _ _ _ | show wpAny _ _ (subscriptTail _ _ (Value.ref _) (Value.int _ _)) _ _ _ | show wpAny _ _ (getItem (Value.ref _) (Value.int _ _)) _ _ _ | show wpAny _ _ (setItem (Value.ref _) (Value.int _ _) _) _ _ _ | show wpAny _ _ (binaryOp Operator.Add (Value.str _ _) (Value.str _ _)) _ _ _ | show wpAny _ _ (inplaceOp Operator.Add (Value.str _ _) (Value.str _ _)) _ _ _ | show wpAny _ _ (subscriptTail _ (PySem.Expr.Slice _ _ _ _) (Value.ref _) (Value.ref _)) _ _ _ | show wpAny _ _ (call (Value.builtin "sum") _ _) _ _ _ | show wpAny _ _ (binaryOp Operator.Mult (Value.str _ _) _) _ _ _ | show wpAny _ _ (compareOp CmpOp.NotIn (Value.str _ _) (Value.str _ _)) _ _ _ | show wpAny _ _ (call (Value.type "str") _ _) _ _ _ | show wpAny _ _ (call (Value.type "builtins.str") _ _) _ _ _ | show wpAny _ _ (binaryOp Operator.Mod (Value.str _ _) _) _ _ _ | show wpAny _ _ (compareOp CmpOp.NotEq (Value.ref _) (Value.ref _)) _ _ _ | show wpAny _ _ (compareOp CmpOp.NotEq (Value.str _ _) (Value.str _ _)) _ _ _))); (first | (k_unfold; (try dsimp only)) | (k_end; wrow_close) | walk1 | (dsimp only; walk1) | (leave1; walk_say "STEP leave1"; try dsimp only) | fail "no step")))
  k_with "state" => first | exact Bs.start _ (by simp) | exact Bs.right2 (by assumption) (by assumption) (by assumption) (decide_eq_true (by assumption)) | exact Bs.left2 (by assumption) (by assumption) (by assumption) (decide_eq_false (by assumption))
  k_while (fun (_ : List Int) lo hi => Bs (its.map fun p => decide (p.2.cps.toList < x.cps.toList)) (bisN (its.map fun p => decide (p.2.cps.toList < x.cps.toList))) lo hi) (fun (_ : List Int) lo hi => (hi - lo).toNat) "lo" "hi"
  (repeat' ((fail_if_success ((with_reducible first | show wpAny _ _ (exec (PySem.Stmt.While _ _ _ _) _) _ _ _ | show wpAny _ _ (exec (PySem.Stmt.For _ _ _ _ _) _) _ _ _ | show wpAny _ _ (call (Value.ref _) _ _) _ _ _ | show wpAny _ _ (compareOp CmpOp.Lt (Value.ref _) _) _ _ _ | show wpAny _ _ (compareOp CmpOp.Lt _ (Value.ref _)) _ _ _ | show wpAny _ _ (compareOp CmpOp.Lt (Prod.fst _) _) _ _ _ | show wpAny _ _ (compareOp CmpOp.Lt _ (Prod.fst _)) _ _ _ | show wpAny _ _ (compareOp CmpOp.Eq (Value.ref _) _) _ _ _ | show wpAny _ _ (pyIter _) (fun it s₂ => LoopAtV _ _ _ _ _ _ _ _ _ it s₂) _ _ | show wpAny _ _ (call (Value.builtin "str.split") _ _) _ _ _ | show wpAny _ _ (newList _) _ _ _ | show wpAny _ _ (call (Value.builtin "str.join") _ _) _ _ _ | show wpAny _ _ (call (Value.builtin "list.append") _ _) _ _ _ | show wpAny _ _ (exec (PySem.Stmt.Assign _ (PySem.Expr.ListComp _ _ _ _) _) _) _ _ _ | show wpAny _ _ (eval (PySem.Expr.ListComp _ _ _ _) _) _ _ _ | show wpAny _ _ (binaryOp Operator.Mult (Value.ref _) _) _ _ _ | show wpAny _ _ (subscriptTail _ _ (Value.ref _) (Value.int _ _)) _ _ _ | show wpAny _ _ (getItem (Value.ref _) (Value.int _ _)) _ _ _ | show wpAny _ _ (setItem (Value.ref _) (Value.int _ _) _) _ _ _ | show wpAny _ _ (binaryOp Operator.Add (Value.str _ _) (Value.str _ _)) _ _ _ | show wpAny _ _ (inplaceOp Operator.Add (Value.str _ _) (Value.str _ _)) _ _ _ | show wpAny _ _ (subscriptTail _ (PySem.Expr.Slice _ _ _ _) (Value.ref _) (Value.ref _)) _ _ _ | show wpAny _ _ (call (Value.builtin "sum") _ _) _ _ _ | show wpAny _ _ (binaryOp Operator.Mult (Value.str _ _) _) _ _ _ | show wpAny _ _ (compareOp CmpOp.NotIn (Value.str _ _) (Value.str _ _)) _ _ _ | show wpAny _ _ (call (Value.type "str") _ _) _ _ _ | show wpAny _ _ (call (Value.type "builtins.str") _ _) _ _ _ | show wpAny _ _ (binaryOp Operator.Mod (Value.str _ _) _) _ _ _ | show wpAny _ _ (compareOp CmpOp.NotEq (Value.ref _) (Value.ref _)) _ _ _ | show wpAny _ _ (compareOp CmpOp.NotEq (Value.str _ _) (Value.str _ _)) _ _ _))); (first | (k_unfold; (try dsimp only)) | (k_end; wrow_close) | walk1 | (dsimp only; walk1) | (leave1; walk_say "STEP leave1"; try dsimp only) | fail "no step")))
  · obtain ⟨mm, he, h1, h2, h3⟩ := Bs.mid kInv (by assumption)
    rw [List.length_map] at h1
    refine item_its (by k_asm) hl hlen (by omega) (by omega) ?_
    intro p hp hpe
    (repeat' ((fail_if_success ((with_reducible first | show wpAny _ _ (exec (PySem.Stmt.While _ _ _ _) _) _ _ _ | show wpAny _ _ (exec (PySem.Stmt.For _ _ _ _ _) _) _ _ _ | show wpAny _ _ (call (Value.ref _) _ _) _ _ _ | show wpAny _ _ (compareOp CmpOp.Lt (Value.ref _) _) _ _ _ | show wpAny _ _ (compareOp CmpOp.Lt _ (Value.ref _)) _ _ _ | show wpAny _ _ (compareOp CmpOp.Lt (Prod.fst _) _) _ _ _ | show wpAny _ _ (compareOp CmpOp.Lt _ (Prod.fst _)) _ _ _ | show wpAny _ _ (compareOp CmpOp.Eq (Value.ref _) _) _ _ _ | show wpAny _ _ (pyIter _) (fun it s₂ => LoopAtV _ _ _ _ _ _ _ _ _ it s₂) _ _ | show wpAny _ _ (call (Value.builtin "str.split") _ _) _ _ _ | show wpAny _ _ (newList _) _ _ _ | show wpAny _ _ (call (Value.builtin "str.join") _ _) _ _ _ | show wpAny _ _ (call (Value.builtin "list.append") _ _) _ _ _ | show wpAny _ _ (exec (PySem.Stmt.Assign _ (PySem.Expr.ListComp _ _ _ _) _) _) _ _ _ | show wpAny _ _ (eval (PySem.Expr.ListComp _ _ _ _) _) _ _ _ | show wpAny _ _ (binaryOp Operator.Mult (Value.ref _) _) _ _ _ | show wpAny _ _ (subscriptTail _ _ (Value.ref _) (Value.int _ _)) _ _ _ | show wpAny _ _ (getItem (Value.ref _) (Value.int _ _)) _ _ _ | show wpAny _ _ (setItem (Value.ref _) (Value.int _ _) _) _ _ _ | show wpAny _ _ (binaryOp Operator.Add (Value.str _ _) (Value.str _ _)) _ _ _ | show wpAny _ _ (inplaceOp Operator.Add (Value.str _ _) (Value.str _ _)) _ _ _ | show wpAny _ _ (subscriptTail _ (PySem.Expr.Slice _ _ _ _) (Value.ref _) (Value.ref _)) _ _ _ | show wpAny _ _ (call (Value.builtin "sum") _ _) _ _ _ | show wpAny _ _ (binaryOp Operator.Mult (Value.str _ _) _) _ _ _ | show wpAny _ _ (compareOp CmpOp.NotIn (Value.str _ _) (Value.str _ _)) _ _ _ | show wpAny _ _ (call (Value.type "str") _ _) _ _ _ | show wpAny _ _ (call (Value.type "builtins.str") _ _) _ _ _ | show wpAny _ _ (binaryOp Operator.Mod (Value.str _ _) _) _ _ _ | show wpAny _ _ (compareOp CmpOp.NotEq (Value.ref _) (Value.ref _)) _ _ _ | show wpAny _ _ (compareOp CmpOp.NotEq (Value.str _ _) (Value.str _ _)) _ _ _))); (first | (k_unfold; (try dsimp only)) | (k_end; wrow_close) | walk1 | (dsimp only; walk1) | (leave1; walk_say "STEP leave1"; try dsimp only) | fail "no step")))
    refine qlt_qq (by ((refine' Mine.Cx.mk ?cBq31 ?cFq31 ?cXq31 ?cNq31 ?cTq31 ?ckq31 ?cdq31 ?cuq31; (case cBq31 => k_asm); (case cFq31 => k_asm); (case cXq31 => k_asm); (case cNq31 => k_asm); (case cTq31 => k_asm); (case ckq31 => first | exact rfl | assumption); (case cdq31 => ktr_room); (case cuq31 => ktr_units)))) (hqL p hp).1 hx ?_
    intro h' tk' F' N'
    k_steps
  · rw [Bs.stop kInv (by assumption)]
    exact hret _ _ _ (by assumption) (by assumption)

set_option maxRecDepth 100000 in
set_option maxHeartbeats 8000000 in
theorem bisect_left_s_call {x : Str} {t : Tok} {l : Addr} {its : List (Value × Str)} {n : Nat} 
    (C : Cx w 3 dp un cs A₀ base outer h₀ L m news loose mean mg mb s.heap)
    (hl : (l, listOf (its.map (·.1)).toArray n) ∈ news) (hqL : QsAre news its) (hlen : its.length ≤ 100)
    (hret : ∀ t h' tk', Fr h₀ L h' m → News h₀ L h' news → Q (.int ((bisN (its.map fun p => decide (p.2.cps.toList < x.cps.toList)) : Nat) : Int) t) {s with heap := h', toks := tk'}) :
    wpAny (model PySem.Challenge.rw_wu0073_01.row.prog w) (ktrTop dp un gd cn cs L a ccd cl outer) (call (.ref 41) [.ref l, .str x t] []) Q E s := by
  obtain ⟨B, F, X, N, T, hk, hdp, hu⟩ := C
  revert X; k_fill; intro X
  ((refine wpAny_call ?_; k_dflt (refine' code_def ?k1q32 ?k2q32 ?k3q32 ?k4q32 ?k5q32 ?kAq32 ?kFq32 ?kKq32 ?k6q32 ?k7q32 ?k8q32 ?k9q32 ?kBq32 ?_ ?c2q32 ?c3q32 ?c4q32 ?c5q32; (case kAq32 => exact rfl); (case kFq32 => exact rfl); (case kKq32 => first | exact rfl | assumption); (case k1q32 => k_asm); (case k2q32 => k_asm); (case k3q32 => k_asm); (case k4q32 => k_asm); (case k5q32 => k_asm); (case k6q32 => k_is); (case k7q32 => k_is); (case k8q32 => ktr_room); (case k9q32 => first | exact BindsTo.of_eq rfl | exact binds_K (by k_in) rfl (by k_is) rfl rfl rfl | (refine' kp_binds ?kxq32 ?keq32; (case kxq32 => k_in); (case keq32 => exact fun _ => rfl))); (case c5q32 => decide); (case kBq32 => exact locs rfl); (case c2q32 => exact rfl); (case c3q32 => exact rfl); (case c4q32 => exact rfl); k_whole; intro _ _ _ _ _ _ _ _ _; (try dsimp only); (try k_fold))))
  (repeat' ((fail_if_success ((with_reducible first | show wpAny _ _ (exec (PySem.Stmt.While _ _ _ _) _) _ _ _ | show wpAny _ _ (exec (PySem.Stmt.For _ _ _ _ _) _) _ _ _ | show wpAny _ _ (call (Value.ref _) _ _) _ _ _ | show wpAny _ _ (compareOp CmpOp.Lt (Value.ref _) _) _ _ _ | show wpAny _ _ (compareOp CmpOp.Lt _ (Value.ref _)) _ _ _ | show wpAny _ _ (compareOp CmpOp.Lt (Prod.fst _) _) _ _ _ | show wpAny _ _ (compareOp CmpOp.Lt _ (Prod.fst _)) _ _ _ | show wpAny _ _ (compareOp CmpOp.Eq (Value.ref _) _) _ _ _ | show wpAny _ _ (pyIter _) (fun it s₂ => LoopAtV _ _ _ _ _ _ _ _ _ it s₂) _ _ | show wpAny _ _ (call (Value.builtin "str.split") _ _) _ _ _ | show wpAny _ _ (newList _) _ _ _ | show wpAny _ _ (call (Value.builtin "str.join") _ _) _ _ _ | show wpAny _ _ (call (Value.builtin "list.append") _ _) _ _ _ | show wpAny _ _ (exec (PySem.Stmt.Assign _ (PySem.Expr.ListComp _ _ _ _) _) _) _ _ _ | show wpAny _ _ (eval (PySem.Expr.ListComp _ _ _ _) _) _ _ _ | show wpAny _ _ (binaryOp Operator.Mult (Value.ref _) _) _ _ _ | show wpAny _ _ (subscriptTail _ _ (Value.ref _) (Value.int _ _)) _ _ _ | show wpAny _ _ (getItem (Value.ref _) (Value.int _ _)) _ _ _ | show wpAny _ _ (setItem (Value.ref _) (Value.int _ _) _) _ _ _ | show wpAny _ _ (binaryOp Operator.Add (Value.str _ _) (Value.str _ _)) _ _ _ | show wpAny _ _ (inplaceOp Operator.Add (Value.str _ _) (Value.str _ _)) _ _ _ | show wpAny _ _ (subscriptTail _ (PySem.Expr.Slice _ _ _ _) (Value.ref _) (Value.ref _)) _ _ _ | show wpAny _ _ (call (Value.builtin "sum") _ _) _ _ _ | show wpAny _ _ (binaryOp Operator.Mult (Value.str _ _) _) _ _ _ | show wpAny _ _ (compareOp CmpOp.NotIn (Value.str _ _) (Value.str _ _)) _ _ _ | show wpAny _ _ (call (Value.type "str") _ _) _ _ _ | show wpAny _ _ (call (Value.type "builtins.str") _ _) _ _ _ | show wpAny _ _ (binaryOp Operator.Mod (Value.str _ _) _) _ _ _ | show wpAny _ _ (compareOp CmpOp.NotEq (Value.ref _) (Value.ref _)) _ _ _ | show wpAny _ _ (compareOp CmpOp.NotEq (Value.str _ _) (Value.str _ _)) _ _ _))); (fail_if_success (with_reducible show wpAny _ _ (call (Value.builtin "len") [Value.ref _]) _ _ _)); (first | (k_unfold; (try dsimp only)) | (k_end; wrow_close) | walk1 | (dsimp only; walk1) | (leave1; walk_say "STEP leave1"; try dsimp only) | fail "no step")))
  ((k_here; (with_reducible show wpAny _ _ (call (Value.builtin "len") [Value.ref _]) _ _ _); k_dflt (refine Mine.len_its (by k_asm) (by assumption) (by assumption) ?_)))
  (repeat' ((fail_if_success ((with_reducible first | show wpAny _ _ (exec (PySem.Stmt.While _ _ _ _) _) _ _ _ | show wpAny _ _ (exec (PySem.Stmt.For _ _ _ _ _) _) _ _ _ | show wpAny _ _ (call (Value.ref _) _ _) _ _ _ | show wpAny _ _ (compareOp CmpOp.Lt (Value.ref _) _) _ _ _ | show wpAny _ _ (compareOp CmpOp.Lt _ (Value.ref _)) _ _ _ | show wpAny _ _ (compareOp CmpOp.Lt (Prod.fst _) _) _ _ _ | show wpAny _ _ (compareOp CmpOp.Lt _ (Prod.fst _)) _ _ _ | show wpAny _ _ (compareOp CmpOp.Eq (Value.ref _) _) _ _ _ | show wpAny _ _ (pyIter _) (fun it s₂ => LoopAtV _ _ _ _ _ _ _ _ _ it s₂) _ _ | show wpAny _ _ (call (Value.builtin "str.split") _ _) _ _ _ | show wpAny _ _ (newList _) _ _ _ | show wpAny _ _ (call (Value.builtin "str.join") _ _) _ _ _ | show wpAny _ _ (call (Value.builtin "list.append") _ _) _ _ _ | show wpAny _ _ (exec (PySem.Stmt.Assign _ (PySem.Expr.ListComp _ _ _ _) _) _) _ _ _ | show wpAny _ _ (eval (PySem.Expr.ListComp _ _ _ _) _) _ _ _ | show wpAny _ _ (binaryOp Operator.Mult (Value.ref _) _) _ _ _ | show wpAny _ _ (subscriptTail _ _ (Value.ref _) (Value.int _ _)) _ _ _ | show wpAny _ _ (getItem (Value.ref _) (Value.int _ _)) _ _ _ | show wpAny _ _ (setItem (Value.ref _) (Value.int _ _) _) _ _ _ | show wpAny _ _ (binaryOp Operator.Add (Value.str _ _) (Value.str _ _)) _ _ _ | show wpAny _ _ (inplaceOp Operator.Add (Value.str _ _) (Value.str _ _)) _ _ _ | show wpAny _ _ (subscriptTail _ (PySem.Expr.Slice _ _ _ _) (Value.ref _) (Value.ref _)) _ _ _ | show wpAny _ _ (call (Value.builtin "sum") _ _) _ _ _ | show wpAny _ _ (binaryOp Operator.Mult (Value.str _ _) _) _ _ _ | show wpAny _ _ (compareOp CmpOp.NotIn (Value.str _ _) (Value.str _ _)) _ _ _ | show wpAny _ _ (call (Value.type "str") _ _) _ _ _ | show wpAny _ _ (call (Value.type "builtins.str") _ _) _ _ _ | show wpAny _ _ (binaryOp Operator.Mod (Value.str _ _) _) _ _ _ | show wpAny _ _ (compareOp CmpOp.NotEq (Value.ref _) (Value.ref _)) _ _ _ | show wpAny _ _ (compareOp CmpOp.NotEq (Value.str _ _) (Value.str _ _)) _ _ _))); (first | (k_unfold; (try dsimp only)) | (k_end; wrow_close) | walk1 | (dsimp only; walk1) | (leave1; walk_say "STEP leave1"; try dsimp only) | fail "no step")))
  k_with "state" => first | exact Bs.start _ (by simp) | exact Bs.right2 (by assumption) (by assumption) (by assumption) (decide_eq_true (by assumption)) | exact Bs.left2 (by assumption) (by assumption) (by assumption) (decide_eq_false (by assumption))
  k_while (fun (_ : List Int) lo hi => Bs (its.map fun p => decide (p.2.cps.toList < x.cps.toList)) (bisN (its.map fun p => decide (p.2.cps.toList < x.cps.toList))) lo hi) (fun (_ : List Int) lo hi => (hi - lo).toNat) "lo" "hi"
  (repeat' ((fail_if_success ((with_reducible first | show wpAny _ _ (exec (PySem.Stmt.While _ _ _ _) _) _ _ _ | show wpAny _ _ (exec (PySem.Stmt.For _ _ _ _ _) _) _ _ _ | show wpAny _ _ (call (Value.ref _) _ _) _ _ _ | show wpAny _ _ (compareOp CmpOp.Lt (Value.ref _) _) _ _ _ | show wpAny _ _ (compareOp CmpOp.Lt _ (Value.ref _)) _ _ _ | show wpAny _ _ (compareOp CmpOp.Lt (Prod.fst _) _) _ _ _ | show wpAny _ _ (compareOp CmpOp.Lt _ (Prod.fst _)) _ _ _ | show wpAny _ _ (compareOp CmpOp.Eq (Value.ref _) _) _ _ _ | show wpAny _ _ (pyIter _) (fun it s₂ => LoopAtV _ _ _ _ _ _ _ _ _ it s₂) _ _ | show wpAny _ _ (call (Value.builtin "str.split") _ _) _ _ _ | show wpAny _ _ (newList _) _ _ _ | show wpAny _ _ (call (Value.builtin "str.join") _ _) _ _ _ | show wpAny _ _ (call (Value.builtin "list.append") _ _) _ _ _ | show wpAny _ _ (exec (PySem.Stmt.Assign _ (PySem.Expr.ListComp _ _ _ _) _) _) _ _ _ | show wpAny _ _ (eval (PySem.Expr.ListComp _ _ _ _) _) _ _ _ | show wpAny _ _ (binaryOp Operator.Mult (Value.ref _) _) _ _ _ | show wpAny _ _ (subscriptTail _ _ (Value.ref _) (Value.int _ _)) _ _ _ | show wpAny _ _ (getItem (Value.ref _) (Value.int _ _)) _ _ _ | show wpAny _ _ (setItem (Value.ref _) (Value.int _ _) _) _ _ _ | show wpAny _ _ (binaryOp Operator.Add (Value.str _ _) (Value.str _ _)) _ _ _ | show wpAny _ _ (inplaceOp Operator.Add (Value.str _ _) (Value.str _ _)) _ _ _ | show wpAny _ _ (subscriptTail _ (PySem.Expr.Slice _ _ _ _) (Value.ref _) (Value.ref _)) _ _ _ | show wpAny _ _ (call (Value.builtin "sum") _ _) _ _ _ | show wpAny _ _ (binaryOp Operator.Mult (Value.str _ _) _) _ _ _ | show wpAny _ _ (compareOp CmpOp.NotIn (Value.str _ _) (Value.str _ _)) _ _ _ | show wpAny _ _ (call (Value.type "str") _ _) _ _ _ | show wpAny _ _ (call (Value.type "builtins.str") _ _) _ _ _ | show wpAny _ _ (binaryOp Operator.Mod (Value.str _ _) _) _ _ _ | show wpAny _ _ (compareOp CmpOp.NotEq (Value.ref _) (Value.ref _)) _ _ _ | show wpAny _ _ (compareOp CmpOp.NotEq (Value.str _ _) (Value.str _ _)) _ _ _))); (first | (k_unfold; (try dsimp only)) | (k_end; wrow_close) | walk1 | (dsimp only; walk1) | (leave1; walk_say "STEP leave1"; try dsimp only) | fail "no step")))
  · obtain ⟨mm, he, h1, h2, h3⟩ := Bs.mid kInv (by assumption)
    rw [List.length_map] at h1
    refine item_its (by k_asm) hl hlen (by omega) (by omega) ?_
    intro p hp hpe
    (repeat' ((fail_if_success ((with_reducible first | show wpAny _ _ (exec (PySem.Stmt.While _ _ _ _) _) _ _ _ | show wpAny _ _ (exec (PySem.Stmt.For _ _ _ _ _) _) _ _ _ | show wpAny _ _ (call (Value.ref _) _ _) _ _ _ | show wpAny _ _ (compareOp CmpOp.Lt (Value.ref _) _) _ _ _ | show wpAny _ _ (compareOp CmpOp.Lt _ (Value.ref _)) _ _ _ | show wpAny _ _ (compareOp CmpOp.Lt (Prod.fst _) _) _ _ _ | show wpAny _ _ (compareOp CmpOp.Lt _ (Prod.fst _)) _ _ _ | show wpAny _ _ (compareOp CmpOp.Eq (Value.ref _) _) _ _ _ | show wpAny _ _ (pyIter _) (fun it s₂ => LoopAtV _ _ _ _ _ _ _ _ _ it s₂) _ _ | show wpAny _ _ (call (Value.builtin "str.split") _ _) _ _ _ | show wpAny _ _ (newList _) _ _ _ | show wpAny _ _ (call (Value.builtin "str.join") _ _) _ _ _ | show wpAny _ _ (call (Value.builtin "list.append") _ _) _ _ _ | show wpAny _ _ (exec (PySem.Stmt.Assign _ (PySem.Expr.ListComp _ _ _ _) _) _) _ _ _ | show wpAny _ _ (eval (PySem.Expr.ListComp _ _ _ _) _) _ _ _ | show wpAny _ _ (binaryOp Operator.Mult (Value.ref _) _) _ _ _ | show wpAny _ _ (subscriptTail _ _ (Value.ref _) (Value.int _ _)) _ _ _ | show wpAny _ _ (getItem (Value.ref _) (Value.int _ _)) _ _ _ | show wpAny _ _ (setItem (Value.ref _) (Value.int _ _) _) _ _ _ | show wpAny _ _ (binaryOp Operator.Add (Value.str _ _) (Value.str _ _)) _ _ _ | show wpAny _ _ (inplaceOp Operator.Add (Value.str _ _) (Value.str _ _)) _ _ _ | show wpAny _ _ (subscriptTail _ (PySem.Expr.Slice _ _ _ _) (Value.ref _) (Value.ref _)) _ _ _ | show wpAny _ _ (call (Value.builtin "sum") _ _) _ _ _ | show wpAny _ _ (binaryOp Operator.Mult (Value.str _ _) _) _ _ _ | show wpAny _ _ (compareOp CmpOp.NotIn (Value.str _ _) (Value.str _ _)) _ _ _ | show wpAny _ _ (call (Value.type "str") _ _) _ _ _ | show wpAny _ _ (call (Value.type "builtins.str") _ _) _ _ _ | show wpAny _ _ (binaryOp Operator.Mod (Value.str _ _) _) _ _ _ | show wpAny _ _ (compareOp CmpOp.NotEq (Value.ref _) (Value.ref _)) _ _ _ | show wpAny _ _ (compareOp CmpOp.NotEq (Value.str _ _) (Value.str _ _)) _ _ _))); (first | (k_unfold; (try dsimp only)) | (k_end; wrow_close) | walk1 | (dsimp only; walk1) | (leave1; walk_say "STEP leave1"; try dsimp only) | fail "no step")))
    refine qlt_qs (by ((refine' Mine.Cx.mk ?cBq42 ?cFq42 ?cXq42 ?cNq42 ?cTq42 ?ckq42 ?cdq42 ?cuq42; (case cBq42 => k_asm); (case cFq42 => k_asm); (case cXq42 => k_asm); (case cNq42 => k_asm); (case cTq42 => k_asm); (case ckq42 => first | exact rfl | assumption); (case cdq42 => ktr_room); (case cuq42 => ktr_units)))) (hqL p hp).1 ?_
    intro h' tk' F' N'
    k_steps
  · rw [Bs.stop kInv (by assumption)]
    exact hret _ _ _ (by assumption) (by assumption)

set_option maxRecDepth 100000 in
set_option maxHeartbeats 8000000 in
theorem bisect_right_q_call {x : Str} {xv : Value} {l : Addr} {its : List (Value × Str)} {n : Nat} 
    (C : Cx w 3 dp un cs A₀ base outer h₀ L m news loose mean mg mb s.heap)
    (hl : (l, listOf (its.map (·.1)).toArray n) ∈ news) (hqL : QsAre news its) (hlen : its.length ≤ 100) (hx : IsQ news xv x)
    (hret : ∀ t h' tk', Fr h₀ L h' m → News h₀ L h' news → Q (.int ((bisN (its.map fun p => !decide (x.cps.toList < p.2.cps.toList)) : Nat) : Int) t) {s with heap := h', toks := tk'}) :
    wpAny (model PySem.Challenge.rw_wu0073_01.row.prog w) (ktrTop dp un gd cn cs L a ccd cl outer) (call (.ref 23) [.ref l, xv] []) Q E s := by
  obtain ⟨B, F, X, N, T, hk, hdp, hu⟩ := C
  revert X; k_fill; intro X
  ((refine wpAny_call ?_; k_dflt (refine' code_def ?k1q43 ?k2q43 ?k3q43 ?k4q43 ?k5q43 ?kAq43 ?kFq43 ?kKq43 ?k6q43 ?k7q43 ?k8q43 ?k9q43 ?kBq43 ?_ ?c2q43 ?c3q43 ?c4q43 ?c5q43; (case kAq43 => exact rfl); (case kFq43 => exact rfl); (case kKq43 => first | exact rfl | assumption); (case k1q43 => k_asm); (case k2q43 => k_asm); (case k3q43 => k_asm); (case k4q43 => k_asm); (case k5q43 => k_asm); (case k6q43 => k_is); (case k7q43 => k_is); (case k8q43 => ktr_room); (case k9q43 => first | exact BindsTo.of_eq rfl | exact binds_K (by k_in) rfl (by k_is) rfl rfl rfl | (refine' kp_binds ?kxq43 ?keq43; (case kxq43 => k_in); (case keq43 => exact fun _ => rfl))); (case c5q43 => decide); (case kBq43 => exact locs rfl); (case c2q43 => exact rfl); (case c3q43 => exact rfl); (case c4q43 => exact rfl); k_whole; intro _ _ _ _ _ _ _ _ _; (try dsimp only); (try k_fold))))
  (repeat' ((fail_if_success ((with_reducible first | show wpAny _ _ (exec (PySem.Stmt.While _ _ _ _) _) _ _ _ | show wpAny _ _ (exec (PySem.Stmt.For _ _ _ _ _) _) _ _ _ | show wpAny _ _ (call (Value.ref _) _ _) _ _ _ | show wpAny _ _ (compareOp CmpOp.Lt (Value.ref _) _) _ _ _ | show wpAny _ _ (compareOp CmpOp.Lt _ (Value.ref _)) _ _ _ | show wpAny _ _ (compareOp CmpOp.Lt (Prod.fst _) _) _ _ _ | show wpAny _ _ (compareOp CmpOp.Lt _ (Prod.fst _)) _ _ _ | show wpAny _ _ (compareOp CmpOp.Eq (Value.ref _) _) _ _ _ | show wpAny _ _ (pyIter _) (fun it s₂ => LoopAtV _ _ _ _ _ _ _ _ _ it s₂) _ _ | show wpAny _ _ (call (Value.builtin "str.split") _ _) _ _ _ | show wpAny _ _ (newList _) _ _ _ | show wpAny _ _ (call (Value.builtin "str.join") _ _) _ _ _ | show wpAny _ _ (call (Value.builtin "list.append") _ _) _ _ _ | show wpAny _ _ (exec (PySem.Stmt.Assign _ (PySem.Expr.ListComp _ _ _ _) _) _) _ _ _ | show wpAny _ _ (eval (PySem.Expr.ListComp _ _ _ _) _) _ _ _ | show wpAny _ _ (binaryOp Operator.Mult (Value.ref _) _) _ _ _ | show wpAny _ _ (subscriptTail _ _ (Value.ref _) (Value.int _ _)) _ _ _ | show wpAny _ _ (getItem (Value.ref _) (Value.int _ _)) _ _ _ | show wpAny _ _ (setItem (Value.ref _) (Value.int _ _) _) _ _ _ | show wpAny _ _ (binaryOp Operator.Add (Value.str _ _) (Value.str _ _)) _ _ _ | show wpAny _ _ (inplaceOp Operator.Add (Value.str _ _) (Value.str _ _)) _ _ _ | show wpAny _ _ (subscriptTail _ (PySem.Expr.Slice _ _ _ _) (Value.ref _) (Value.ref _)) _ _ _ | show wpAny _ _ (call (Value.builtin "sum") _ _) _ _ _ | show wpAny _ _ (binaryOp Operator.Mult (Value.str _ _) _) _ _ _ | show wpAny _ _ (compareOp CmpOp.NotIn (Value.str _ _) (Value.str _ _)) _ _ _ | show wpAny _ _ (call (Value.type "str") _ _) _ _ _ | show wpAny _ _ (call (Value.type "builtins.str") _ _) _ _ _ | show wpAny _ _ (binaryOp Operator.Mod (Value.str _ _) _) _ _ _ | show wpAny _ _ (compareOp CmpOp.NotEq (Value.ref _) (Value.ref _)) _ _ _ | show wpAny _ _ (compareOp CmpOp.NotEq (Value.str _ _) (Value.str _ _)) _ _ _))); (fail_if_success (with_reducible show wpAny _ _ (call (Value.builtin "len") [Value.ref _]) _ _ _)); (first | (k_unfold; (try dsimp only)) | (k_end; wrow_close) | walk1 | (dsimp only; walk1) | (leave1; walk_say "STEP leave1"; try dsimp only) | fail "no step")))
  ((k_here; (with_reducible show wpAny _ _ (call (Value.builtin "len") [Value.ref _]) _ _ _); k_dflt (refine Mine.len_its (by k_asm) (by assumption) (by assumption) ?_)))
  (repeat' ((fail_if_success ((with_reducible first | show wpAny _ _ (exec (PySem.Stmt.While _ _ _ _) _) _ _ _ | show wpAny _ _ (exec (PySem.Stmt.For _ _ _ _ _) _) _ _ _ | show wpAny _ _ (call (Value.ref _) _ _) _ _ _ | show wpAny _ _ (compareOp CmpOp.Lt (Value.ref _) _) _ _ _ | show wpAny _ _ (compareOp CmpOp.Lt _ (Value.ref _)) _ _ _ | show wpAny _ _ (compareOp CmpOp.Lt (Prod.fst _) _) _ _ _ | show wpAny _ _ (compareOp CmpOp.Lt _ (Prod.fst _)) _ _ _ | show wpAny _ _ (compareOp CmpOp.Eq (Value.ref _) _) _ _ _ | show wpAny _ _ (pyIter _) (fun it s₂ => LoopAtV _ _ _ _ _ _ _ _ _ it s₂) _ _ | show wpAny _ _ (call (Value.builtin "str.split") _ _) _ _ _ | show wpAny _ _ (newList _) _ _ _ | show wpAny _ _ (call (Value.builtin "str.join") _ _) _ _ _ | show wpAny _ _ (call (Value.builtin "list.append") _ _) _ _ _ | show wpAny _ _ (exec (PySem.Stmt.Assign _ (PySem.Expr.ListComp _ _ _ _) _) _) _ _ _ | show wpAny _ _ (eval (PySem.Expr.ListComp _ _ _ _) _) _ _ _ | show wpAny _ _ (binaryOp Operator.Mult (Value.ref _) _) _ _ _ | show wpAny _ _ (subscriptTail _ _ (Value.ref _) (Value.int _ _)) _ _ _ | show wpAny _ _ (getItem (Value.ref _) (Value.int _ _)) _ _ _ | show wpAny _ _ (setItem (Value.ref _) (Value.int _ _) _) _ _ _ | show wpAny _ _ (binaryOp Operator.Add (Value.str _ _) (Value.str _ _)) _ _ _ | show wpAny _ _ (inplaceOp Operator.Add (Value.str _ _) (Value.str _ _)) _ _ _ | show wpAny _ _ (subscriptTail _ (PySem.Expr.Slice _ _ _ _) (Value.ref _) (Value.ref _)) _ _ _ | show wpAny _ _ (call (Value.builtin "sum") _ _) _ _ _ | show wpAny _ _ (binaryOp Operator.Mult (Value.str _ _) _) _ _ _ | show wpAny _ _ (compareOp CmpOp.NotIn (Value.str _ _) (Value.str _ _)) _ _ _ | show wpAny _ _ (call (Value.type "str") _ _) _ _ _ | show wpAny _ _ (call (Value.type "builtins.str") _ _) _ _ _ | show wpAny _ _ (binaryOp Operator.Mod (Value.str _ _) _) _ _ _ | show wpAny _ _ (compareOp CmpOp.NotEq (Value.ref _) (Value.ref _)) _ _ _ | show wpAny _ _ (compareOp CmpOp.NotEq (Value.str _ _) (Value.str _ _)) _ _ _))); (first | (k_unfold; (try dsimp only)) | (k_end; wrow_close) | walk1 | (dsimp only; walk1) | (leave1; walk_say "STEP leave1"; try dsimp only) | fail "no step")))
  k_with "state" => first | exact Bs.start _ (by simp) | exact Bs.right2 (by assumption) (by assumption) (by assumption) (nt_false (by assumption)) | exact Bs.left2 (by assumption) (by assumption) (by assumption) (nt_true (by assumption))
  k_while (fun (_ : List Int) lo hi => Bs (its.map fun p => !decide (x.cps.toList < p.2.cps.toList)) (bisN (its.map fun p => !decide (x.cps.toList < p.2.cps.toList))) lo hi) (fun (_ : List Int) lo hi => (hi - lo).toNat) "lo" "hi"
  (repeat' ((fail_if_success ((with_reducible first | show wpAny _ _ (exec (PySem.Stmt.While _ _ _ _) _) _ _ _ | show wpAny _ _ (exec (PySem.Stmt.For _ _ _ _ _) _) _ _ _ | show wpAny _ _ (call (Value.ref _) _ _) _ _ _ | show wpAny _ _ (compareOp CmpOp.Lt (Value.ref _) _) _ _ _ | show wpAny _ _ (compareOp CmpOp.Lt _ (Value.ref _)) _ _ _ | show wpAny _ _ (compareOp CmpOp.Lt (Prod.fst _) _) _ _ _ | show wpAny _ _ (compareOp CmpOp.Lt _ (Prod.fst _)) _ _ _ | show wpAny _ _ (compareOp CmpOp.Eq (Value.ref _) _) _ _ _ | show wpAny _ _ (pyIter _) (fun it s₂ => LoopAtV _ _ _ _ _ _ _ _ _ it s₂) _ _ | show wpAny _ _ (call (Value.builtin "str.split") _ _) _ _ _ | show wpAny _ _ (newList _) _ _ _ | show wpAny _ _ (call (Value.builtin "str.join") _ _) _ _ _ | show wpAny _ _ (call (Value.builtin "list.append") _ _) _ _ _ | show wpAny _ _ (exec (PySem.Stmt.Assign _ (PySem.Expr.ListComp _ _ _ _) _) _) _ _ _ | show wpAny _ _ (eval (PySem.Expr.ListComp _ _ _ _) _) _ _ _ | show wpAny _ _ (binaryOp Operator.Mult (Value.ref _) _) _ _ _ | show wpAny _ _ (subscriptTail _ _ (Value.ref _) (Value.int _ _)) _ _ _ | show wpAny _ _ (getItem (Value.ref _) (Value.int _ _)) _ _ _ | show wpAny _ _ (setItem (Value.ref _) (Value.int _ _) _) _ _ _ | show wpAny _ _ (binaryOp Operator.Add (Value.str _ _) (Value.str _ _)) _ _ _ | show wpAny _ _ (inplaceOp Operator.Add (Value.str _ _) (Value.str _ _)) _ _ _ | show wpAny _ _ (subscriptTail _ (PySem.Expr.Slice _ _ _ _) (Value.ref _) (Value.ref _)) _ _ _ | show wpAny _ _ (call (Value.builtin "sum") _ _) _ _ _ | show wpAny _ _ (binaryOp Operator.Mult (Value.str _ _) _) _ _ _ | show wpAny _ _ (compareOp CmpOp.NotIn (Value.str _ _) (Value.str _ _)) _ _ _ | show wpAny _ _ (call (Value.type "str") _ _) _ _ _ | show wpAny _ _ (call (Value.type "builtins.str") _ _) _ _ _ | show wpAny _ _ (binaryOp Operator.Mod (Value.str _ _) _) _ _ _ | show wpAny _ _ (compareOp CmpOp.NotEq (Value.ref _) (Value.ref _)) _ _ _ | show wpAny _ _ (compareOp CmpOp.NotEq (Value.str _ _) (Value.str _ _)) _ _ _))); (first | (k_unfold; (try dsimp only)) | (k_end; wrow_close) | walk1 | (dsimp only; walk1) | (leave1; walk_say "STEP leave1"; try dsimp only) | fail "no step")))
  · obtain ⟨mm, he, h1, h2, h3⟩ := Bs.mid kInv (by assumption)
    rw [List.length_map] at h1
    refine item_its (by k_asm) hl hlen (by omega) (by omega) ?_
    intro p hp hpe
    (repeat' ((fail_if_success ((with_reducible first | show wpAny _ _ (exec (PySem.Stmt.While _ _ _ _) _) _ _ _ | show wpAny _ _ (exec (PySem.Stmt.For _ _ _ _ _) _) _ _ _ | show wpAny _ _ (call (Value.ref _) _ _) _ _ _ | show wpAny _ _ (compareOp CmpOp.Lt (Value.ref _) _) _ _ _ | show wpAny _ _ (compareOp CmpOp.Lt _ (Value.ref _)) _ _ _ | show wpAny _ _ (compareOp CmpOp.Lt (Prod.fst _) _) _ _ _ | show wpAny _ _ (compareOp CmpOp.Lt _ (Prod.fst _)) _ _ _ | show wpAny _ _ (compareOp CmpOp.Eq (Value.ref _) _) _ _ _ | show wpAny _ _ (pyIter _) (fun it s₂ => LoopAtV _ _ _ _ _ _ _ _ _ it s₂) _ _ | show wpAny _ _ (call (Value.builtin "str.split") _ _) _ _ _ | show wpAny _ _ (newList _) _ _ _ | show wpAny _ _ (call (Value.builtin "str.join") _ _) _ _ _ | show wpAny _ _ (call (Value.builtin "list.append") _ _) _ _ _ | show wpAny _ _ (exec (PySem.Stmt.Assign _ (PySem.Expr.ListComp _ _ _ _) _) _) _ _ _ | show wpAny _ _ (eval (PySem.Expr.ListComp _ _ _ _) _) _ _ _ | show wpAny _ _ (binaryOp Operator.Mult (Value.ref _) _) _ _ _ | show wpAny _ _ (subscriptTail _ _ (Value.ref _) (Value.int _ _)) _ _ _ | show wpAny _ _ (getItem (Value.ref _) (Value.int _ _)) _ _ _ | show wpAny _ _ (setItem (Value.ref _) (Value.int _ _) _) _ _ _ | show wpAny _ _ (binaryOp Operator.Add (Value.str _ _) (Value.str _ _)) _ _ _ | show wpAny _ _ (inplaceOp Operator.Add (Value.str _ _) (Value.str _ _)) _ _ _ | show wpAny _ _ (subscriptTail _ (PySem.Expr.Slice _ _ _ _) (Value.ref _) (Value.ref _)) _ _ _ | show wpAny _ _ (call (Value.builtin "sum") _ _) _ _ _ | show wpAny _ _ (binaryOp Operator.Mult (Value.str _ _) _) _ _ _ | show wpAny _ _ (compareOp CmpOp.NotIn (Value.str _ _) (Value.str _ _)) _ _ _ | show wpAny _ _ (call (Value.type "str") _ _) _ _ _ | show wpAny _ _ (call (Value.type "builtins.str") _ _) _ _ _ | show wpAny _ _ (binaryOp Operator.Mod (Value.str _ _) _) _ _ _ | show wpAny _ _ (compareOp CmpOp.NotEq (Value.ref _) (Value.ref _)) _ _ _ | show wpAny _ _ (compareOp CmpOp.NotEq (Value.str _ _) (Value.str _ _)) _ _ _))); (first | (k_unfold; (try dsimp only)) | (k_end; wrow_close) | walk1 | (dsimp only; walk1) | (leave1; walk_say "STEP leave1"; try dsimp only) | fail "no step")))
    refine qlt_qq (by ((refine' Mine.Cx.mk ?cBq53 ?cFq53 ?cXq53 ?cNq53 ?cTq53 ?ckq53 ?cdq53 ?cuq53; (case cBq53 => k_asm); (case cFq53 => k_asm); (case cXq53 => k_asm); (case cNq53 => k_asm); (case cTq53 => k_asm); (case ckq53 => first | exact rfl | assumption); (case cdq53 => ktr_room); (case cuq53 => ktr_units)))) hx (hqL p hp).1 ?_
    intro h' tk' F' N'
    k_steps
  · rw [Bs.stop kInv (by assumption)]
    exact hret _ _ _ (by assumption) (by assumption)

end
end Mine
namespace Mine
section
variable {w : World} {dp un : Nat} {gd : Option (List Code)} {cn : Str} {cs : Scope} {a : Addr} {ccd : Value} {cl : List (Str × Addr)} {outer : List Env} {A₀ : Around} {base h₀ : Heap} {L : Addr} {m : Str → Option Value} {news : List (Addr × Obj)} {s : Shared} {loose : List Str} {mean : ExcName → Option Value} {mg mb : Str → Option Value} {Q E : Value → Shared → Prop}


set_option maxRecDepth 100000 in
set_option maxHeartbeats 8000000 in
theorem insort_key_call {x : Str} {xv : Value} {l : Addr} {its : List (Value × Str)} {n : Nat} {news' : List (Addr × Obj)}
    (C : Cx w 4 dp un cs A₀ base outer h₀ L m news loose mean mg mb s.heap)
    (hqL : QsAre news its) (hlen : its.length ≤ 100) (hx : IsQ news xv x) (hx1 : x.length ≤ 100) (hx2 : 2 ≤ x.length)
    (U : Upd l (listOf (its.map (·.1)).toArray n) (listOf ((insertAt (bisN (its.map fun p => decide ((Txt.item p.2 1).cps.toList < (Txt.item x 1).cps.toList))) (xv, x) its).map (·.1)).toArray (n + 1)) news news')
    (hret : ∀ h' tk', Fr h₀ L h' m → News h₀ L h' news' → Q .none {s with heap := h', toks := tk'}) :
    wpAny (model PySem.Challenge.rw_wu0073_01.row.prog w) (ktrTop dp un gd cn cs L a ccd cl outer) (call (.ref 32) [.ref l, xv] [(Str.ofString "key", .ref 175)]) Q E s := by
  obtain ⟨B, F, X, N, T, hk, hdp, hu⟩ := C
  revert X; k_fill; intro X
  have hl : (l, listOf (its.map (·.1)).toArray n) ∈ news := by
    obtain ⟨pre, post, e, _⟩ := U.split
    rw [e]; exact List.mem_append_right _ (.head _)
  ((refine wpAny_call ?_; k_dflt (refine' code_def ?k1q54 ?k2q54 ?k3q54 ?k4q54 ?k5q54 ?kAq54 ?kFq54 ?kKq54 ?k6q54 ?k7q54 ?k8q54 ?k9q54 ?kBq54 ?_ ?c2q54 ?c3q54 ?c4q54 ?c5q54; (case kAq54 => exact rfl); (case kFq54 => exact rfl); (case kKq54 => first | exact rfl | assumption); (case k1q54 => k_asm); (case k2q54 => k_asm); (case k3q54 => k_asm); (case k4q54 => k_asm); (case k5q54 => k_asm); (case k6q54 => k_is); (case k7q54 => k_is); (case k8q54 => ktr_room); (case k9q54 => first | exact BindsTo.of_eq rfl | exact binds_K (by k_in) rfl (by k_is) rfl rfl rfl | (refine' kp_binds ?kxq54 ?keq54; (case kxq54 => k_in); (case keq54 => exact fun _ => rfl))); (case c5q54 => decide); (case kBq54 => exact locs rfl); (case c2q54 => exact rfl); (case c3q54 => exact rfl); (case c4q54 => exact rfl); k_whole; intro _ _ _ _ _ _ _ _ _; (try dsimp only); (try k_fold))))
  (repeat' ((fail_if_success ((with_reducible first | show wpAny _ _ (exec (PySem.Stmt.While _ _ _ _) _) _ _ _ | show wpAny _ _ (exec (PySem.Stmt.For _ _ _ _ _) _) _ _ _ | show wpAny _ _ (call (Value.ref _) _ _) _ _ _ | show wpAny _ _ (compareOp CmpOp.Lt (Value.ref _) _) _ _ _ | show wpAny _ _ (compareOp CmpOp.Lt _ (Value.ref _)) _ _ _ | show wpAny _ _ (compareOp CmpOp.Lt (Prod.fst _) _) _ _ _ | show wpAny _ _ (compareOp CmpOp.Lt _ (Prod.fst _)) _ _ _ | show wpAny _ _ (compareOp CmpOp.Eq (Value.ref _) _) _ _ _ | show wpAny _ _ (pyIter _) (fun it s₂ => LoopAtV _ _ _ _ _ _ _ _ _ it s₂) _ _ | show wpAny _ _ (call (Value.builtin "str.split") _ _) _ _ _ | show wpAny _ _ (newList _) _ _ _ | show wpAny _ _ (call (Value.builtin "str.join") _ _) _ _ _ | show wpAny _ _ (call (Value.builtin "list.append") _ _) _ _ _ | show wpAny _ _ (exec (PySem.Stmt.Assign _ (PySem.Expr.ListComp _ _ _ _) _) _) _ _ _ | show wpAny _ _ (eval (PySem.Expr.ListComp _ _ _ _) _) _ _ _ | show wpAny _ _ (binaryOp Operator.Mult (Value.ref _) _) _ _ _ | show wpAny _ _ (subscriptTail _ _ (Value.ref _) (Value.int _ _)) _ _ _ | show wpAny _ _ (getItem (Value.ref _) (Value.int _ _)) _ _ _ | show wpAny _ _ (setItem (Value.ref _) (Value.int _ _) _) _ _ _ | show wpAny _ _ (binaryOp Operator.Add (Value.str _ _) (Value.str _ _)) _ _ _ | show wpAny _ _ (inplaceOp Operator.Add (Value.str _ _) (Value.str _ _)) _ _ _ | show wpAny _ _ (subscriptTail _ (PySem.Expr.Slice _ _ _ _) (Value.ref _) (Value.ref _)) _ _ _ | show wpAny _ _ (call (Value.builtin "sum") _ _) _ _ _ | show wpAny _ _ (binaryOp Operator.Mult (Value.str _ _) _) _ _ _ | show wpAny _ _ (compareOp CmpOp.NotIn (Value.str _ _) (Value.str _ _)) _ _ _ | show wpAny _ _ (call (Value.type "str") _ _) _ _ _ | show wpAny _ _ (call (Value.type "builtins.str") _ _) _ _ _ | show wpAny _ _ (binaryOp Operator.Mod (Value.str _ _) _) _ _ _ | show wpAny _ _ (compareOp CmpOp.NotEq (Value.ref _) (Value.ref _)) _ _ _ | show wpAny _ _ (compareOp CmpOp.NotEq (Value.str _ _) (Value.str _ _)) _ _ _))); (first | (k_unfold; (try dsimp only)) | (k_end; wrow_close) | walk1 | (dsimp only; walk1) | (leave1; walk_say "STEP leave1"; try dsimp only) | fail "no step")))
  refine law_depth_call (by ((refine' Mine.Cx.mk ?cBq57 ?cFq57 ?cXq57 ?cNq57 ?cTq57 ?ckq57 ?cdq57 ?cuq57; (case cBq57 => k_asm); (case cFq57 => k_asm); (case cXq57 => k_asm); (case cNq57 => k_asm); (case cTq57 => k_asm); (case ckq57 => first | exact rfl | assumption); (case cdq57 => ktr_room); (case cuq57 => ktr_units)))) hx hx1 hx2 ?_
  intro t1 h1 tk1 F1 N1
  (repeat' ((fail_if_success ((with_reducible first | show wpAny _ _ (exec (PySem.Stmt.While _ _ _ _) _) _ _ _ | show wpAny _ _ (exec (PySem.Stmt.For _ _ _ _ _) _) _ _ _ | show wpAny _ _ (call (Value.ref _) _ _) _ _ _ | show wpAny _ _ (compareOp CmpOp.Lt (Value.ref _) _) _ _ _ | show wpAny _ _ (compareOp CmpOp.Lt _ (Value.ref _)) _ _ _ | show wpAny _ _ (compareOp CmpOp.Lt (Prod.fst _) _) _ _ _ | show wpAny _ _ (compareOp CmpOp.Lt _ (Prod.fst _)) _ _ _ | show wpAny _ _ (compareOp CmpOp.Eq (Value.ref _) _) _ _ _ | show wpAny _ _ (pyIter _) (fun it s₂ => LoopAtV _ _ _ _ _ _ _ _ _ it s₂) _ _ | show wpAny _ _ (call (Value.builtin "str.split") _ _) _ _ _ | show wpAny _ _ (newList _) _ _ _ | show wpAny _ _ (call (Value.builtin "str.join") _ _) _ _ _ | show wpAny _ _ (call (Value.builtin "list.append") _ _) _ _ _ | show wpAny _ _ (exec (PySem.Stmt.Assign _ (PySem.Expr.ListComp _ _ _ _) _) _) _ _ _ | show wpAny _ _ (eval (PySem.Expr.ListComp _ _ _ _) _) _ _ _ | show wpAny _ _ (binaryOp Operator.Mult (Value.ref _) _) _ _ _ | show wpAny _ _ (subscriptTail _ _ (Value.ref _) (Value.int _ _)) _ _ _ | show wpAny _ _ (getItem (Value.ref _) (Value.int _ _)) _ _ _ | show wpAny _ _ (setItem (Value.ref _) (Value.int _ _) _) _ _ _ | show wpAny _ _ (binaryOp Operator.Add (Value.str _ _) (Value.str _ _)) _ _ _ | show wpAny _ _ (inplaceOp Operator.Add (Value.str _ _) (Value.str _ _)) _ _ _ | show wpAny _ _ (subscriptTail _ (PySem.Expr.Slice _ _ _ _) (Value.ref _) (Value.ref _)) _ _ _ | show wpAny _ _ (call (Value.builtin "sum") _ _) _ _ _ | show wpAny _ _ (binaryOp Operator.Mult (Value.str _ _) _) _ _ _ | show wpAny _ _ (compareOp CmpOp.NotIn (Value.str _ _) (Value.str _ _)) _ _ _ | show wpAny _ _ (call (Value.type "str") _ _) _ _ _ | show wpAny _ _ (call (Value.type "builtins.str") _ _) _ _ _ | show wpAny _ _ (binaryOp Operator.Mod (Value.str _ _) _) _ _ _ | show wpAny _ _ (compareOp CmpOp.NotEq (Value.ref _) (Value.ref _)) _ _ _ | show wpAny _ _ (compareOp CmpOp.NotEq (Value.str _ _) (Value.str _ _)) _ _ _))); (first | (k_unfold; (try dsimp only)) | (k_end; wrow_close) | walk1 | (dsimp only; walk1) | (leave1; walk_say "STEP leave1"; try dsimp only) | fail "no step")))
  refine bisect_key_call (its := its) (by ((refine' Mine.Cx.mk ?cBq60 ?cFq60 ?cXq60 ?cNq60 ?cTq60 ?ckq60 ?cdq60 ?cuq60; (case cBq60 => k_asm); (case cFq60 => k_asm); (case cXq60 => k_asm); (case cNq60 => k_asm); (case cTq60 => k_asm); (case ckq60 => first | exact rfl | assumption); (case cdq60 => ktr_room); (case cuq60 => ktr_units)))) hl hqL hlen ?_
  intro t2 h2 tk2 F2 N2
  (repeat' ((fail_if_success ((with_reducible first | show wpAny _ _ (exec (PySem.Stmt.While _ _ _ _) _) _ _ _ | show wpAny _ _ (exec (PySem.Stmt.For _ _ _ _ _) _) _ _ _ | show wpAny _ _ (call (Value.ref _) _ _) _ _ _ | show wpAny _ _ (compareOp CmpOp.Lt (Value.ref _) _) _ _ _ | show wpAny _ _ (compareOp CmpOp.Lt _ (Value.ref _)) _ _ _ | show wpAny _ _ (compareOp CmpOp.Lt (Prod.fst _) _) _ _ _ | show wpAny _ _ (compareOp CmpOp.Lt _ (Prod.fst _)) _ _ _ | show wpAny _ _ (compareOp CmpOp.Eq (Value.ref _) _) _ _ _ | show wpAny _ _ (pyIter _) (fun it s₂ => LoopAtV _ _ _ _ _ _ _ _ _ it s₂) _ _ | show wpAny _ _ (call (Value.builtin "str.split") _ _) _ _ _ | show wpAny _ _ (newList _) _ _ _ | show wpAny _ _ (call (Value.builtin "str.join") _ _) _ _ _ | show wpAny _ _ (call (Value.builtin "list.append") _ _) _ _ _ | show wpAny _ _ (exec (PySem.Stmt.Assign _ (PySem.Expr.ListComp _ _ _ _) _) _) _ _ _ | show wpAny _ _ (eval (PySem.Expr.ListComp _ _ _ _) _) _ _ _ | show wpAny _ _ (binaryOp Operator.Mult (Value.ref _) _) _ _ _ | show wpAny _ _ (subscriptTail _ _ (Value.ref _) (Value.int _ _)) _ _ _ | show wpAny _ _ (getItem (Value.ref _) (Value.int _ _)) _ _ _ | show wpAny _ _ (setItem (Value.ref _) (Value.int _ _) _) _ _ _ | show wpAny _ _ (binaryOp Operator.Add (Value.str _ _) (Value.str _ _)) _ _ _ | show wpAny _ _ (inplaceOp Operator.Add (Value.str _ _) (Value.str _ _)) _ _ _ | show wpAny _ _ (subscriptTail _ (PySem.Expr.Slice _ _ _ _) (Value.ref _) (Value.ref _)) _ _ _ | show wpAny _ _ (call (Value.builtin "sum") _ _) _ _ _ | show wpAny _ _ (binaryOp Operator.Mult (Value.str _ _) _) _ _ _ | show wpAny _ _ (compareOp CmpOp.NotIn (Value.str _ _) (Value.str _ _)) _ _ _ | show wpAny _ _ (call (Value.type "str") _ _) _ _ _ | show wpAny _ _ (call (Value.type "builtins.str") _ _) _ _ _ | show wpAny _ _ (binaryOp Operator.Mod (Value.str _ _) _) _ _ _ | show wpAny _ _ (compareOp CmpOp.NotEq (Value.ref _) (Value.ref _)) _ _ _ | show wpAny _ _ (compareOp CmpOp.NotEq (Value.str _ _) (Value.str _ _)) _ _ _))); (first | (k_unfold; (try dsimp only)) | (k_end; wrow_close) | walk1 | (dsimp only; walk1) | (leave1; walk_say "STEP leave1"; try dsimp only) | fail "no step")))
  refine insert_its (y := (xv, x)) (by k_asm) (by k_asm) U hlen (Nat.le_trans (bisN_le _) (by simp)) ?_
  intro h3 F3 N3
  k_steps
  exact hret _ _ (by assumption) (by assumption)

set_option maxRecDepth 100000 in
set_option maxHeartbeats 8000000 in
theorem insort_call {x : Str} {xv : Value} {l : Addr} {its : List (Value × Str)} {n : Nat} {news' : List (Addr × Obj)}
    (C : Cx w 4 dp un cs A₀ base outer h₀ L m news loose mean mg mb s.heap)
    (hqL : QsAre news its) (hlen : its.length ≤ 100) (hx : IsQ news xv x)
    (U : Upd l (listOf (its.map (·.1)).toArray n) (listOf ((insertAt (bisN (its.map fun p => decide (p.2.cps.toList < x.cps.toList))) (xv, x) its).map (·.1)).toArray (n + 1)) news news')
    (hret : ∀ h' tk', Fr h₀ L h' m → News h₀ L h' news' → Q .none {s with heap := h', toks := tk'}) :
    wpAny (model PySem.Challenge.rw_wu0073_01.row.prog w) (ktrTop dp un gd cn cs L a ccd cl outer) (call (.ref 32) [.ref l, xv] []) Q E s := by
  obtain ⟨B, F, X, N, T, hk, hdp, hu⟩ := C
  revert X; k_fill; intro X
  have hl : (l, listOf (its.map (·.1)).toArray n) ∈ news := by
    obtain ⟨pre, post, e, _⟩ := U.split
    rw [e]; exact List.mem_append_right _ (.head _)
  ((refine wpAny_call ?_; k_dflt (refine' code_def ?k1q63 ?k2q63 ?k3q63 ?k4q63 ?k5q63 ?kAq63 ?kFq63 ?kKq63 ?k6q63 ?k7q63 ?k8q63 ?k9q63 ?kBq63 ?_ ?c2q63 ?c3q63 ?c4q63 ?c5q63; (case kAq63 => exact rfl); (case kFq63 => exact rfl); (case kKq63 => first | exact rfl | assumption); (case k1q63 => k_asm); (case k2q63 => k_asm); (case k3q63 => k_asm); (case k4q63 => k_asm); (case k5q63 => k_asm); (case k6q63 => k_is); (case k7q63 => k_is); (case k8q63 => ktr_room); (case k9q63 => first | exact BindsTo.of_eq rfl | exact binds_K (by k_in) rfl (by k_is) rfl rfl rfl | (refine' kp_binds ?kxq63 ?keq63; (case kxq63 => k_in); (case keq63 => exact fun _ => rfl))); (case c5q63 => decide); (case kBq63 => exact locs rfl); (case c2q63 => exact rfl); (case c3q63 => exact rfl); (case c4q63 => exact rfl); k_whole; intro _ _ _ _ _ _ _ _ _; (try dsimp only); (try k_fold))))
  (repeat' ((fail_if_success ((with_reducible first | show wpAny _ _ (exec (PySem.Stmt.While _ _ _ _) _) _ _ _ | show wpAny _ _ (exec (PySem.Stmt.For _ _ _ _ _) _) _ _ _ | show wpAny _ _ (call (Value.ref _) _ _) _ _ _ | show wpAny _ _ (compareOp CmpOp.Lt (Value.ref _) _) _ _ _ | show wpAny _ _ (compareOp CmpOp.Lt _ (Value.ref _)) _ _ _ | show wpAny _ _ (compareOp CmpOp.Lt (Prod.fst _) _) _ _ _ | show wpAny _ _ (compareOp CmpOp.Lt _ (Prod.fst _)) _ _ _ | show wpAny _ _ (compareOp CmpOp.Eq (Value.ref _) _) _ _ _ | show wpAny _ _ (pyIter _) (fun it s₂ => LoopAtV _ _ _ _ _ _ _ _ _ it s₂) _ _ | show wpAny _ _ (call (Value.builtin "str.split") _ _) _ _ _ | show wpAny _ _ (newList _) _ _ _ | show wpAny _ _ (call (Value.builtin "str.join") _ _) _ _ _ | show wpAny _ _ (call (Value.builtin "list.append") _ _) _ _ _ | show wpAny _ _ (exec (PySem.Stmt.Assign _ (PySem.Expr.ListComp _ _ _ _) _) _) _ _ _ | show wpAny _ _ (eval (PySem.Expr.ListComp _ _ _ _) _) _ _ _ | show wpAny _ _ (binaryOp Operator.Mult (Value.ref _) _) _ _ _ | show wpAny _ _ (subscriptTail _ _ (Value.ref _) (Value.int _ _)) _ _ _ | show wpAny _ _ (getItem (Value.ref _) (Value.int _ _)) _ _ _ | show wpAny _ _ (setItem (Value.ref _) (Value.int _ _) _) _ _ _ | show wpAny _ _ (binaryOp Operator.Add (Value.str _ _) (Value.str _ _)) _ _ _ | show wpAny _ _ (inplaceOp Operator.Add (Value.str _ _) (Value.str _ _)) _ _ _ | show wpAny _ _ (subscriptTail _ (PySem.Expr.Slice _ _ _ _) (Value.ref _) (Value.ref _)) _ _ _ | show wpAny _ _ (call (Value.builtin "sum") _ _) _ _ _ | show wpAny _ _ (binaryOp Operator.Mult (Value.str _ _) _) _ _ _ | show wpAny _ _ (compareOp CmpOp.NotIn (Value.str _ _) (Value.str _ _)) _ _ _ | show wpAny _ _ (call (Value.type "str") _ _) _ _ _ | show wpAny _ _ (call (Value.type "builtins.str") _ _) _ _ _ | show wpAny _ _ (binaryOp Operator.Mod (Value.str _ _) _) _ _ _ | show wpAny _ _ (compareOp CmpOp.NotEq (Value.ref _) (Value.ref _)) _ _ _ | show wpAny _ _ (compareOp CmpOp.NotEq (Value.str _ _) (Value.str _ _)) _ _ _))); (first | (k_unfold; (try dsimp only)) | (k_end; wrow_close) | walk1 | (dsimp only; walk1) | (leave1; walk_say "STEP leave1"; try dsimp only) | fail "no step")))
  refine bisect_left_q_call (its := its) (by ((refine' Mine.Cx.mk ?cBq66 ?cFq66 ?cXq66 ?cNq66 ?cTq66 ?ckq66 ?cdq66 ?cuq66; (case cBq66 => k_asm); (case cFq66 => k_asm); (case cXq66 => k_asm); (case cNq66 => k_asm); (case cTq66 => k_asm); (case ckq66 => first | exact rfl | assumption); (case cdq66 => ktr_room); (case cuq66 => ktr_units)))) hl hqL hlen hx ?_
  intro t2 h2 tk2 F2 N2
  (repeat' ((fail_if_success ((with_reducible first | show wpAny _ _ (exec (PySem.Stmt.While _ _ _ _) _) _ _ _ | show wpAny _ _ (exec (PySem.Stmt.For _ _ _ _ _) _) _ _ _ | show wpAny _ _ (call (Value.ref _) _ _) _ _ _ | show wpAny _ _ (compareOp CmpOp.Lt (Value.ref _) _) _ _ _ | show wpAny _ _ (compareOp CmpOp.Lt _ (Value.ref _)) _ _ _ | show wpAny _ _ (compareOp CmpOp.Lt (Prod.fst _) _) _ _ _ | show wpAny _ _ (compareOp CmpOp.Lt _ (Prod.fst _)) _ _ _ | show wpAny _ _ (compareOp CmpOp.Eq (Value.ref _) _) _ _ _ | show wpAny _ _ (pyIter _) (fun it s₂ => LoopAtV _ _ _ _ _ _ _ _ _ it s₂) _ _ | show wpAny _ _ (call (Value.builtin "str.split") _ _) _ _ _ | show wpAny _ _ (newList _) _ _ _ | show wpAny _ _ (call (Value.builtin "str.join") _ _) _ _ _ | show wpAny _ _ (call (Value.builtin "list.append") _ _) _ _ _ | show wpAny _ _ (exec (PySem.Stmt.Assign _ (PySem.Expr.ListComp _ _ _ _) _) _) _ _ _ | show wpAny _ _ (eval (PySem.Expr.ListComp _ _ _ _) _) _ _ _ | show wpAny _ _ (binaryOp Operator.Mult (Value.ref _) _) _ _ _ | show wpAny _ _ (subscriptTail _ _ (Value.ref _) (Value.int _ _)) _ _ _ | show wpAny _ _ (getItem (Value.ref _) (Value.int _ _)) _ _ _ | show wpAny _ _ (setItem (Value.ref _) (Value.int _ _) _) _ _ _ | show wpAny _ _ (binaryOp Operator.Add (Value.str _ _) (Value.str _ _)) _ _ _ | show wpAny _ _ (inplaceOp Operator.Add (Value.str _ _) (Value.str _ _)) _ _ _ | show wpAny _ _ (subscriptTail _ (PySem.Expr.Slice _ _ _ _) (Value.ref _) (Value.ref _)) _ _ _ | show wpAny _ _ (call (Value.builtin "sum") _ _) _ _ _ | show wpAny _ _ (binaryOp Operator.Mult (Value.str _ _) _) _ _ _ | show wpAny _ _ (compareOp CmpOp.NotIn (Value.str _ _) (Value.str _ _)) _ _ _ | show wpAny _ _ (call (Value.type "str") _ _) _ _ _ | show wpAny _ _ (call (Value.type "builtins.str") _ _) _ _ _ | show wpAny _ _ (binaryOp Operator.Mod (Value.str _ _) _) _ _ _ | show wpAny _ _ (compareOp CmpOp.NotEq (Value.ref _) (Value.ref _)) _ _ _ | show wpAny _ _ (compareOp CmpOp.NotEq (Value.str _ _) (Value.str _ _)) _ _ _))); (first | (k_unfold; (try dsimp only)) | (k_end; wrow_close) | walk1 | (dsimp only; walk1) | (leave1; walk_say "STEP leave1"; try dsimp only) | fail "no step")))
  refine insert_its (y := (xv, x)) (by k_asm) (by k_asm) U hlen (Nat.le_trans (bisN_le _) (by simp)) ?_
  intro h3 F3 N3
  k_steps
  exact hret _ _ (by assumption) (by assumption)

end
end Mine
namespace Mine
section
variable {w : World} {dp un : Nat} {gd : Option (List Code)} {cn : Str} {cs : Scope} {a : Addr} {ccd : Value} {cl : List (Str × Addr)} {outer : List Env} {A₀ : Around} {base h₀ : Heap} {L : Addr} {m : Str → Option Value} {news : List (Addr × Obj)} {s : Shared} {loose : List Str} {mean : ExcName → Option Value} {mg mb : Str → Option Value} {Q E : Value → Shared → Prop}

noncomputable def cntQ (y : Str) (l : List (Value × Str)) : Int := ((l.filter fun p => p.2 == y).length : Nat)
theorem cntQ_take {y : Str} {its : List (Value × Str)} {i : Nat} {p : Value × Str} (h : its[i]? = some p) : cntQ y (its.take (i + 1)) = cntQ y (its.take i) + (if p.2 == y then 1 else 0) := by
  unfold cntQ
  rw [List.take_add_one, h, List.filter_append, List.length_append]
  simp only [Option.toList_some, List.filter_cons, List.filter_nil]
  split <;> simp
set_option maxRecDepth 100000 in
set_option maxHeartbeats 8000000 in
theorem countOf_call {y : Str} {t : Tok} {l : Addr} {its : List (Value × Str)} {n : Nat}
    (C : Cx w 3 dp un cs A₀ base outer h₀ L m news loose mean mg mb s.heap)
    (hl : (l, listOf (its.map (·.1)).toArray n) ∈ news) (hqL : QsAre news its) (hlen : its.length ≤ 100)
    (hret : ∀ t h' tk', Fr h₀ L h' m → News h₀ L h' news → Q (.int (cntQ y its) t) {s with heap := h', toks := tk'}) :
    wpAny (model PySem.Challenge.rw_wu0073_01.row.prog w) (ktrTop dp un gd cn cs L a ccd cl outer) (call (.ref 76) [.ref l, .str y t]) Q E s := by
  obtain ⟨B, F, X, N, T, hk, hdp, hu⟩ := C
  revert X; k_fill; intro X
  ((refine wpAny_call ?_; k_dflt (refine' code_def ?k1q69 ?k2q69 ?k3q69 ?k4q69 ?k5q69 ?kAq69 ?kFq69 ?kKq69 ?k6q69 ?k7q69 ?k8q69 ?k9q69 ?kBq69 ?_ ?c2q69 ?c3q69 ?c4q69 ?c5q69; (case kAq69 => exact rfl); (case kFq69 => exact rfl); (case kKq69 => first | exact rfl | assumption); (case k1q69 => k_asm); (case k2q69 => k_asm); (case k3q69 => k_asm); (case k4q69 => k_asm); (case k5q69 => k_asm); (case k6q69 => k_is); (case k7q69 => k_is); (case k8q69 => ktr_room); (case k9q69 => first | exact BindsTo.of_eq rfl | exact binds_K (by k_in) rfl (by k_is) rfl rfl rfl | (refine' kp_binds ?kxq69 ?keq69; (case kxq69 => k_in); (case keq69 => exact fun _ => rfl))); (case c5q69 => decide); (case kBq69 => exact locs rfl); (case c2q69 => exact rfl); (case c3q69 => exact rfl); (case c4q69 => exact rfl); k_whole; intro _ _ _ _ _ _ _ _ _; (try dsimp only); (try k_fold))))
  (repeat' ((fail_if_success ((with_reducible first | show wpAny _ _ (exec (PySem.Stmt.While _ _ _ _) _) _ _ _ | show wpAny _ _ (exec (PySem.Stmt.For _ _ _ _ _) _) _ _ _ | show wpAny _ _ (call (Value.ref _) _ _) _ _ _ | show wpAny _ _ (compareOp CmpOp.Lt (Value.ref _) _) _ _ _ | show wpAny _ _ (compareOp CmpOp.Lt _ (Value.ref _)) _ _ _ | show wpAny _ _ (compareOp CmpOp.Lt (Prod.fst _) _) _ _ _ | show wpAny _ _ (compareOp CmpOp.Lt _ (Prod.fst _)) _ _ _ | show wpAny _ _ (compareOp CmpOp.Eq (Value.ref _) _) _ _ _ | show wpAny _ _ (pyIter _) (fun it s₂ => LoopAtV _ _ _ _ _ _ _ _ _ it s₂) _ _ | show wpAny _ _ (call (Value.builtin "str.split") _ _) _ _ _ | show wpAny _ _ (newList _) _ _ _ | show wpAny _ _ (call (Value.builtin "str.join") _ _) _ _ _ | show wpAny _ _ (call (Value.builtin "list.append") _ _) _ _ _ | show wpAny _ _ (exec (PySem.Stmt.Assign _ (PySem.Expr.ListComp _ _ _ _) _) _) _ _ _ | show wpAny _ _ (eval (PySem.Expr.ListComp _ _ _ _) _) _ _ _ | show wpAny _ _ (binaryOp Operator.Mult (Value.ref _) _) _ _ _ | show wpAny _ _ (subscriptTail _ _ (Value.ref _) (Value.int _ _)) _ _ _ | show wpAny _ _ (getItem (Value.ref _) (Value.int _ _)) _ _ _ | show wpAny _ _ (setItem (Value.ref _) (Value.int _ _) _) _ _ _ | show wpAny _ _ (binaryOp Operator.Add (Value.str _ _) (Value.str _ _)) _ _ _ | show wpAny _ _ (inplaceOp Operator.Add (Value.str _ _) (Value.str _ _)) _ _ _ | show wpAny _ _ (subscriptTail _ (PySem.Expr.Slice _ _ _ _) (Value.ref _) (Value.ref _)) _ _ _ | show wpAny _ _ (call (Value.builtin "sum") _ _) _ _ _ | show wpAny _ _ (binaryOp Operator.Mult (Value.str _ _) _) _ _ _ | show wpAny _ _ (compareOp CmpOp.NotIn (Value.str _ _) (Value.str _ _)) _ _ _ | show wpAny _ _ (call (Value.type "str") _ _) _ _ _ | show wpAny _ _ (call (Value.type "builtins.str") _ _) _ _ _ | show wpAny _ _ (binaryOp Operator.Mod (Value.str _ _) _) _ _ _ | show wpAny _ _ (compareOp CmpOp.NotEq (Value.ref _) (Value.ref _)) _ _ _ | show wpAny _ _ (compareOp CmpOp.NotEq (Value.str _ _) (Value.str _ _)) _ _ _))); (first | (k_unfold; (try dsimp only)) | (k_end; wrow_close) | walk1 | (dsimp only; walk1) | (leave1; walk_say "STEP leave1"; try dsimp only) | fail "no step")))
  ((k_here; (rename Fr _ _ _ _ => lF72); (with_unfolding_all refine' For_invVF lF72 ?k1q72 ?k2q72 ?_; (case k1q72 => exact rfl); (case k2q72 => exact rfl); k_whole)))
  (repeat' ((fail_if_success ((with_reducible first | show wpAny _ _ (exec (PySem.Stmt.While _ _ _ _) _) _ _ _ | show wpAny _ _ (exec (PySem.Stmt.For _ _ _ _ _) _) _ _ _ | show wpAny _ _ (call (Value.ref _) _ _) _ _ _ | show wpAny _ _ (compareOp CmpOp.Lt (Value.ref _) _) _ _ _ | show wpAny _ _ (compareOp CmpOp.Lt _ (Value.ref _)) _ _ _ | show wpAny _ _ (compareOp CmpOp.Lt (Prod.fst _) _) _ _ _ | show wpAny _ _ (compareOp CmpOp.Lt _ (Prod.fst _)) _ _ _ | show wpAny _ _ (compareOp CmpOp.Eq (Value.ref _) _) _ _ _ | show wpAny _ _ (pyIter _) (fun it s₂ => LoopAtV _ _ _ _ _ _ _ _ _ it s₂) _ _ | show wpAny _ _ (call (Value.builtin "str.split") _ _) _ _ _ | show wpAny _ _ (newList _) _ _ _ | show wpAny _ _ (call (Value.builtin "str.join") _ _) _ _ _ | show wpAny _ _ (call (Value.builtin "list.append") _ _) _ _ _ | show wpAny _ _ (exec (PySem.Stmt.Assign _ (PySem.Expr.ListComp _ _ _ _) _) _) _ _ _ | show wpAny _ _ (eval (PySem.Expr.ListComp _ _ _ _) _) _ _ _ | show wpAny _ _ (binaryOp Operator.Mult (Value.ref _) _) _ _ _ | show wpAny _ _ (subscriptTail _ _ (Value.ref _) (Value.int _ _)) _ _ _ | show wpAny _ _ (getItem (Value.ref _) (Value.int _ _)) _ _ _ | show wpAny _ _ (setItem (Value.ref _) (Value.int _ _) _) _ _ _ | show wpAny _ _ (binaryOp Operator.Add (Value.str _ _) (Value.str _ _)) _ _ _ | show wpAny _ _ (inplaceOp Operator.Add (Value.str _ _) (Value.str _ _)) _ _ _ | show wpAny _ _ (subscriptTail _ (PySem.Expr.Slice _ _ _ _) (Value.ref _) (Value.ref _)) _ _ _ | show wpAny _ _ (call (Value.builtin "sum") _ _) _ _ _ | show wpAny _ _ (binaryOp Operator.Mult (Value.str _ _) _) _ _ _ | show wpAny _ _ (compareOp CmpOp.NotIn (Value.str _ _) (Value.str _ _)) _ _ _ | show wpAny _ _ (call (Value.type "str") _ _) _ _ _ | show wpAny _ _ (call (Value.type "builtins.str") _ _) _ _ _ | show wpAny _ _ (binaryOp Operator.Mod (Value.str _ _) _) _ _ _ | show wpAny _ _ (compareOp CmpOp.NotEq (Value.ref _) (Value.ref _)) _ _ _ | show wpAny _ _ (compareOp CmpOp.NotEq (Value.str _ _) (Value.str _ _)) _ _ _))); (first | (k_unfold; (try dsimp only)) | (k_end; wrow_close) | walk1 | (dsimp only; walk1) | (leave1; walk_say "STEP leave1"; try dsimp only) | fail "no step")))
  refine loop_vals (vs := its.map (·.1)) (nn := n) (fun (_ : Int × Tok) => news) (fun c => [(Str.ofString "count", .int c.1 c.2)]) [Str.ofString "i"] (fun i c => c.1 = cntQ y (its.take i)) (0, _) (by rfl) hl (by k_asm) (by k_asm) (by kst_all) (by rfl) ?_ ?_
  · rintro ⟨ct, tt⟩ i v u h tk own I hv hR _ _ hne F1 N1
    dsimp only [kstB] at F1 N1
    rw [List.getElem?_map] at hv
    obtain ⟨p, hp, rfl⟩ := Option.map_eq_some_iff.mp hv
    have hpm := List.mem_of_getElem? hp
    obtain ⟨⟨px, pd, ph, pkt, ptk, hpe, pm1, pm2⟩, _, _⟩ := hqL p hpm
    have hq1 : IsQ (news ++ own) p.1 p.2 := (hqL p hpm).1.mono fun q hq => List.mem_append_left _ hq
    rw [hpe] at F1 hq1
    (((try dsimp only); (try k_fold)))
    (repeat' ((fail_if_success ((with_reducible first | show wpAny _ _ (exec (PySem.Stmt.While _ _ _ _) _) _ _ _ | show wpAny _ _ (exec (PySem.Stmt.For _ _ _ _ _) _) _ _ _ | show wpAny _ _ (call (Value.ref _) _ _) _ _ _ | show wpAny _ _ (compareOp CmpOp.Lt (Value.ref _) _) _ _ _ | show wpAny _ _ (compareOp CmpOp.Lt _ (Value.ref _)) _ _ _ | show wpAny _ _ (compareOp CmpOp.Lt (Prod.fst _) _) _ _ _ | show wpAny _ _ (compareOp CmpOp.Lt _ (Prod.fst _)) _ _ _ | show wpAny _ _ (compareOp CmpOp.Eq (Value.ref _) _) _ _ _ | show wpAny _ _ (pyIter _) (fun it s₂ => LoopAtV _ _ _ _ _ _ _ _ _ it s₂) _ _ | show wpAny _ _ (call (Value.builtin "str.split") _ _) _ _ _ | show wpAny _ _ (newList _) _ _ _ | show wpAny _ _ (call (Value.builtin "str.join") _ _) _ _ _ | show wpAny _ _ (call (Value.builtin "list.append") _ _) _ _ _ | show wpAny _ _ (exec (PySem.Stmt.Assign _ (PySem.Expr.ListComp _ _ _ _) _) _) _ _ _ | show wpAny _ _ (eval (PySem.Expr.ListComp _ _ _ _) _) _ _ _ | show wpAny _ _ (binaryOp Operator.Mult (Value.ref _) _) _ _ _ | show wpAny _ _ (subscriptTail _ _ (Value.ref _) (Value.int _ _)) _ _ _ | show wpAny _ _ (getItem (Value.ref _) (Value.int _ _)) _ _ _ | show wpAny _ _ (setItem (Value.ref _) (Value.int _ _) _) _ _ _ | show wpAny _ _ (binaryOp Operator.Add (Value.str _ _) (Value.str _ _)) _ _ _ | show wpAny _ _ (inplaceOp Operator.Add (Value.str _ _) (Value.str _ _)) _ _ _ | show wpAny _ _ (subscriptTail _ (PySem.Expr.Slice _ _ _ _) (Value.ref _) (Value.ref _)) _ _ _ | show wpAny _ _ (call (Value.builtin "sum") _ _) _ _ _ | show wpAny _ _ (binaryOp Operator.Mult (Value.str _ _) _) _ _ _ | show wpAny _ _ (compareOp CmpOp.NotIn (Value.str _ _) (Value.str _ _)) _ _ _ | show wpAny _ _ (call (Value.type "str") _ _) _ _ _ | show wpAny _ _ (call (Value.type "builtins.str") _ _) _ _ _ | show wpAny _ _ (binaryOp Operator.Mod (Value.str _ _) _) _ _ _ | show wpAny _ _ (compareOp CmpOp.NotEq (Value.ref _) (Value.ref _)) _ _ _ | show wpAny _ _ (compareOp CmpOp.NotEq (Value.str _ _) (Value.str _ _)) _ _ _))); (fail_if_success (with_reducible show wpAny _ _ (compareOp CmpOp.Is (Value.ref _) (Value.str _ _)) _ _ _)); (first | (k_unfold; (try dsimp only)) | (k_end; wrow_close) | walk1 | (dsimp only; walk1) | (leave1; walk_say "STEP leave1"; try dsimp only) | fail "no step")))
    ((refine wpAny_is_other rfl (by intro h; cases h) ?_))
    (repeat' ((fail_if_success ((with_reducible first | show wpAny _ _ (exec (PySem.Stmt.While _ _ _ _) _) _ _ _ | show wpAny _ _ (exec (PySem.Stmt.For _ _ _ _ _) _) _ _ _ | show wpAny _ _ (call (Value.ref _) _ _) _ _ _ | show wpAny _ _ (compareOp CmpOp.Lt (Value.ref _) _) _ _ _ | show wpAny _ _ (compareOp CmpOp.Lt _ (Value.ref _)) _ _ _ | show wpAny _ _ (compareOp CmpOp.Lt (Prod.fst _) _) _ _ _ | show wpAny _ _ (compareOp CmpOp.Lt _ (Prod.fst _)) _ _ _ | show wpAny _ _ (compareOp CmpOp.Eq (Value.ref _) _) _ _ _ | show wpAny _ _ (pyIter _) (fun it s₂ => LoopAtV _ _ _ _ _ _ _ _ _ it s₂) _ _ | show wpAny _ _ (call (Value.builtin "str.split") _ _) _ _ _ | show wpAny _ _ (newList _) _ _ _ | show wpAny _ _ (call (Value.builtin "str.join") _ _) _ _ _ | show wpAny _ _ (call (Value.builtin "list.append") _ _) _ _ _ | show wpAny _ _ (exec (PySem.Stmt.Assign _ (PySem.Expr.ListComp _ _ _ _) _) _) _ _ _ | show wpAny _ _ (eval (PySem.Expr.ListComp _ _ _ _) _) _ _ _ | show wpAny _ _ (binaryOp Operator.Mult (Value.ref _) _) _ _ _ | show wpAny _ _ (subscriptTail _ _ (Value.ref _) (Value.int _ _)) _ _ _ | show wpAny _ _ (getItem (Value.ref _) (Value.int _ _)) _ _ _ | show wpAny _ _ (setItem (Value.ref _) (Value.int _ _) _) _ _ _ | show wpAny _ _ (binaryOp Operator.Add (Value.str _ _) (Value.str _ _)) _ _ _ | show wpAny _ _ (inplaceOp Operator.Add (Value.str _ _) (Value.str _ _)) _ _ _ | show wpAny _ _ (subscriptTail _ (PySem.Expr.Slice _ _ _ _) (Value.ref _) (Value.ref _)) _ _ _ | show wpAny _ _ (call (Value.builtin "sum") _ _) _ _ _ | show wpAny _ _ (binaryOp Operator.Mult (Value.str _ _) _) _ _ _ | show wpAny _ _ (compareOp CmpOp.NotIn (Value.str _ _) (Value.str _ _)) _ _ _ | show wpAny _ _ (call (Value.type "str") _ _) _ _ _ | show wpAny _ _ (call (Value.type "builtins.str") _ _) _ _ _ | show wpAny _ _ (binaryOp Operator.Mod (Value.str _ _) _) _ _ _ | show wpAny _ _ (compareOp CmpOp.NotEq (Value.ref _) (Value.ref _)) _ _ _ | show wpAny _ _ (compareOp CmpOp.NotEq (Value.str _ _) (Value.str _ _)) _ _ _))); (first | (k_unfold; (try dsimp only)) | (k_end; wrow_close) | walk1 | (dsimp only; walk1) | (leave1; walk_say "STEP leave1"; try dsimp only) | fail "no step")))
    refine qeq_qs (by ((refine' Mine.Cx.mk ?cBq81 ?cFq81 ?cXq81 ?cNq81 ?cTq81 ?ckq81 ?cdq81 ?cuq81; (case cBq81 => k_asm); (case cFq81 => k_asm); (case cXq81 => k_asm); (case cNq81 => k_asm); (case cTq81 => k_asm); (case ckq81 => first | exact rfl | assumption); (case cdq81 => ktr_room); (case cuq81 => ktr_units)))) hq1 ?_
    intro h' tk' F' N'
    k_steps
    · refine ld_end (_, _) (by k_asm) (by k_asm) (by (first | assumption | exact fun p hp => List.mem_append_left _ hp)) (by (first | assumption | exact fun p hp => List.mem_append_right _ hp)) hne (by kst_all) (by ksw_same) ?_
      show _ = cntQ y (its.take (i + 1))
      rw [cntQ_take hp, ← hR, if_pos (by assumption)]
    · refine ld_end (_, _) (by k_asm) (by k_asm) (by (first | assumption | exact fun p hp => List.mem_append_left _ hp)) (by (first | assumption | exact fun p hp => List.mem_append_right _ hp)) hne (by kst_all) (by ksw_same) ?_
      show _ = cntQ y (its.take (i + 1))
      rw [cntQ_take hp, ← hR, if_neg (by simp_all)]
      exact (Int.add_zero _).symm
  · rintro ⟨ct, tt⟩ u h tk hR F1 N1
    dsimp only [kstB] at F1 N1
    (((try dsimp only); (try k_fold)))
    k_steps
    have e : ct = cntQ y its := by
      have e : ct = cntQ y (its.take (its.map (·.1)).length) := hR
      rw [e, List.length_map, List.take_length]
    rw [e]
    exact hret _ _ _ (by assumption) (by assumption)

end
end Mine
namespace Mine
section
variable {w : World} {dp un : Nat} {gd : Option (List Code)} {cn : Str} {cs : Scope} {a : Addr} {ccd : Value} {cl : List (Str × Addr)} {outer : List Env} {A₀ : Around} {base h₀ : Heap} {L : Addr} {m : Str → Option Value} {news : List (Addr × Obj)} {s : Shared} {loose : List Str} {mean : ExcName → Option Value} {mg mb : Str → Option Value} {Q E : Value → Shared → Prop}

set_option maxRecDepth 100000 in
set_option maxHeartbeats 8000000 in
theorem bounces_call {x : Str} {t : Tok} {k : Nat} {tk : Tok}
    (C : Cx w 1 dp un cs A₀ base outer h₀ L m news loose mean mg mb s.heap)
    (hx : x.length ≤ 100) (hx0 : 1 ≤ x.length) (hx1 : ∀ c ∈ x.cps.toList, c = 40 ∨ c = 41) (hk10 : k ≤ 10)
    (hret : ∀ l n vs h' tk', IntsAre vs (bouncesGo (runsOf x.cps.toList) k 0) → Fr h₀ L h' m → News h₀ L h' ((l, listOf vs.toArray n) :: news) → Q (.ref l) {s with heap := h', toks := tk'}) :
    wpAny (model PySem.Challenge.rw_wu0073_01.row.prog w) (ktrTop dp un gd cn cs L a ccd cl outer) (call (.ref 187) [.str x t, .int k tk]) Q E s := by
  obtain ⟨B, F, X, N, T, hk, hdp, hu⟩ := C
  revert X; k_fill; intro X
  ((refine wpAny_call ?_; k_dflt (refine' code_def ?k1q87 ?k2q87 ?k3q87 ?k4q87 ?k5q87 ?kAq87 ?kFq87 ?kKq87 ?k6q87 ?k7q87 ?k8q87 ?k9q87 ?kBq87 ?_ ?c2q87 ?c3q87 ?c4q87 ?c5q87; (case kAq87 => exact rfl); (case kFq87 => exact rfl); (case kKq87 => first | exact rfl | assumption); (case k1q87 => k_asm); (case k2q87 => k_asm); (case k3q87 => k_asm); (case k4q87 => k_asm); (case k5q87 => k_asm); (case k6q87 => k_is); (case k7q87 => k_is); (case k8q87 => ktr_room); (case k9q87 => first | exact BindsTo.of_eq rfl | exact binds_K (by k_in) rfl (by k_is) rfl rfl rfl | (refine' kp_binds ?kxq87 ?keq87; (case kxq87 => k_in); (case keq87 => exact fun _ => rfl))); (case c5q87 => decide); (case kBq87 => exact locs rfl); (case c2q87 => exact rfl); (case c3q87 => exact rfl); (case c4q87 => exact rfl); k_whole; intro _ _ _ _ _ _ _ _ _; (try dsimp only); (try k_fold))))
  (repeat' ((fail_if_success ((with_reducible first | show wpAny _ _ (exec (PySem.Stmt.While _ _ _ _) _) _ _ _ | show wpAny _ _ (exec (PySem.Stmt.For _ _ _ _ _) _) _ _ _ | show wpAny _ _ (call (Value.ref _) _ _) _ _ _ | show wpAny _ _ (compareOp CmpOp.Lt (Value.ref _) _) _ _ _ | show wpAny _ _ (compareOp CmpOp.Lt _ (Value.ref _)) _ _ _ | show wpAny _ _ (compareOp CmpOp.Lt (Prod.fst _) _) _ _ _ | show wpAny _ _ (compareOp CmpOp.Lt _ (Prod.fst _)) _ _ _ | show wpAny _ _ (compareOp CmpOp.Eq (Value.ref _) _) _ _ _ | show wpAny _ _ (pyIter _) (fun it s₂ => LoopAtV _ _ _ _ _ _ _ _ _ it s₂) _ _ | show wpAny _ _ (call (Value.builtin "str.split") _ _) _ _ _ | show wpAny _ _ (newList _) _ _ _ | show wpAny _ _ (call (Value.builtin "str.join") _ _) _ _ _ | show wpAny _ _ (call (Value.builtin "list.append") _ _) _ _ _ | show wpAny _ _ (exec (PySem.Stmt.Assign _ (PySem.Expr.ListComp _ _ _ _) _) _) _ _ _ | show wpAny _ _ (eval (PySem.Expr.ListComp _ _ _ _) _) _ _ _ | show wpAny _ _ (binaryOp Operator.Mult (Value.ref _) _) _ _ _ | show wpAny _ _ (subscriptTail _ _ (Value.ref _) (Value.int _ _)) _ _ _ | show wpAny _ _ (getItem (Value.ref _) (Value.int _ _)) _ _ _ | show wpAny _ _ (setItem (Value.ref _) (Value.int _ _) _) _ _ _ | show wpAny _ _ (binaryOp Operator.Add (Value.str _ _) (Value.str _ _)) _ _ _ | show wpAny _ _ (inplaceOp Operator.Add (Value.str _ _) (Value.str _ _)) _ _ _ | show wpAny _ _ (subscriptTail _ (PySem.Expr.Slice _ _ _ _) (Value.ref _) (Value.ref _)) _ _ _ | show wpAny _ _ (call (Value.builtin "sum") _ _) _ _ _ | show wpAny _ _ (binaryOp Operator.Mult (Value.str _ _) _) _ _ _ | show wpAny _ _ (compareOp CmpOp.NotIn (Value.str _ _) (Value.str _ _)) _ _ _ | show wpAny _ _ (call (Value.type "str") _ _) _ _ _ | show wpAny _ _ (call (Value.type "builtins.str") _ _) _ _ _ | show wpAny _ _ (binaryOp Operator.Mod (Value.str _ _) _) _ _ _ | show wpAny _ _ (compareOp CmpOp.NotEq (Value.ref _) (Value.ref _)) _ _ _ | show wpAny _ _ (compareOp CmpOp.NotEq (Value.str _ _) (Value.str _ _)) _ _ _))); (first | (k_unfold; (try dsimp only)) | (k_end; wrow_close) | walk1 | (dsimp only; walk1) | (leave1; walk_say "STEP leave1"; try dsimp only) | fail "no step")))
  refine split_own (by k_asm) (by k_asm) rfl hx ?_
  intro lr ll h1 tk1 hsp hne1 F1 N1
  (repeat' ((fail_if_success ((with_reducible first | show wpAny _ _ (exec (PySem.Stmt.While _ _ _ _) _) _ _ _ | show wpAny _ _ (exec (PySem.Stmt.For _ _ _ _ _) _) _ _ _ | show wpAny _ _ (call (Value.ref _) _ _) _ _ _ | show wpAny _ _ (compareOp CmpOp.Lt (Value.ref _) _) _ _ _ | show wpAny _ _ (compareOp CmpOp.Lt _ (Value.ref _)) _ _ _ | show wpAny _ _ (compareOp CmpOp.Lt (Prod.fst _) _) _ _ _ | show wpAny _ _ (compareOp CmpOp.Lt _ (Prod.fst _)) _ _ _ | show wpAny _ _ (compareOp CmpOp.Eq (Value.ref _) _) _ _ _ | show wpAny _ _ (pyIter _) (fun it s₂ => LoopAtV _ _ _ _ _ _ _ _ _ it s₂) _ _ | show wpAny _ _ (call (Value.builtin "str.split") _ _) _ _ _ | show wpAny _ _ (newList _) _ _ _ | show wpAny _ _ (call (Value.builtin "str.join") _ _) _ _ _ | show wpAny _ _ (call (Value.builtin "list.append") _ _) _ _ _ | show wpAny _ _ (exec (PySem.Stmt.Assign _ (PySem.Expr.ListComp _ _ _ _) _) _) _ _ _ | show wpAny _ _ (eval (PySem.Expr.ListComp _ _ _ _) _) _ _ _ | show wpAny _ _ (binaryOp Operator.Mult (Value.ref _) _) _ _ _ | show wpAny _ _ (subscriptTail _ _ (Value.ref _) (Value.int _ _)) _ _ _ | show wpAny _ _ (getItem (Value.ref _) (Value.int _ _)) _ _ _ | show wpAny _ _ (setItem (Value.ref _) (Value.int _ _) _) _ _ _ | show wpAny _ _ (binaryOp Operator.Add (Value.str _ _) (Value.str _ _)) _ _ _ | show wpAny _ _ (inplaceOp Operator.Add (Value.str _ _) (Value.str _ _)) _ _ _ | show wpAny _ _ (subscriptTail _ (PySem.Expr.Slice _ _ _ _) (Value.ref _) (Value.ref _)) _ _ _ | show wpAny _ _ (call (Value.builtin "sum") _ _) _ _ _ | show wpAny _ _ (binaryOp Operator.Mult (Value.str _ _) _) _ _ _ | show wpAny _ _ (compareOp CmpOp.NotIn (Value.str _ _) (Value.str _ _)) _ _ _ | show wpAny _ _ (call (Value.type "str") _ _) _ _ _ | show wpAny _ _ (call (Value.type "builtins.str") _ _) _ _ _ | show wpAny _ _ (binaryOp Operator.Mod (Value.str _ _) _) _ _ _ | show wpAny _ _ (compareOp CmpOp.NotEq (Value.ref _) (Value.ref _)) _ _ _ | show wpAny _ _ (compareOp CmpOp.NotEq (Value.str _ _) (Value.str _ _)) _ _ _))); (first | (k_unfold; (try dsimp only)) | (k_end; wrow_close) | walk1 | (dsimp only; walk1) | (leave1; walk_say "STEP leave1"; try dsimp only) | fail "no step")))
  refine newList_K (by k_asm) (by k_asm) ?_
  intro lb h2 F2 N2 hne2
  (repeat' ((fail_if_success ((with_reducible first | show wpAny _ _ (exec (PySem.Stmt.While _ _ _ _) _) _ _ _ | show wpAny _ _ (exec (PySem.Stmt.For _ _ _ _ _) _) _ _ _ | show wpAny _ _ (call (Value.ref _) _ _) _ _ _ | show wpAny _ _ (compareOp CmpOp.Lt (Value.ref _) _) _ _ _ | show wpAny _ _ (compareOp CmpOp.Lt _ (Value.ref _)) _ _ _ | show wpAny _ _ (compareOp CmpOp.Lt (Prod.fst _) _) _ _ _ | show wpAny _ _ (compareOp CmpOp.Lt _ (Prod.fst _)) _ _ _ | show wpAny _ _ (compareOp CmpOp.Eq (Value.ref _) _) _ _ _ | show wpAny _ _ (pyIter _) (fun it s₂ => LoopAtV _ _ _ _ _ _ _ _ _ it s₂) _ _ | show wpAny _ _ (call (Value.builtin "str.split") _ _) _ _ _ | show wpAny _ _ (newList _) _ _ _ | show wpAny _ _ (call (Value.builtin "str.join") _ _) _ _ _ | show wpAny _ _ (call (Value.builtin "list.append") _ _) _ _ _ | show wpAny _ _ (exec (PySem.Stmt.Assign _ (PySem.Expr.ListComp _ _ _ _) _) _) _ _ _ | show wpAny _ _ (eval (PySem.Expr.ListComp _ _ _ _) _) _ _ _ | show wpAny _ _ (binaryOp Operator.Mult (Value.ref _) _) _ _ _ | show wpAny _ _ (subscriptTail _ _ (Value.ref _) (Value.int _ _)) _ _ _ | show wpAny _ _ (getItem (Value.ref _) (Value.int _ _)) _ _ _ | show wpAny _ _ (setItem (Value.ref _) (Value.int _ _) _) _ _ _ | show wpAny _ _ (binaryOp Operator.Add (Value.str _ _) (Value.str _ _)) _ _ _ | show wpAny _ _ (inplaceOp Operator.Add (Value.str _ _) (Value.str _ _)) _ _ _ | show wpAny _ _ (subscriptTail _ (PySem.Expr.Slice _ _ _ _) (Value.ref _) (Value.ref _)) _ _ _ | show wpAny _ _ (call (Value.builtin "sum") _ _) _ _ _ | show wpAny _ _ (binaryOp Operator.Mult (Value.str _ _) _) _ _ _ | show wpAny _ _ (compareOp CmpOp.NotIn (Value.str _ _) (Value.str _ _)) _ _ _ | show wpAny _ _ (call (Value.type "str") _ _) _ _ _ | show wpAny _ _ (call (Value.type "builtins.str") _ _) _ _ _ | show wpAny _ _ (binaryOp Operator.Mod (Value.str _ _) _) _ _ _ | show wpAny _ _ (compareOp CmpOp.NotEq (Value.ref _) (Value.ref _)) _ _ _ | show wpAny _ _ (compareOp CmpOp.NotEq (Value.str _ _) (Value.str _ _)) _ _ _))); (first | (k_unfold; (try dsimp only)) | (k_end; wrow_close) | walk1 | (dsimp only; walk1) | (leave1; walk_say "STEP leave1"; try dsimp only) | fail "no step")))
  ((k_here; (rename Fr _ _ _ _ => lF94); (with_unfolding_all refine' For_invVF lF94 ?k1q94 ?k2q94 ?_; (case k1q94 => exact rfl); (case k2q94 => exact rfl); k_whole)))
  (repeat' ((fail_if_success ((with_reducible first | show wpAny _ _ (exec (PySem.Stmt.While _ _ _ _) _) _ _ _ | show wpAny _ _ (exec (PySem.Stmt.For _ _ _ _ _) _) _ _ _ | show wpAny _ _ (call (Value.ref _) _ _) _ _ _ | show wpAny _ _ (compareOp CmpOp.Lt (Value.ref _) _) _ _ _ | show wpAny _ _ (compareOp CmpOp.Lt _ (Value.ref _)) _ _ _ | show wpAny _ _ (compareOp CmpOp.Lt (Prod.fst _) _) _ _ _ | show wpAny _ _ (compareOp CmpOp.Lt _ (Prod.fst _)) _ _ _ | show wpAny _ _ (compareOp CmpOp.Eq (Value.ref _) _) _ _ _ | show wpAny _ _ (pyIter _) (fun it s₂ => LoopAtV _ _ _ _ _ _ _ _ _ it s₂) _ _ | show wpAny _ _ (call (Value.builtin "str.split") _ _) _ _ _ | show wpAny _ _ (newList _) _ _ _ | show wpAny _ _ (call (Value.builtin "str.join") _ _) _ _ _ | show wpAny _ _ (call (Value.builtin "list.append") _ _) _ _ _ | show wpAny _ _ (exec (PySem.Stmt.Assign _ (PySem.Expr.ListComp _ _ _ _) _) _) _ _ _ | show wpAny _ _ (eval (PySem.Expr.ListComp _ _ _ _) _) _ _ _ | show wpAny _ _ (binaryOp Operator.Mult (Value.ref _) _) _ _ _ | show wpAny _ _ (subscriptTail _ _ (Value.ref _) (Value.int _ _)) _ _ _ | show wpAny _ _ (getItem (Value.ref _) (Value.int _ _)) _ _ _ | show wpAny _ _ (setItem (Value.ref _) (Value.int _ _) _) _ _ _ | show wpAny _ _ (binaryOp Operator.Add (Value.str _ _) (Value.str _ _)) _ _ _ | show wpAny _ _ (inplaceOp Operator.Add (Value.str _ _) (Value.str _ _)) _ _ _ | show wpAny _ _ (subscriptTail _ (PySem.Expr.Slice _ _ _ _) (Value.ref _) (Value.ref _)) _ _ _ | show wpAny _ _ (call (Value.builtin "sum") _ _) _ _ _ | show wpAny _ _ (binaryOp Operator.Mult (Value.str _ _) _) _ _ _ | show wpAny _ _ (compareOp CmpOp.NotIn (Value.str _ _) (Value.str _ _)) _ _ _ | show wpAny _ _ (call (Value.type "str") _ _) _ _ _ | show wpAny _ _ (call (Value.type "builtins.str") _ _) _ _ _ | show wpAny _ _ (binaryOp Operator.Mod (Value.str _ _) _) _ _ _ | show wpAny _ _ (compareOp CmpOp.NotEq (Value.ref _) (Value.ref _)) _ _ _ | show wpAny _ _ (compareOp CmpOp.NotEq (Value.str _ _) (Value.str _ _)) _ _ _))); (first | (k_unfold; (try dsimp only)) | (k_end; wrow_close) | walk1 | (dsimp only; walk1) | (leave1; walk_say "STEP leave1"; try dsimp only) | fail "no step")))
  have hll : ll.map (·.1.length) = runsOf x.cps.toList := by
    rw [← split_runs x hx0, ← hsp, List.map_map]; rfl
  have hsum : (runsOf x.cps.toList).sum ≤ 100 := by
    have h1 := runs_sum _ hx1
    have h2 : x.cps.toList.length = x.length := Array.length_toList
    have h3 := List.length_pos_iff.mpr (runs_ne x.cps.toList)
    omega
  refine loop_range (fun (c : List Value × Nat × Int × Tok × List Int) => (lb, listOf c.1.toArray c.2.1) :: (lr, listOf (strValues ll).toArray 0) :: news) (fun c => [(Str.ofString "told", .int c.2.2.1 c.2.2.2.1)]) [Str.ofString "depth", Str.ofString "more"]
    (fun i c => IntsAre c.1 c.2.2.2.2 ∧ c.2.2.2.2.length = i ∧ ∃ T : Nat, c.2.2.1 = (T : Int) ∧ T ≤ 100 ∧ bouncesGo (runsOf x.cps.toList) k 0 = c.2.2.2.2 ++ bouncesGo (runsOf x.cps.toList) (k - i) T) ([], 0, 0, _, []) (n := k) (by rfl) (by assumption) ?_ ?_ (by assumption) (by k_asm) (by kst_all) ?_ ?_ ?_
  · exact small_one (by omega) (by omega) (by omega) (by omega)
  · rw [rangeSize_one]; split <;> omega
  · exact ⟨.nil, rfl, 0, rfl, Nat.zero_le _, by simp⟩
  · rintro ⟨vs, nb, toldI, tt, is⟩ i t u h tk own I hi ⟨hI, hl, told, htold, h100, hgo⟩ _ hown hne F3 N3
    dsimp only [kstB] at F3 N3 hne hI hl h100 hgo htold
    subst htold
    (((try dsimp only); (try k_fold)))
    (repeat' ((fail_if_success ((with_reducible first | show wpAny _ _ (exec (PySem.Stmt.While _ _ _ _) _) _ _ _ | show wpAny _ _ (exec (PySem.Stmt.For _ _ _ _ _) _) _ _ _ | show wpAny _ _ (call (Value.ref _) _ _) _ _ _ | show wpAny _ _ (compareOp CmpOp.Lt (Value.ref _) _) _ _ _ | show wpAny _ _ (compareOp CmpOp.Lt _ (Value.ref _)) _ _ _ | show wpAny _ _ (compareOp CmpOp.Lt (Prod.fst _) _) _ _ _ | show wpAny _ _ (compareOp CmpOp.Lt _ (Prod.fst _)) _ _ _ | show wpAny _ _ (compareOp CmpOp.Eq (Value.ref _) _) _ _ _ | show wpAny _ _ (pyIter _) (fun it s₂ => LoopAtV _ _ _ _ _ _ _ _ _ it s₂) _ _ | show wpAny _ _ (call (Value.builtin "str.split") _ _) _ _ _ | show wpAny _ _ (newList _) _ _ _ | show wpAny _ _ (call (Value.builtin "str.join") _ _) _ _ _ | show wpAny _ _ (call (Value.builtin "list.append") _ _) _ _ _ | show wpAny _ _ (exec (PySem.Stmt.Assign _ (PySem.Expr.ListComp _ _ _ _) _) _) _ _ _ | show wpAny _ _ (eval (PySem.Expr.ListComp _ _ _ _) _) _ _ _ | show wpAny _ _ (binaryOp Operator.Mult (Value.ref _) _) _ _ _ | show wpAny _ _ (subscriptTail _ _ (Value.ref _) (Value.int _ _)) _ _ _ | show wpAny _ _ (getItem (Value.ref _) (Value.int _ _)) _ _ _ | show wpAny _ _ (setItem (Value.ref _) (Value.int _ _) _) _ _ _ | show wpAny _ _ (binaryOp Operator.Add (Value.str _ _) (Value.str _ _)) _ _ _ | show wpAny _ _ (inplaceOp Operator.Add (Value.str _ _) (Value.str _ _)) _ _ _ | show wpAny _ _ (subscriptTail _ (PySem.Expr.Slice _ _ _ _) (Value.ref _) (Value.ref _)) _ _ _ | show wpAny _ _ (call (Value.builtin "sum") _ _) _ _ _ | show wpAny _ _ (binaryOp Operator.Mult (Value.str _ _) _) _ _ _ | show wpAny _ _ (compareOp CmpOp.NotIn (Value.str _ _) (Value.str _ _)) _ _ _ | show wpAny _ _ (call (Value.type "str") _ _) _ _ _ | show wpAny _ _ (call (Value.type "builtins.str") _ _) _ _ _ | show wpAny _ _ (binaryOp Operator.Mod (Value.str _ _) _) _ _ _ | show wpAny _ _ (compareOp CmpOp.NotEq (Value.ref _) (Value.ref _)) _ _ _ | show wpAny _ _ (compareOp CmpOp.NotEq (Value.str _ _) (Value.str _ _)) _ _ _))); (first | (k_unfold; (try dsimp only)) | (k_end; wrow_close) | walk1 | (dsimp only; walk1) | (leave1; walk_say "STEP leave1"; try dsimp only) | fail "no step")))
    have hlen : ll.length ≤ 101 := by
      have h1 := runs_sum _ hx1
      have h2 : x.cps.toList.length = x.length := Array.length_toList
      have h3 := congrArg List.length hll
      rw [List.length_map] at h3
      omega
    have hS : (((ll.take (told + 1)).map (·.1.length))).sum = ((runsOf x.cps.toList).take (told + 1)).sum := by rw [← hll, List.map_take]
    have hS2 : ((runsOf x.cps.toList).take (told + 1)).sum ≤ 100 := by
      have h1 : ((runsOf x.cps.toList).take (told + 1)).sum + ((runsOf x.cps.toList).drop (told + 1)).sum = (runsOf x.cps.toList).sum := by rw [← List.sum_append, List.take_append_drop]
      omega
    refine slice_strs (ll := ll) (n := 0) (k := told + 1) (by k_asm) (by k_asm) (.tail _ (.head _)) (by omega) (by omega) ?_
    intro D h4 F4 N4 l4
    (repeat' ((fail_if_success ((with_reducible first | show wpAny _ _ (exec (PySem.Stmt.While _ _ _ _) _) _ _ _ | show wpAny _ _ (exec (PySem.Stmt.For _ _ _ _ _) _) _ _ _ | show wpAny _ _ (call (Value.ref _) _ _) _ _ _ | show wpAny _ _ (compareOp CmpOp.Lt (Value.ref _) _) _ _ _ | show wpAny _ _ (compareOp CmpOp.Lt _ (Value.ref _)) _ _ _ | show wpAny _ _ (compareOp CmpOp.Lt (Prod.fst _) _) _ _ _ | show wpAny _ _ (compareOp CmpOp.Lt _ (Prod.fst _)) _ _ _ | show wpAny _ _ (compareOp CmpOp.Eq (Value.ref _) _) _ _ _ | show wpAny _ _ (pyIter _) (fun it s₂ => LoopAtV _ _ _ _ _ _ _ _ _ it s₂) _ _ | show wpAny _ _ (call (Value.builtin "str.split") _ _) _ _ _ | show wpAny _ _ (newList _) _ _ _ | show wpAny _ _ (call (Value.builtin "str.join") _ _) _ _ _ | show wpAny _ _ (call (Value.builtin "list.append") _ _) _ _ _ | show wpAny _ _ (exec (PySem.Stmt.Assign _ (PySem.Expr.ListComp _ _ _ _) _) _) _ _ _ | show wpAny _ _ (eval (PySem.Expr.ListComp _ _ _ _) _) _ _ _ | show wpAny _ _ (binaryOp Operator.Mult (Value.ref _) _) _ _ _ | show wpAny _ _ (subscriptTail _ _ (Value.ref _) (Value.int _ _)) _ _ _ | show wpAny _ _ (getItem (Value.ref _) (Value.int _ _)) _ _ _ | show wpAny _ _ (setItem (Value.ref _) (Value.int _ _) _) _ _ _ | show wpAny _ _ (binaryOp Operator.Add (Value.str _ _) (Value.str _ _)) _ _ _ | show wpAny _ _ (inplaceOp Operator.Add (Value.str _ _) (Value.str _ _)) _ _ _ | show wpAny _ _ (subscriptTail _ (PySem.Expr.Slice _ _ _ _) (Value.ref _) (Value.ref _)) _ _ _ | show wpAny _ _ (call (Value.builtin "sum") _ _) _ _ _ | show wpAny _ _ (binaryOp Operator.Mult (Value.str _ _) _) _ _ _ | show wpAny _ _ (compareOp CmpOp.NotIn (Value.str _ _) (Value.str _ _)) _ _ _ | show wpAny _ _ (call (Value.type "str") _ _) _ _ _ | show wpAny _ _ (call (Value.type "builtins.str") _ _) _ _ _ | show wpAny _ _ (binaryOp Operator.Mod (Value.str _ _) _) _ _ _ | show wpAny _ _ (compareOp CmpOp.NotEq (Value.ref _) (Value.ref _)) _ _ _ | show wpAny _ _ (compareOp CmpOp.NotEq (Value.str _ _) (Value.str _ _)) _ _ _))); (first | (k_unfold; (try dsimp only)) | (k_end; wrow_close) | walk1 | (dsimp only; walk1) | (leave1; walk_say "STEP leave1"; try dsimp only) | fail "no step")))
    refine join_strs (ll := ll.take (told + 1)) (by k_asm) (.head _) ?_ ?_
    · rw [hS, List.length_take]; omega
    intro t5 k5
    (repeat' ((fail_if_success ((with_reducible first | show wpAny _ _ (exec (PySem.Stmt.While _ _ _ _) _) _ _ _ | show wpAny _ _ (exec (PySem.Stmt.For _ _ _ _ _) _) _ _ _ | show wpAny _ _ (call (Value.ref _) _ _) _ _ _ | show wpAny _ _ (compareOp CmpOp.Lt (Value.ref _) _) _ _ _ | show wpAny _ _ (compareOp CmpOp.Lt _ (Value.ref _)) _ _ _ | show wpAny _ _ (compareOp CmpOp.Lt (Prod.fst _) _) _ _ _ | show wpAny _ _ (compareOp CmpOp.Lt _ (Prod.fst _)) _ _ _ | show wpAny _ _ (compareOp CmpOp.Eq (Value.ref _) _) _ _ _ | show wpAny _ _ (pyIter _) (fun it s₂ => LoopAtV _ _ _ _ _ _ _ _ _ it s₂) _ _ | show wpAny _ _ (call (Value.builtin "str.split") _ _) _ _ _ | show wpAny _ _ (newList _) _ _ _ | show wpAny _ _ (call (Value.builtin "str.join") _ _) _ _ _ | show wpAny _ _ (call (Value.builtin "list.append") _ _) _ _ _ | show wpAny _ _ (exec (PySem.Stmt.Assign _ (PySem.Expr.ListComp _ _ _ _) _) _) _ _ _ | show wpAny _ _ (eval (PySem.Expr.ListComp _ _ _ _) _) _ _ _ | show wpAny _ _ (binaryOp Operator.Mult (Value.ref _) _) _ _ _ | show wpAny _ _ (subscriptTail _ _ (Value.ref _) (Value.int _ _)) _ _ _ | show wpAny _ _ (getItem (Value.ref _) (Value.int _ _)) _ _ _ | show wpAny _ _ (setItem (Value.ref _) (Value.int _ _) _) _ _ _ | show wpAny _ _ (binaryOp Operator.Add (Value.str _ _) (Value.str _ _)) _ _ _ | show wpAny _ _ (inplaceOp Operator.Add (Value.str _ _) (Value.str _ _)) _ _ _ | show wpAny _ _ (subscriptTail _ (PySem.Expr.Slice _ _ _ _) (Value.ref _) (Value.ref _)) _ _ _ | show wpAny _ _ (call (Value.builtin "sum") _ _) _ _ _ | show wpAny _ _ (binaryOp Operator.Mult (Value.str _ _) _) _ _ _ | show wpAny _ _ (compareOp CmpOp.NotIn (Value.str _ _) (Value.str _ _)) _ _ _ | show wpAny _ _ (call (Value.type "str") _ _) _ _ _ | show wpAny _ _ (call (Value.type "builtins.str") _ _) _ _ _ | show wpAny _ _ (binaryOp Operator.Mod (Value.str _ _) _) _ _ _ | show wpAny _ _ (compareOp CmpOp.NotEq (Value.ref _) (Value.ref _)) _ _ _ | show wpAny _ _ (compareOp CmpOp.NotEq (Value.str _ _) (Value.str _ _)) _ _ _))); (first | (k_unfold; (try dsimp only)) | (k_end; wrow_close) | walk1 | (dsimp only; walk1) | (leave1; walk_say "STEP leave1"; try dsimp only) | fail "no step")))
    have hJ : (Str.join ⟨#[]⟩ ((ll.take (told + 1)).map (·.1))).length = ((runsOf x.cps.toList).take (told + 1)).sum := by
      rw [join0_length, List.map_map]; exact hS
    refine len_own (by rw [hJ]; omega) ?_
    intro t6 k6
    rw [hJ]
    (repeat' ((fail_if_success ((with_reducible first | show wpAny _ _ (exec (PySem.Stmt.While _ _ _ _) _) _ _ _ | show wpAny _ _ (exec (PySem.Stmt.For _ _ _ _ _) _) _ _ _ | show wpAny _ _ (call (Value.ref _) _ _) _ _ _ | show wpAny _ _ (compareOp CmpOp.Lt (Value.ref _) _) _ _ _ | show wpAny _ _ (compareOp CmpOp.Lt _ (Value.ref _)) _ _ _ | show wpAny _ _ (compareOp CmpOp.Lt (Prod.fst _) _) _ _ _ | show wpAny _ _ (compareOp CmpOp.Lt _ (Prod.fst _)) _ _ _ | show wpAny _ _ (compareOp CmpOp.Eq (Value.ref _) _) _ _ _ | show wpAny _ _ (pyIter _) (fun it s₂ => LoopAtV _ _ _ _ _ _ _ _ _ it s₂) _ _ | show wpAny _ _ (call (Value.builtin "str.split") _ _) _ _ _ | show wpAny _ _ (newList _) _ _ _ | show wpAny _ _ (call (Value.builtin "str.join") _ _) _ _ _ | show wpAny _ _ (call (Value.builtin "list.append") _ _) _ _ _ | show wpAny _ _ (exec (PySem.Stmt.Assign _ (PySem.Expr.ListComp _ _ _ _) _) _) _ _ _ | show wpAny _ _ (eval (PySem.Expr.ListComp _ _ _ _) _) _ _ _ | show wpAny _ _ (binaryOp Operator.Mult (Value.ref _) _) _ _ _ | show wpAny _ _ (subscriptTail _ _ (Value.ref _) (Value.int _ _)) _ _ _ | show wpAny _ _ (getItem (Value.ref _) (Value.int _ _)) _ _ _ | show wpAny _ _ (setItem (Value.ref _) (Value.int _ _) _) _ _ _ | show wpAny _ _ (binaryOp Operator.Add (Value.str _ _) (Value.str _ _)) _ _ _ | show wpAny _ _ (inplaceOp Operator.Add (Value.str _ _) (Value.str _ _)) _ _ _ | show wpAny _ _ (subscriptTail _ (PySem.Expr.Slice _ _ _ _) (Value.ref _) (Value.ref _)) _ _ _ | show wpAny _ _ (call (Value.builtin "sum") _ _) _ _ _ | show wpAny _ _ (binaryOp Operator.Mult (Value.str _ _) _) _ _ _ | show wpAny _ _ (compareOp CmpOp.NotIn (Value.str _ _) (Value.str _ _)) _ _ _ | show wpAny _ _ (call (Value.type "str") _ _) _ _ _ | show wpAny _ _ (call (Value.type "builtins.str") _ _) _ _ _ | show wpAny _ _ (binaryOp Operator.Mod (Value.str _ _) _) _ _ _ | show wpAny _ _ (compareOp CmpOp.NotEq (Value.ref _) (Value.ref _)) _ _ _ | show wpAny _ _ (compareOp CmpOp.NotEq (Value.str _ _) (Value.str _ _)) _ _ _))); (first | (k_unfold; (try dsimp only)) | (k_end; wrow_close) | walk1 | (dsimp only; walk1) | (leave1; walk_say "STEP leave1"; try dsimp only) | fail "no step")))
    have hlb : ∀ p ∈ (lr, listOf (strValues ll).toArray 0) :: news ++ own, p.1 ≠ lb := by
      intro p hp
      rcases List.mem_append.mp hp with hp | hp
      · exact Nat.ne_of_lt (hne2 p hp)
      · rw [hown p hp]; exact fun e => hne _ (.head _) e.symm
    refine append_K (by k_asm) (by k_asm) (.tail (Nat.ne_of_gt (l4 _ (.head _))) (.head hlb)) ?_ (by have := hI.length; rw [List.size_toArray]; have := sizeLine_eq; omega)
    intro h7 F7 N7
    rw [List.push_toArray] at N7
    k_steps
    refine ld_end (_, _, _, _, is ++ [(((runsOf x.cps.toList).take (told + 1)).sum : Int) - (told : Int)]) (by k_asm) (by k_asm) (fun p hp => .tail _ (List.mem_append_left own hp)) (fun p hp => .tail _ (List.mem_append_right ((lb, _) :: (lr, _) :: news) hp)) ?_ (by kst_all) (by ksw_same) ?_
    · intro p hp
      rcases List.mem_cons.mp hp with rfl | hp
      · exact hne (lb, listOf vs.toArray nb) (.head _)
      · exact hne p (.tail _ hp)
    · refine ⟨hI.append (.cons _ _ .nil), by simp [hl], ((runsOf x.cps.toList).take (told + 1)).sum, by dsimp only; omega, hS2, ?_⟩
      rw [hgo, show k - i = (k - (i + 1)) + 1 from by omega, bouncesGo, List.append_assoc]
      rfl
  · rintro ⟨vs, nb, toldI, tt, is⟩ u h tk ⟨hI, hl, told, htold, h100, hgo⟩ F3 N3
    dsimp only [kstB] at F3 N3 hI hl h100 hgo htold
    (((try dsimp only); (try k_fold)))
    k_steps
    rw [Nat.sub_self, bouncesGo, List.append_nil] at hgo
    refine hret lb nb vs _ _ (by rw [hgo]; exact hI) (by assumption) ?_
    rename News _ _ _ _ => hN
    intro p hp
    rcases List.mem_cons.mp hp with rfl | hp
    · exact hN _ (.head _)
    · exact hN _ (.tail _ (.tail _ hp))

end
end Mine
namespace Mine
section
variable {w : World} {dp un : Nat} {gd : Option (List Code)} {cn : Str} {cs : Scope} {a : Addr} {ccd : Value} {cl : List (Str × Addr)} {outer : List Env} {A₀ : Around} {base h₀ : Heap} {L : Addr} {m : Str → Option Value} {news : List (Addr × Obj)} {s : Shared} {loose : List Str} {mean : ExcName → Option Value} {mg mb : Str → Option Value} {Q E : Value → Shared → Prop}

set_option maxRecDepth 100000 in
set_option maxHeartbeats 8000000 in
theorem told_call {x : Str} {t : Tok}
    (C : Cx w 1 dp un cs A₀ base outer h₀ L m news loose mean mg mb s.heap)
    (hx : x.length ≤ 100) (hx0 : 1 ≤ x.length) (hx1 : ∀ c ∈ x.cps.toList, c = 40 ∨ c = 41) (hs10 : (runsOf x.cps.toList).sum ≤ 10) (hbal : (runsOf x.cps.toList).sum + 1 ≤ (runsOf x.cps.toList).length) 
    (hret : ∀ y t h' tk', y.cps.toList = toldOf x.cps.toList → Fr h₀ L h' m → News h₀ L h' news → Q (.str y t) {s with heap := h', toks := tk'}) :
    wpAny (model PySem.Challenge.rw_wu0073_01.row.prog w) (ktrTop dp un gd cn cs L a ccd cl outer) (call (.ref 180) [.str x t]) Q E s := by
  obtain ⟨B, F, X, N, T, hk, hdp, hu⟩ := C
  revert X; k_fill; intro X
  ((refine wpAny_call ?_; k_dflt (refine' code_def ?k1q107 ?k2q107 ?k3q107 ?k4q107 ?k5q107 ?kAq107 ?kFq107 ?kKq107 ?k6q107 ?k7q107 ?k8q107 ?k9q107 ?kBq107 ?_ ?c2q107 ?c3q107 ?c4q107 ?c5q107; (case kAq107 => exact rfl); (case kFq107 => exact rfl); (case kKq107 => first | exact rfl | assumption); (case k1q107 => k_asm); (case k2q107 => k_asm); (case k3q107 => k_asm); (case k4q107 => k_asm); (case k5q107 => k_asm); (case k6q107 => k_is); (case k7q107 => k_is); (case k8q107 => ktr_room); (case k9q107 => first | exact BindsTo.of_eq rfl | exact binds_K (by k_in) rfl (by k_is) rfl rfl rfl | (refine' kp_binds ?kxq107 ?keq107; (case kxq107 => k_in); (case keq107 => exact fun _ => rfl))); (case c5q107 => decide); (case kBq107 => exact locs rfl); (case c2q107 => exact rfl); (case c3q107 => exact rfl); (case c4q107 => exact rfl); k_whole; intro _ _ _ _ _ _ _ _ _; (try dsimp only); (try k_fold))))
  (repeat' ((fail_if_success ((with_reducible first | show wpAny _ _ (exec (PySem.Stmt.While _ _ _ _) _) _ _ _ | show wpAny _ _ (exec (PySem.Stmt.For _ _ _ _ _) _) _ _ _ | show wpAny _ _ (call (Value.ref _) _ _) _ _ _ | show wpAny _ _ (compareOp CmpOp.Lt (Value.ref _) _) _ _ _ | show wpAny _ _ (compareOp CmpOp.Lt _ (Value.ref _)) _ _ _ | show wpAny _ _ (compareOp CmpOp.Lt (Prod.fst _) _) _ _ _ | show wpAny _ _ (compareOp CmpOp.Lt _ (Prod.fst _)) _ _ _ | show wpAny _ _ (compareOp CmpOp.Eq (Value.ref _) _) _ _ _ | show wpAny _ _ (pyIter _) (fun it s₂ => LoopAtV _ _ _ _ _ _ _ _ _ it s₂) _ _ | show wpAny _ _ (call (Value.builtin "str.split") _ _) _ _ _ | show wpAny _ _ (newList _) _ _ _ | show wpAny _ _ (call (Value.builtin "str.join") _ _) _ _ _ | show wpAny _ _ (call (Value.builtin "list.append") _ _) _ _ _ | show wpAny _ _ (exec (PySem.Stmt.Assign _ (PySem.Expr.ListComp _ _ _ _) _) _) _ _ _ | show wpAny _ _ (eval (PySem.Expr.ListComp _ _ _ _) _) _ _ _ | show wpAny _ _ (binaryOp Operator.Mult (Value.ref _) _) _ _ _ | show wpAny _ _ (subscriptTail _ _ (Value.ref _) (Value.int _ _)) _ _ _ | show wpAny _ _ (getItem (Value.ref _) (Value.int _ _)) _ _ _ | show wpAny _ _ (setItem (Value.ref _) (Value.int _ _) _) _ _ _ | show wpAny _ _ (binaryOp Operator.Add (Value.str _ _) (Value.str _ _)) _ _ _ | show wpAny _ _ (inplaceOp Operator.Add (Value.str _ _) (Value.str _ _)) _ _ _ | show wpAny _ _ (subscriptTail _ (PySem.Expr.Slice _ _ _ _) (Value.ref _) (Value.ref _)) _ _ _ | show wpAny _ _ (call (Value.builtin "sum") _ _) _ _ _ | show wpAny _ _ (binaryOp Operator.Mult (Value.str _ _) _) _ _ _ | show wpAny _ _ (compareOp CmpOp.NotIn (Value.str _ _) (Value.str _ _)) _ _ _ | show wpAny _ _ (call (Value.type "str") _ _) _ _ _ | show wpAny _ _ (call (Value.type "builtins.str") _ _) _ _ _ | show wpAny _ _ (binaryOp Operator.Mod (Value.str _ _) _) _ _ _ | show wpAny _ _ (compareOp CmpOp.NotEq (Value.ref _) (Value.ref _)) _ _ _ | show wpAny _ _ (compareOp CmpOp.NotEq (Value.str _ _) (Value.str _ _)) _ _ _))); (first | (k_unfold; (try dsimp only)) | (k_end; wrow_close) | walk1 | (dsimp only; walk1) | (leave1; walk_say "STEP leave1"; try dsimp only) | fail "no step")))
  ((k_dflt (refine LCg.Assign_ListComp_U (F₀ := by k_asm) (by rfl) (by with_unfolding_all rfl) (by with_unfolding_all rfl) (by decide) (by rfl) (by decide) (by rfl) (by rfl) (by rfl) ?_)))
  (repeat' ((fail_if_success ((with_reducible first | show wpAny _ _ (exec (PySem.Stmt.While _ _ _ _) _) _ _ _ | show wpAny _ _ (exec (PySem.Stmt.For _ _ _ _ _) _) _ _ _ | show wpAny _ _ (call (Value.ref _) _ _) _ _ _ | show wpAny _ _ (compareOp CmpOp.Lt (Value.ref _) _) _ _ _ | show wpAny _ _ (compareOp CmpOp.Lt _ (Value.ref _)) _ _ _ | show wpAny _ _ (compareOp CmpOp.Lt (Prod.fst _) _) _ _ _ | show wpAny _ _ (compareOp CmpOp.Lt _ (Prod.fst _)) _ _ _ | show wpAny _ _ (compareOp CmpOp.Eq (Value.ref _) _) _ _ _ | show wpAny _ _ (pyIter _) (fun it s₂ => LoopAtV _ _ _ _ _ _ _ _ _ it s₂) _ _ | show wpAny _ _ (call (Value.builtin "str.split") _ _) _ _ _ | show wpAny _ _ (newList _) _ _ _ | show wpAny _ _ (call (Value.builtin "str.join") _ _) _ _ _ | show wpAny _ _ (call (Value.builtin "list.append") _ _) _ _ _ | show wpAny _ _ (exec (PySem.Stmt.Assign _ (PySem.Expr.ListComp _ _ _ _) _) _) _ _ _ | show wpAny _ _ (eval (PySem.Expr.ListComp _ _ _ _) _) _ _ _ | show wpAny _ _ (binaryOp Operator.Mult (Value.ref _) _) _ _ _ | show wpAny _ _ (subscriptTail _ _ (Value.ref _) (Value.int _ _)) _ _ _ | show wpAny _ _ (getItem (Value.ref _) (Value.int _ _)) _ _ _ | show wpAny _ _ (setItem (Value.ref _) (Value.int _ _) _) _ _ _ | show wpAny _ _ (binaryOp Operator.Add (Value.str _ _) (Value.str _ _)) _ _ _ | show wpAny _ _ (inplaceOp Operator.Add (Value.str _ _) (Value.str _ _)) _ _ _ | show wpAny _ _ (subscriptTail _ (PySem.Expr.Slice _ _ _ _) (Value.ref _) (Value.ref _)) _ _ _ | show wpAny _ _ (call (Value.builtin "sum") _ _) _ _ _ | show wpAny _ _ (binaryOp Operator.Mult (Value.str _ _) _) _ _ _ | show wpAny _ _ (compareOp CmpOp.NotIn (Value.str _ _) (Value.str _ _)) _ _ _ | show wpAny _ _ (call (Value.type "str") _ _) _ _ _ | show wpAny _ _ (call (Value.type "builtins.str") _ _) _ _ _ | show wpAny _ _ (binaryOp Operator.Mod (Value.str _ _) _) _ _ _ | show wpAny _ _ (compareOp CmpOp.NotEq (Value.ref _) (Value.ref _)) _ _ _ | show wpAny _ _ (compareOp CmpOp.NotEq (Value.str _ _) (Value.str _ _)) _ _ _))); (first | (k_unfold; (try dsimp only)) | (k_end; wrow_close) | walk1 | (dsimp only; walk1) | (leave1; walk_say "STEP leave1"; try dsimp only) | fail "no step")))
  refine split_own (by k_asm) (by k_asm) rfl hx ?_
  intro lr ll h1 tk1 hsp hne1 F1 N1
  have hll : ll.map (·.1.length) = runsOf x.cps.toList := by
    rw [← split_runs x hx0, ← hsp, List.map_map]; rfl
  have hlen : ll.length ≤ 101 := by
    have h1 := runs_sum _ hx1
    have h2 : x.cps.toList.length = x.length := Array.length_toList
    have h3 := congrArg List.length hll
    rw [List.length_map] at h3
    omega
  have hsz : (strValues ll).toArray.size = ll.length := by simp [strValues]
  refine LCg.CompSrc.ledger (by rfl) (by k_asm) (by k_asm) (.head _) (by rw [hsz]; have := sizeLine_eq; omega) ?_
  intro g
  refine comp_rest (fun i y => ∃ t, y = .int (((runsOf x.cps.toList).getD i 0 : Nat) : Int) t) ?_ ?_
  · intro i v I oI C oC D m2 ys h tk E' hi hv hC hx2 F2 N2 off ne
    rw [List.getElem?_toArray] at hv
    unfold strValues at hv
    rw [List.getElem?_map] at hv
    obtain ⟨p, hp, rfl⟩ := Option.map_eq_some_iff.mp hv
    have hpl : p.1.length = (runsOf x.cps.toList).getD i 0 := by
      rw [← hll, List.getD_eq_getElem?_getD, List.getElem?_map, hp]; rfl
    have hpm : p.1.length ≤ 100 := by
      have : p.1 ∈ Txt.split x (Str.ofString ")") := by rw [← hsp]; exact List.mem_map_of_mem (List.mem_of_getElem? hp)
      exact Nat.le_trans (part_short this) hx
    (((try dsimp only); (try k_fold)))
    (repeat' ((fail_if_success ((with_reducible first | show wpAny _ _ (exec (PySem.Stmt.While _ _ _ _) _) _ _ _ | show wpAny _ _ (exec (PySem.Stmt.For _ _ _ _ _) _) _ _ _ | show wpAny _ _ (call (Value.ref _) _ _) _ _ _ | show wpAny _ _ (compareOp CmpOp.Lt (Value.ref _) _) _ _ _ | show wpAny _ _ (compareOp CmpOp.Lt _ (Value.ref _)) _ _ _ | show wpAny _ _ (compareOp CmpOp.Lt (Prod.fst _) _) _ _ _ | show wpAny _ _ (compareOp CmpOp.Lt _ (Prod.fst _)) _ _ _ | show wpAny _ _ (compareOp CmpOp.Eq (Value.ref _) _) _ _ _ | show wpAny _ _ (pyIter _) (fun it s₂ => LoopAtV _ _ _ _ _ _ _ _ _ it s₂) _ _ | show wpAny _ _ (call (Value.builtin "str.split") _ _) _ _ _ | show wpAny _ _ (newList _) _ _ _ | show wpAny _ _ (call (Value.builtin "str.join") _ _) _ _ _ | show wpAny _ _ (call (Value.builtin "list.append") _ _) _ _ _ | show wpAny _ _ (exec (PySem.Stmt.Assign _ (PySem.Expr.ListComp _ _ _ _) _) _) _ _ _ | show wpAny _ _ (eval (PySem.Expr.ListComp _ _ _ _) _) _ _ _ | show wpAny _ _ (binaryOp Operator.Mult (Value.ref _) _) _ _ _ | show wpAny _ _ (subscriptTail _ _ (Value.ref _) (Value.int _ _)) _ _ _ | show wpAny _ _ (getItem (Value.ref _) (Value.int _ _)) _ _ _ | show wpAny _ _ (setItem (Value.ref _) (Value.int _ _) _) _ _ _ | show wpAny _ _ (binaryOp Operator.Add (Value.str _ _) (Value.str _ _)) _ _ _ | show wpAny _ _ (inplaceOp Operator.Add (Value.str _ _) (Value.str _ _)) _ _ _ | show wpAny _ _ (subscriptTail _ (PySem.Expr.Slice _ _ _ _) (Value.ref _) (Value.ref _)) _ _ _ | show wpAny _ _ (call (Value.builtin "sum") _ _) _ _ _ | show wpAny _ _ (binaryOp Operator.Mult (Value.str _ _) _) _ _ _ | show wpAny _ _ (compareOp CmpOp.NotIn (Value.str _ _) (Value.str _ _)) _ _ _ | show wpAny _ _ (call (Value.type "str") _ _) _ _ _ | show wpAny _ _ (call (Value.type "builtins.str") _ _) _ _ _ | show wpAny _ _ (binaryOp Operator.Mod (Value.str _ _) _) _ _ _ | show wpAny _ _ (compareOp CmpOp.NotEq (Value.ref _) (Value.ref _)) _ _ _ | show wpAny _ _ (compareOp CmpOp.NotEq (Value.str _ _) (Value.str _ _)) _ _ _))); (first | (k_unfold; (try dsimp only)) | (k_end; wrow_close) | walk1 | (dsimp only; walk1) | (leave1; walk_say "STEP leave1"; try dsimp only) | fail "no step")))
    exact LCg.CompEnd.intro (by k_asm) (by k_asm) _ (fun p hp => hp) off (.inr ⟨_, .head _, rfl, _, rfl⟩) ⟨rfl, _, by rw [hpl]⟩
  · intro cs0 hyl hys
    rw [hsz] at hyl
    have hci : IntsAre cs0 ((runsOf x.cps.toList).map fun (c : Nat) => (c : Int)) := by
      refine ints_of (by rw [hyl, List.length_map, ← hll, List.length_map]) fun i y n hy hn => ?_
      obtain ⟨t, rfl⟩ := hys i y hy
      rw [List.getElem?_map] at hn
      obtain ⟨c, hc, rfl⟩ := Option.map_eq_some_iff.mp hn
      exact ⟨t, by rw [List.getD_eq_getElem?_getD, hc]; rfl⟩
    unfold LCg.FinA
    intro lc h2 tk2 F2 N2 o2
    (((try dsimp only); (try k_fold)))
    (repeat' ((fail_if_success ((with_reducible first | show wpAny _ _ (exec (PySem.Stmt.While _ _ _ _) _) _ _ _ | show wpAny _ _ (exec (PySem.Stmt.For _ _ _ _ _) _) _ _ _ | show wpAny _ _ (call (Value.ref _) _ _) _ _ _ | show wpAny _ _ (compareOp CmpOp.Lt (Value.ref _) _) _ _ _ | show wpAny _ _ (compareOp CmpOp.Lt _ (Value.ref _)) _ _ _ | show wpAny _ _ (compareOp CmpOp.Lt (Prod.fst _) _) _ _ _ | show wpAny _ _ (compareOp CmpOp.Lt _ (Prod.fst _)) _ _ _ | show wpAny _ _ (compareOp CmpOp.Eq (Value.ref _) _) _ _ _ | show wpAny _ _ (pyIter _) (fun it s₂ => LoopAtV _ _ _ _ _ _ _ _ _ it s₂) _ _ | show wpAny _ _ (call (Value.builtin "str.split") _ _) _ _ _ | show wpAny _ _ (newList _) _ _ _ | show wpAny _ _ (call (Value.builtin "str.join") _ _) _ _ _ | show wpAny _ _ (call (Value.builtin "list.append") _ _) _ _ _ | show wpAny _ _ (exec (PySem.Stmt.Assign _ (PySem.Expr.ListComp _ _ _ _) _) _) _ _ _ | show wpAny _ _ (eval (PySem.Expr.ListComp _ _ _ _) _) _ _ _ | show wpAny _ _ (binaryOp Operator.Mult (Value.ref _) _) _ _ _ | show wpAny _ _ (subscriptTail _ _ (Value.ref _) (Value.int _ _)) _ _ _ | show wpAny _ _ (getItem (Value.ref _) (Value.int _ _)) _ _ _ | show wpAny _ _ (setItem (Value.ref _) (Value.int _ _) _) _ _ _ | show wpAny _ _ (binaryOp Operator.Add (Value.str _ _) (Value.str _ _)) _ _ _ | show wpAny _ _ (inplaceOp Operator.Add (Value.str _ _) (Value.str _ _)) _ _ _ | show wpAny _ _ (subscriptTail _ (PySem.Expr.Slice _ _ _ _) (Value.ref _) (Value.ref _)) _ _ _ | show wpAny _ _ (call (Value.builtin "sum") _ _) _ _ _ | show wpAny _ _ (binaryOp Operator.Mult (Value.str _ _) _) _ _ _ | show wpAny _ _ (compareOp CmpOp.NotIn (Value.str _ _) (Value.str _ _)) _ _ _ | show wpAny _ _ (call (Value.type "str") _ _) _ _ _ | show wpAny _ _ (call (Value.type "builtins.str") _ _) _ _ _ | show wpAny _ _ (binaryOp Operator.Mod (Value.str _ _) _) _ _ _ | show wpAny _ _ (compareOp CmpOp.NotEq (Value.ref _) (Value.ref _)) _ _ _ | show wpAny _ _ (compareOp CmpOp.NotEq (Value.str _ _) (Value.str _ _)) _ _ _))); (first | (k_unfold; (try dsimp only)) | (k_end; wrow_close) | walk1 | (dsimp only; walk1) | (leave1; walk_say "STEP leave1"; try dsimp only) | fail "no step")))
    refine newList_K (by k_asm) (by k_asm) ?_
    intro lf h3 F3 N3 l3
    (repeat' ((fail_if_success ((with_reducible first | show wpAny _ _ (exec (PySem.Stmt.While _ _ _ _) _) _ _ _ | show wpAny _ _ (exec (PySem.Stmt.For _ _ _ _ _) _) _ _ _ | show wpAny _ _ (call (Value.ref _) _ _) _ _ _ | show wpAny _ _ (compareOp CmpOp.Lt (Value.ref _) _) _ _ _ | show wpAny _ _ (compareOp CmpOp.Lt _ (Value.ref _)) _ _ _ | show wpAny _ _ (compareOp CmpOp.Lt (Prod.fst _) _) _ _ _ | show wpAny _ _ (compareOp CmpOp.Lt _ (Prod.fst _)) _ _ _ | show wpAny _ _ (compareOp CmpOp.Eq (Value.ref _) _) _ _ _ | show wpAny _ _ (pyIter _) (fun it s₂ => LoopAtV _ _ _ _ _ _ _ _ _ it s₂) _ _ | show wpAny _ _ (call (Value.builtin "str.split") _ _) _ _ _ | show wpAny _ _ (newList _) _ _ _ | show wpAny _ _ (call (Value.builtin "str.join") _ _) _ _ _ | show wpAny _ _ (call (Value.builtin "list.append") _ _) _ _ _ | show wpAny _ _ (exec (PySem.Stmt.Assign _ (PySem.Expr.ListComp _ _ _ _) _) _) _ _ _ | show wpAny _ _ (eval (PySem.Expr.ListComp _ _ _ _) _) _ _ _ | show wpAny _ _ (binaryOp Operator.Mult (Value.ref _) _) _ _ _ | show wpAny _ _ (subscriptTail _ _ (Value.ref _) (Value.int _ _)) _ _ _ | show wpAny _ _ (getItem (Value.ref _) (Value.int _ _)) _ _ _ | show wpAny _ _ (setItem (Value.ref _) (Value.int _ _) _) _ _ _ | show wpAny _ _ (binaryOp Operator.Add (Value.str _ _) (Value.str _ _)) _ _ _ | show wpAny _ _ (inplaceOp Operator.Add (Value.str _ _) (Value.str _ _)) _ _ _ | show wpAny _ _ (subscriptTail _ (PySem.Expr.Slice _ _ _ _) (Value.ref _) (Value.ref _)) _ _ _ | show wpAny _ _ (call (Value.builtin "sum") _ _) _ _ _ | show wpAny _ _ (binaryOp Operator.Mult (Value.str _ _) _) _ _ _ | show wpAny _ _ (compareOp CmpOp.NotIn (Value.str _ _) (Value.str _ _)) _ _ _ | show wpAny _ _ (call (Value.type "str") _ _) _ _ _ | show wpAny _ _ (call (Value.type "builtins.str") _ _) _ _ _ | show wpAny _ _ (binaryOp Operator.Mod (Value.str _ _) _) _ _ _ | show wpAny _ _ (compareOp CmpOp.NotEq (Value.ref _) (Value.ref _)) _ _ _ | show wpAny _ _ (compareOp CmpOp.NotEq (Value.str _ _) (Value.str _ _)) _ _ _))); (first | (k_unfold; (try dsimp only)) | (k_end; wrow_close) | walk1 | (dsimp only; walk1) | (leave1; walk_say "STEP leave1"; try dsimp only) | fail "no step")))
    ((k_here; (rename Fr _ _ _ _ => lF121); (with_unfolding_all refine' For_invVF lF121 ?k1q121 ?k2q121 ?_; (case k1q121 => exact rfl); (case k2q121 => exact rfl); k_whole)))
    (repeat' ((fail_if_success ((with_reducible first | show wpAny _ _ (exec (PySem.Stmt.While _ _ _ _) _) _ _ _ | show wpAny _ _ (exec (PySem.Stmt.For _ _ _ _ _) _) _ _ _ | show wpAny _ _ (call (Value.ref _) _ _) _ _ _ | show wpAny _ _ (compareOp CmpOp.Lt (Value.ref _) _) _ _ _ | show wpAny _ _ (compareOp CmpOp.Lt _ (Value.ref _)) _ _ _ | show wpAny _ _ (compareOp CmpOp.Lt (Prod.fst _) _) _ _ _ | show wpAny _ _ (compareOp CmpOp.Lt _ (Prod.fst _)) _ _ _ | show wpAny _ _ (compareOp CmpOp.Eq (Value.ref _) _) _ _ _ | show wpAny _ _ (pyIter _) (fun it s₂ => LoopAtV _ _ _ _ _ _ _ _ _ it s₂) _ _ | show wpAny _ _ (call (Value.builtin "str.split") _ _) _ _ _ | show wpAny _ _ (newList _) _ _ _ | show wpAny _ _ (call (Value.builtin "str.join") _ _) _ _ _ | show wpAny _ _ (call (Value.builtin "list.append") _ _) _ _ _ | show wpAny _ _ (exec (PySem.Stmt.Assign _ (PySem.Expr.ListComp _ _ _ _) _) _) _ _ _ | show wpAny _ _ (eval (PySem.Expr.ListComp _ _ _ _) _) _ _ _ | show wpAny _ _ (binaryOp Operator.Mult (Value.ref _) _) _ _ _ | show wpAny _ _ (subscriptTail _ _ (Value.ref _) (Value.int _ _)) _ _ _ | show wpAny _ _ (getItem (Value.ref _) (Value.int _ _)) _ _ _ | show wpAny _ _ (setItem (Value.ref _) (Value.int _ _) _) _ _ _ | show wpAny _ _ (binaryOp Operator.Add (Value.str _ _) (Value.str _ _)) _ _ _ | show wpAny _ _ (inplaceOp Operator.Add (Value.str _ _) (Value.str _ _)) _ _ _ | show wpAny _ _ (subscriptTail _ (PySem.Expr.Slice _ _ _ _) (Value.ref _) (Value.ref _)) _ _ _ | show wpAny _ _ (call (Value.builtin "sum") _ _) _ _ _ | show wpAny _ _ (binaryOp Operator.Mult (Value.str _ _) _) _ _ _ | show wpAny _ _ (compareOp CmpOp.NotIn (Value.str _ _) (Value.str _ _)) _ _ _ | show wpAny _ _ (call (Value.type "str") _ _) _ _ _ | show wpAny _ _ (call (Value.type "builtins.str") _ _) _ _ _ | show wpAny _ _ (binaryOp Operator.Mod (Value.str _ _) _) _ _ _ | show wpAny _ _ (compareOp CmpOp.NotEq (Value.ref _) (Value.ref _)) _ _ _ | show wpAny _ _ (compareOp CmpOp.NotEq (Value.str _ _) (Value.str _ _)) _ _ _))); (first | (k_unfold; (try dsimp only)) | (k_end; wrow_close) | walk1 | (dsimp only; walk1) | (leave1; walk_say "STEP leave1"; try dsimp only) | fail "no step")))
    obtain ⟨rest, hrest⟩ : ∃ r, r = (lc, listOf cs0.toArray cs0.length) :: (lr, listOf (strValues ll).toArray 0) :: news := ⟨_, rfl⟩
    have hcs0 : (lc, listOf cs0.toArray cs0.length) ∈ rest := by rw [hrest]; exact .head _
    have hlf : ∀ p ∈ rest, p.1 ≠ lf := by rw [hrest]; exact fun p hp => Nat.ne_of_lt (l3 p hp)
    have hsub : ∀ p ∈ news, p ∈ rest := by rw [hrest]; exact fun p hp => .tail _ (.tail _ hp)
    have hrl : (runsOf x.cps.toList).length = ll.length := by rw [← hll, List.length_map]
    refine loop_vals (vs := cs0) (nn := cs0.length) (fun (c : List Value × Nat × Int × Tok) => (lf, listOf c.1.toArray c.2.1) :: rest) (fun c => [(Str.ofString "behind", .int c.2.2.1 c.2.2.2)]) [Str.ofString "count"]
      (fun i c => IntsAre c.1 (((firstsOf 1 (runsOf x.cps.toList)).take i).map fun (c : Nat) => (c : Int)) ∧ c.2.2.1 = ((1 + ((runsOf x.cps.toList).take i).sum : Nat) : Int)) ([], 0, 1, _) (by rfl) (.tail _ hcs0) (by k_asm) (by rw [hrest]; k_asm) (by kst_all) ⟨.nil, by simp⟩ ?_ ?_
    · rintro ⟨vs, nb, bh, bt⟩ i v u h tk own I hv ⟨hI, hb⟩ _ hown hne F4 N4
      dsimp only [kstB] at F4 N4 hne hI hb
      obtain ⟨ck, ct, hck, rfl⟩ := ints_at hci hv
      rw [List.getElem?_map] at hck
      obtain ⟨c, hc, rfl⟩ := Option.map_eq_some_iff.mp hck
      have hil : i < (runsOf x.cps.toList).length := (List.getElem?_eq_some_iff.mp hc).1
      (((try dsimp only); (try k_fold)))
      (repeat' ((fail_if_success ((with_reducible first | show wpAny _ _ (exec (PySem.Stmt.While _ _ _ _) _) _ _ _ | show wpAny _ _ (exec (PySem.Stmt.For _ _ _ _ _) _) _ _ _ | show wpAny _ _ (call (Value.ref _) _ _) _ _ _ | show wpAny _ _ (compareOp CmpOp.Lt (Value.ref _) _) _ _ _ | show wpAny _ _ (compareOp CmpOp.Lt _ (Value.ref _)) _ _ _ | show wpAny _ _ (compareOp CmpOp.Lt (Prod.fst _) _) _ _ _ | show wpAny _ _ (compareOp CmpOp.Lt _ (Prod.fst _)) _ _ _ | show wpAny _ _ (compareOp CmpOp.Eq (Value.ref _) _) _ _ _ | show wpAny _ _ (pyIter _) (fun it s₂ => LoopAtV _ _ _ _ _ _ _ _ _ it s₂) _ _ | show wpAny _ _ (call (Value.builtin "str.split") _ _) _ _ _ | show wpAny _ _ (newList _) _ _ _ | show wpAny _ _ (call (Value.builtin "str.join") _ _) _ _ _ | show wpAny _ _ (call (Value.builtin "list.append") _ _) _ _ _ | show wpAny _ _ (exec (PySem.Stmt.Assign _ (PySem.Expr.ListComp _ _ _ _) _) _) _ _ _ | show wpAny _ _ (eval (PySem.Expr.ListComp _ _ _ _) _) _ _ _ | show wpAny _ _ (binaryOp Operator.Mult (Value.ref _) _) _ _ _ | show wpAny _ _ (subscriptTail _ _ (Value.ref _) (Value.int _ _)) _ _ _ | show wpAny _ _ (getItem (Value.ref _) (Value.int _ _)) _ _ _ | show wpAny _ _ (setItem (Value.ref _) (Value.int _ _) _) _ _ _ | show wpAny _ _ (binaryOp Operator.Add (Value.str _ _) (Value.str _ _)) _ _ _ | show wpAny _ _ (inplaceOp Operator.Add (Value.str _ _) (Value.str _ _)) _ _ _ | show wpAny _ _ (subscriptTail _ (PySem.Expr.Slice _ _ _ _) (Value.ref _) (Value.ref _)) _ _ _ | show wpAny _ _ (call (Value.builtin "sum") _ _) _ _ _ | show wpAny _ _ (binaryOp Operator.Mult (Value.str _ _) _) _ _ _ | show wpAny _ _ (compareOp CmpOp.NotIn (Value.str _ _) (Value.str _ _)) _ _ _ | show wpAny _ _ (call (Value.type "str") _ _) _ _ _ | show wpAny _ _ (call (Value.type "builtins.str") _ _) _ _ _ | show wpAny _ _ (binaryOp Operator.Mod (Value.str _ _) _) _ _ _ | show wpAny _ _ (compareOp CmpOp.NotEq (Value.ref _) (Value.ref _)) _ _ _ | show wpAny _ _ (compareOp CmpOp.NotEq (Value.str _ _) (Value.str _ _)) _ _ _))); (first | (k_unfold; (try dsimp only)) | (k_end; wrow_close) | walk1 | (dsimp only; walk1) | (leave1; walk_say "STEP leave1"; try dsimp only) | fail "no step")))
      have hlb : ∀ p ∈ rest ++ own, p.1 ≠ lf := by
        intro p hp
        rcases List.mem_append.mp hp with hp | hp
        · exact hlf p hp
        · rcases hown p hp with e | e <;> rw [e]
          · exact fun e => hne _ (.head _) e.symm
          · exact hlf _ hcs0
      refine append_K (by k_asm) (by k_asm) (.head hlb) ?_ (by have := hI.length; rw [List.size_toArray, this, List.length_map, List.length_take]; have := sizeLine_eq; omega)
      intro h7 F7 N7
      rw [List.push_toArray] at N7
      k_steps
      refine ld_end (_, _, _, _) (by k_asm) (by k_asm) (fun p hp => List.mem_append_left own hp) (fun p hp => List.mem_append_right (_ :: rest) hp) ?_ (by kst_all) (by ksw_same) ?_
      · intro p hp
        rcases List.mem_cons.mp hp with rfl | hp
        · exact hne (lf, listOf vs.toArray nb) (.head _)
        · exact hne p (.tail _ hp)
      · refine ⟨?_, ?_⟩
        · rw [List.take_add_one, firsts_at 1 _ i hil, List.map_append]
          refine hI.append ?_
          rw [hb]
          exact .cons _ _ .nil
        · dsimp only
          rw [hb, sum_take_succ hc]; omega
    · rintro ⟨vs, nb, bh, bt⟩ u h tk ⟨hI, hb⟩ F4 N4
      dsimp only [kstB] at F4 N4 hI hb
      rw [List.take_of_length_le (by rw [firsts_length, hyl, hrl]; exact Nat.le_refl _)] at hI
      (((try dsimp only); (try k_fold)))
      (repeat' ((fail_if_success ((with_reducible first | show wpAny _ _ (exec (PySem.Stmt.While _ _ _ _) _) _ _ _ | show wpAny _ _ (exec (PySem.Stmt.For _ _ _ _ _) _) _ _ _ | show wpAny _ _ (call (Value.ref _) _ _) _ _ _ | show wpAny _ _ (compareOp CmpOp.Lt (Value.ref _) _) _ _ _ | show wpAny _ _ (compareOp CmpOp.Lt _ (Value.ref _)) _ _ _ | show wpAny _ _ (compareOp CmpOp.Lt (Prod.fst _) _) _ _ _ | show wpAny _ _ (compareOp CmpOp.Lt _ (Prod.fst _)) _ _ _ | show wpAny _ _ (compareOp CmpOp.Eq (Value.ref _) _) _ _ _ | show wpAny _ _ (pyIter _) (fun it s₂ => LoopAtV _ _ _ _ _ _ _ _ _ it s₂) _ _ | show wpAny _ _ (call (Value.builtin "str.split") _ _) _ _ _ | show wpAny _ _ (newList _) _ _ _ | show wpAny _ _ (call (Value.builtin "str.join") _ _) _ _ _ | show wpAny _ _ (call (Value.builtin "list.append") _ _) _ _ _ | show wpAny _ _ (exec (PySem.Stmt.Assign _ (PySem.Expr.ListComp _ _ _ _) _) _) _ _ _ | show wpAny _ _ (eval (PySem.Expr.ListComp _ _ _ _) _) _ _ _ | show wpAny _ _ (binaryOp Operator.Mult (Value.ref _) _) _ _ _ | show wpAny _ _ (subscriptTail _ _ (Value.ref _) (Value.int _ _)) _ _ _ | show wpAny _ _ (getItem (Value.ref _) (Value.int _ _)) _ _ _ | show wpAny _ _ (setItem (Value.ref _) (Value.int _ _) _) _ _ _ | show wpAny _ _ (binaryOp Operator.Add (Value.str _ _) (Value.str _ _)) _ _ _ | show wpAny _ _ (inplaceOp Operator.Add (Value.str _ _) (Value.str _ _)) _ _ _ | show wpAny _ _ (subscriptTail _ (PySem.Expr.Slice _ _ _ _) (Value.ref _) (Value.ref _)) _ _ _ | show wpAny _ _ (call (Value.builtin "sum") _ _) _ _ _ | show wpAny _ _ (binaryOp Operator.Mult (Value.str _ _) _) _ _ _ | show wpAny _ _ (compareOp CmpOp.NotIn (Value.str _ _) (Value.str _ _)) _ _ _ | show wpAny _ _ (call (Value.type "str") _ _) _ _ _ | show wpAny _ _ (call (Value.type "builtins.str") _ _) _ _ _ | show wpAny _ _ (binaryOp Operator.Mod (Value.str _ _) _) _ _ _ | show wpAny _ _ (compareOp CmpOp.NotEq (Value.ref _) (Value.ref _)) _ _ _ | show wpAny _ _ (compareOp CmpOp.NotEq (Value.str _ _) (Value.str _ _)) _ _ _))); (first | (k_unfold; (try dsimp only)) | (k_end; wrow_close) | walk1 | (dsimp only; walk1) | (leave1; walk_say "STEP leave1"; try dsimp only) | fail "no step")))
      refine newList_K (by k_asm) (by k_asm) ?_
      intro l1 h5 F5 N5 hl5
      (repeat' ((fail_if_success ((with_reducible first | show wpAny _ _ (exec (PySem.Stmt.While _ _ _ _) _) _ _ _ | show wpAny _ _ (exec (PySem.Stmt.For _ _ _ _ _) _) _ _ _ | show wpAny _ _ (call (Value.ref _) _ _) _ _ _ | show wpAny _ _ (compareOp CmpOp.Lt (Value.ref _) _) _ _ _ | show wpAny _ _ (compareOp CmpOp.Lt _ (Value.ref _)) _ _ _ | show wpAny _ _ (compareOp CmpOp.Lt (Prod.fst _) _) _ _ _ | show wpAny _ _ (compareOp CmpOp.Lt _ (Prod.fst _)) _ _ _ | show wpAny _ _ (compareOp CmpOp.Eq (Value.ref _) _) _ _ _ | show wpAny _ _ (pyIter _) (fun it s₂ => LoopAtV _ _ _ _ _ _ _ _ _ it s₂) _ _ | show wpAny _ _ (call (Value.builtin "str.split") _ _) _ _ _ | show wpAny _ _ (newList _) _ _ _ | show wpAny _ _ (call (Value.builtin "str.join") _ _) _ _ _ | show wpAny _ _ (call (Value.builtin "list.append") _ _) _ _ _ | show wpAny _ _ (exec (PySem.Stmt.Assign _ (PySem.Expr.ListComp _ _ _ _) _) _) _ _ _ | show wpAny _ _ (eval (PySem.Expr.ListComp _ _ _ _) _) _ _ _ | show wpAny _ _ (binaryOp Operator.Mult (Value.ref _) _) _ _ _ | show wpAny _ _ (subscriptTail _ _ (Value.ref _) (Value.int _ _)) _ _ _ | show wpAny _ _ (getItem (Value.ref _) (Value.int _ _)) _ _ _ | show wpAny _ _ (setItem (Value.ref _) (Value.int _ _) _) _ _ _ | show wpAny _ _ (binaryOp Operator.Add (Value.str _ _) (Value.str _ _)) _ _ _ | show wpAny _ _ (inplaceOp Operator.Add (Value.str _ _) (Value.str _ _)) _ _ _ | show wpAny _ _ (subscriptTail _ (PySem.Expr.Slice _ _ _ _) (Value.ref _) (Value.ref _)) _ _ _ | show wpAny _ _ (call (Value.builtin "sum") _ _) _ _ _ | show wpAny _ _ (binaryOp Operator.Mult (Value.str _ _) _) _ _ _ | show wpAny _ _ (compareOp CmpOp.NotIn (Value.str _ _) (Value.str _ _)) _ _ _ | show wpAny _ _ (call (Value.type "str") _ _) _ _ _ | show wpAny _ _ (call (Value.type "builtins.str") _ _) _ _ _ | show wpAny _ _ (binaryOp Operator.Mod (Value.str _ _) _) _ _ _ | show wpAny _ _ (compareOp CmpOp.NotEq (Value.ref _) (Value.ref _)) _ _ _ | show wpAny _ _ (compareOp CmpOp.NotEq (Value.str _ _) (Value.str _ _)) _ _ _))); (first | (k_unfold; (try dsimp only)) | (k_end; wrow_close) | walk1 | (dsimp only; walk1) | (leave1; walk_say "STEP leave1"; try dsimp only) | fail "no step")))
      refine len_vals (vs := cs0) (by k_asm) (.tail _ (.tail _ hcs0)) (by omega) ?_
      intro t6 k6
      rw [hyl]
      (repeat' ((fail_if_success ((with_reducible first | show wpAny _ _ (exec (PySem.Stmt.While _ _ _ _) _) _ _ _ | show wpAny _ _ (exec (PySem.Stmt.For _ _ _ _ _) _) _ _ _ | show wpAny _ _ (call (Value.ref _) _ _) _ _ _ | show wpAny _ _ (compareOp CmpOp.Lt (Value.ref _) _) _ _ _ | show wpAny _ _ (compareOp CmpOp.Lt _ (Value.ref _)) _ _ _ | show wpAny _ _ (compareOp CmpOp.Lt (Prod.fst _) _) _ _ _ | show wpAny _ _ (compareOp CmpOp.Lt _ (Prod.fst _)) _ _ _ | show wpAny _ _ (compareOp CmpOp.Eq (Value.ref _) _) _ _ _ | show wpAny _ _ (pyIter _) (fun it s₂ => LoopAtV _ _ _ _ _ _ _ _ _ it s₂) _ _ | show wpAny _ _ (call (Value.builtin "str.split") _ _) _ _ _ | show wpAny _ _ (newList _) _ _ _ | show wpAny _ _ (call (Value.builtin "str.join") _ _) _ _ _ | show wpAny _ _ (call (Value.builtin "list.append") _ _) _ _ _ | show wpAny _ _ (exec (PySem.Stmt.Assign _ (PySem.Expr.ListComp _ _ _ _) _) _) _ _ _ | show wpAny _ _ (eval (PySem.Expr.ListComp _ _ _ _) _) _ _ _ | show wpAny _ _ (binaryOp Operator.Mult (Value.ref _) _) _ _ _ | show wpAny _ _ (subscriptTail _ _ (Value.ref _) (Value.int _ _)) _ _ _ | show wpAny _ _ (getItem (Value.ref _) (Value.int _ _)) _ _ _ | show wpAny _ _ (setItem (Value.ref _) (Value.int _ _) _) _ _ _ | show wpAny _ _ (binaryOp Operator.Add (Value.str _ _) (Value.str _ _)) _ _ _ | show wpAny _ _ (inplaceOp Operator.Add (Value.str _ _) (Value.str _ _)) _ _ _ | show wpAny _ _ (subscriptTail _ (PySem.Expr.Slice _ _ _ _) (Value.ref _) (Value.ref _)) _ _ _ | show wpAny _ _ (call (Value.builtin "sum") _ _) _ _ _ | show wpAny _ _ (binaryOp Operator.Mult (Value.str _ _) _) _ _ _ | show wpAny _ _ (compareOp CmpOp.NotIn (Value.str _ _) (Value.str _ _)) _ _ _ | show wpAny _ _ (call (Value.type "str") _ _) _ _ _ | show wpAny _ _ (call (Value.type "builtins.str") _ _) _ _ _ | show wpAny _ _ (binaryOp Operator.Mod (Value.str _ _) _) _ _ _ | show wpAny _ _ (compareOp CmpOp.NotEq (Value.ref _) (Value.ref _)) _ _ _ | show wpAny _ _ (compareOp CmpOp.NotEq (Value.str _ _) (Value.str _ _)) _ _ _))); (first | (k_unfold; (try dsimp only)) | (k_end; wrow_close) | walk1 | (dsimp only; walk1) | (leave1; walk_say "STEP leave1"; try dsimp only) | fail "no step")))
      refine mul_one (n := ll.length) (by k_asm) (by k_asm) (.head _) rfl (by omega) ?_
      intro li h7 hli F7 N7
      rw [strs_rep] at N7
      (repeat' ((fail_if_success ((with_reducible first | show wpAny _ _ (exec (PySem.Stmt.While _ _ _ _) _) _ _ _ | show wpAny _ _ (exec (PySem.Stmt.For _ _ _ _ _) _) _ _ _ | show wpAny _ _ (call (Value.ref _) _ _) _ _ _ | show wpAny _ _ (compareOp CmpOp.Lt (Value.ref _) _) _ _ _ | show wpAny _ _ (compareOp CmpOp.Lt _ (Value.ref _)) _ _ _ | show wpAny _ _ (compareOp CmpOp.Lt (Prod.fst _) _) _ _ _ | show wpAny _ _ (compareOp CmpOp.Lt _ (Prod.fst _)) _ _ _ | show wpAny _ _ (compareOp CmpOp.Eq (Value.ref _) _) _ _ _ | show wpAny _ _ (pyIter _) (fun it s₂ => LoopAtV _ _ _ _ _ _ _ _ _ it s₂) _ _ | show wpAny _ _ (call (Value.builtin "str.split") _ _) _ _ _ | show wpAny _ _ (newList _) _ _ _ | show wpAny _ _ (call (Value.builtin "str.join") _ _) _ _ _ | show wpAny _ _ (call (Value.builtin "list.append") _ _) _ _ _ | show wpAny _ _ (exec (PySem.Stmt.Assign _ (PySem.Expr.ListComp _ _ _ _) _) _) _ _ _ | show wpAny _ _ (eval (PySem.Expr.ListComp _ _ _ _) _) _ _ _ | show wpAny _ _ (binaryOp Operator.Mult (Value.ref _) _) _ _ _ | show wpAny _ _ (subscriptTail _ _ (Value.ref _) (Value.int _ _)) _ _ _ | show wpAny _ _ (getItem (Value.ref _) (Value.int _ _)) _ _ _ | show wpAny _ _ (setItem (Value.ref _) (Value.int _ _) _) _ _ _ | show wpAny _ _ (binaryOp Operator.Add (Value.str _ _) (Value.str _ _)) _ _ _ | show wpAny _ _ (inplaceOp Operator.Add (Value.str _ _) (Value.str _ _)) _ _ _ | show wpAny _ _ (subscriptTail _ (PySem.Expr.Slice _ _ _ _) (Value.ref _) (Value.ref _)) _ _ _ | show wpAny _ _ (call (Value.builtin "sum") _ _) _ _ _ | show wpAny _ _ (binaryOp Operator.Mult (Value.str _ _) _) _ _ _ | show wpAny _ _ (compareOp CmpOp.NotIn (Value.str _ _) (Value.str _ _)) _ _ _ | show wpAny _ _ (call (Value.type "str") _ _) _ _ _ | show wpAny _ _ (call (Value.type "builtins.str") _ _) _ _ _ | show wpAny _ _ (binaryOp Operator.Mod (Value.str _ _) _) _ _ _ | show wpAny _ _ (compareOp CmpOp.NotEq (Value.ref _) (Value.ref _)) _ _ _ | show wpAny _ _ (compareOp CmpOp.NotEq (Value.str _ _) (Value.str _ _)) _ _ _))); (first | (k_unfold; (try dsimp only)) | (k_end; wrow_close) | walk1 | (dsimp only; walk1) | (leave1; walk_say "STEP leave1"; try dsimp only) | fail "no step")))
      ((k_here; (rename Fr _ _ _ _ => lF136); (with_unfolding_all refine' For_invVF lF136 ?k1q136 ?k2q136 ?_; (case k1q136 => exact rfl); (case k2q136 => exact rfl); k_whole)))
      (repeat' ((fail_if_success ((with_reducible first | show wpAny _ _ (exec (PySem.Stmt.While _ _ _ _) _) _ _ _ | show wpAny _ _ (exec (PySem.Stmt.For _ _ _ _ _) _) _ _ _ | show wpAny _ _ (call (Value.ref _) _ _) _ _ _ | show wpAny _ _ (compareOp CmpOp.Lt (Value.ref _) _) _ _ _ | show wpAny _ _ (compareOp CmpOp.Lt _ (Value.ref _)) _ _ _ | show wpAny _ _ (compareOp CmpOp.Lt (Prod.fst _) _) _ _ _ | show wpAny _ _ (compareOp CmpOp.Lt _ (Prod.fst _)) _ _ _ | show wpAny _ _ (compareOp CmpOp.Eq (Value.ref _) _) _ _ _ | show wpAny _ _ (pyIter _) (fun it s₂ => LoopAtV _ _ _ _ _ _ _ _ _ it s₂) _ _ | show wpAny _ _ (call (Value.builtin "str.split") _ _) _ _ _ | show wpAny _ _ (newList _) _ _ _ | show wpAny _ _ (call (Value.builtin "str.join") _ _) _ _ _ | show wpAny _ _ (call (Value.builtin "list.append") _ _) _ _ _ | show wpAny _ _ (exec (PySem.Stmt.Assign _ (PySem.Expr.ListComp _ _ _ _) _) _) _ _ _ | show wpAny _ _ (eval (PySem.Expr.ListComp _ _ _ _) _) _ _ _ | show wpAny _ _ (binaryOp Operator.Mult (Value.ref _) _) _ _ _ | show wpAny _ _ (subscriptTail _ _ (Value.ref _) (Value.int _ _)) _ _ _ | show wpAny _ _ (getItem (Value.ref _) (Value.int _ _)) _ _ _ | show wpAny _ _ (setItem (Value.ref _) (Value.int _ _) _) _ _ _ | show wpAny _ _ (binaryOp Operator.Add (Value.str _ _) (Value.str _ _)) _ _ _ | show wpAny _ _ (inplaceOp Operator.Add (Value.str _ _) (Value.str _ _)) _ _ _ | show wpAny _ _ (subscriptTail _ (PySem.Expr.Slice _ _ _ _) (Value.ref _) (Value.ref _)) _ _ _ | show wpAny _ _ (call (Value.builtin "sum") _ _) _ _ _ | show wpAny _ _ (binaryOp Operator.Mult (Value.str _ _) _) _ _ _ | show wpAny _ _ (compareOp CmpOp.NotIn (Value.str _ _) (Value.str _ _)) _ _ _ | show wpAny _ _ (call (Value.type "str") _ _) _ _ _ | show wpAny _ _ (call (Value.type "builtins.str") _ _) _ _ _ | show wpAny _ _ (binaryOp Operator.Mod (Value.str _ _) _) _ _ _ | show wpAny _ _ (compareOp CmpOp.NotEq (Value.ref _) (Value.ref _)) _ _ _ | show wpAny _ _ (compareOp CmpOp.NotEq (Value.str _ _) (Value.str _ _)) _ _ _))); (first | (k_unfold; (try dsimp only)) | (k_end; wrow_close) | walk1 | (dsimp only; walk1) | (leave1; walk_say "STEP leave1"; try dsimp only) | fail "no step")))
      refine len_vals (vs := cs0) (by k_asm) (.tail _ (.tail _ (.tail _ hcs0))) (by omega) ?_
      intro t8 k8
      rw [hyl]
      (repeat' ((fail_if_success ((with_reducible first | show wpAny _ _ (exec (PySem.Stmt.While _ _ _ _) _) _ _ _ | show wpAny _ _ (exec (PySem.Stmt.For _ _ _ _ _) _) _ _ _ | show wpAny _ _ (call (Value.ref _) _ _) _ _ _ | show wpAny _ _ (compareOp CmpOp.Lt (Value.ref _) _) _ _ _ | show wpAny _ _ (compareOp CmpOp.Lt _ (Value.ref _)) _ _ _ | show wpAny _ _ (compareOp CmpOp.Lt (Prod.fst _) _) _ _ _ | show wpAny _ _ (compareOp CmpOp.Lt _ (Prod.fst _)) _ _ _ | show wpAny _ _ (compareOp CmpOp.Eq (Value.ref _) _) _ _ _ | show wpAny _ _ (pyIter _) (fun it s₂ => LoopAtV _ _ _ _ _ _ _ _ _ it s₂) _ _ | show wpAny _ _ (call (Value.builtin "str.split") _ _) _ _ _ | show wpAny _ _ (newList _) _ _ _ | show wpAny _ _ (call (Value.builtin "str.join") _ _) _ _ _ | show wpAny _ _ (call (Value.builtin "list.append") _ _) _ _ _ | show wpAny _ _ (exec (PySem.Stmt.Assign _ (PySem.Expr.ListComp _ _ _ _) _) _) _ _ _ | show wpAny _ _ (eval (PySem.Expr.ListComp _ _ _ _) _) _ _ _ | show wpAny _ _ (binaryOp Operator.Mult (Value.ref _) _) _ _ _ | show wpAny _ _ (subscriptTail _ _ (Value.ref _) (Value.int _ _)) _ _ _ | show wpAny _ _ (getItem (Value.ref _) (Value.int _ _)) _ _ _ | show wpAny _ _ (setItem (Value.ref _) (Value.int _ _) _) _ _ _ | show wpAny _ _ (binaryOp Operator.Add (Value.str _ _) (Value.str _ _)) _ _ _ | show wpAny _ _ (inplaceOp Operator.Add (Value.str _ _) (Value.str _ _)) _ _ _ | show wpAny _ _ (subscriptTail _ (PySem.Expr.Slice _ _ _ _) (Value.ref _) (Value.ref _)) _ _ _ | show wpAny _ _ (call (Value.builtin "sum") _ _) _ _ _ | show wpAny _ _ (binaryOp Operator.Mult (Value.str _ _) _) _ _ _ | show wpAny _ _ (compareOp CmpOp.NotIn (Value.str _ _) (Value.str _ _)) _ _ _ | show wpAny _ _ (call (Value.type "str") _ _) _ _ _ | show wpAny _ _ (call (Value.type "builtins.str") _ _) _ _ _ | show wpAny _ _ (binaryOp Operator.Mod (Value.str _ _) _) _ _ _ | show wpAny _ _ (compareOp CmpOp.NotEq (Value.ref _) (Value.ref _)) _ _ _ | show wpAny _ _ (compareOp CmpOp.NotEq (Value.str _ _) (Value.str _ _)) _ _ _))); (first | (k_unfold; (try dsimp only)) | (k_end; wrow_close) | walk1 | (dsimp only; walk1) | (leave1; walk_say "STEP leave1"; try dsimp only) | fail "no step")))
      obtain ⟨rest2, hrest2⟩ : ∃ r, r = (lf, listOf vs.toArray nb) :: rest := ⟨_, rfl⟩
      have hcs2 : (lc, listOf cs0.toArray cs0.length) ∈ rest2 := by rw [hrest2]; exact .tail _ hcs0
      have hvs2 : (lf, listOf vs.toArray nb) ∈ rest2 := by rw [hrest2]; exact .head _
      have hsub2 : ∀ p ∈ news, p ∈ rest2 := by rw [hrest2]; exact fun p hp => .tail _ (hsub p hp)
      have hli2 : ∀ p ∈ rest2, p.1 ≠ li := by rw [hrest2]; exact fun p hp => hli p (.tail _ hp)
      refine loop_down (fun (c : List (Str × Tok) × Nat) => (li, listOf (strValues c.1).toArray c.2) :: rest2) (fun c => []) [Str.ofString "place", Str.ofString "child"]
        (fun i c => c.1.length = ll.length ∧ innerGo (runsOf x.cps.toList) (firstsOf 1 (runsOf x.cps.toList)) (runsOf x.cps.toList).length (List.replicate (runsOf x.cps.toList).length []) = innerGo (runsOf x.cps.toList) (firstsOf 1 (runsOf x.cps.toList)) (ll.length - i) (c.1.map (·.1.cps.toList)) ∧ ∀ p ∈ c.1, p.1.length + 2 ≤ 2 ^ (((runsOf x.cps.toList).drop (ll.length - i)).sum + 1)) (List.replicate ll.length (Str.ofString "", _), 0) (n := ll.length) (by rfl) (by assumption) ?_ ?_ (by k_asm) (by
          rename News _ _ _ _ => hNN
          rw [hrest2]
          intro p hp
          rcases List.mem_cons.mp hp with rfl | hp
          · exact hNN _ (.head _)
          · exact hNN _ (.tail _ (.tail _ hp))) (by kst_all) ?_ ?_ ?_
      · exact small_down (by omega) (by omega) (by omega) (by omega)
      · rw [rangeSize_down]; split <;> omega
      · refine ⟨List.length_replicate .., ?_, ?_⟩
        · rw [Nat.sub_zero, List.map_replicate, hrl, empty_is]
        · intro q hq
          rw [List.eq_of_mem_replicate hq, Nat.sub_zero, ← hrl, List.drop_length, empty_is]
          exact Nat.le_refl _
      · rintro ⟨inn, nn⟩ i t9 u9 h9 tk9 own9 I9 hi9 ⟨hil, hgo, hb9⟩ _ hown9 hne9 F9 N9
        dsimp only [kstB] at F9 N9 hne9 hil hgo hb9
        (((try dsimp only); (try k_fold)))
        (repeat' ((fail_if_success ((with_reducible first | show wpAny _ _ (exec (PySem.Stmt.While _ _ _ _) _) _ _ _ | show wpAny _ _ (exec (PySem.Stmt.For _ _ _ _ _) _) _ _ _ | show wpAny _ _ (call (Value.ref _) _ _) _ _ _ | show wpAny _ _ (compareOp CmpOp.Lt (Value.ref _) _) _ _ _ | show wpAny _ _ (compareOp CmpOp.Lt _ (Value.ref _)) _ _ _ | show wpAny _ _ (compareOp CmpOp.Lt (Prod.fst _) _) _ _ _ | show wpAny _ _ (compareOp CmpOp.Lt _ (Prod.fst _)) _ _ _ | show wpAny _ _ (compareOp CmpOp.Eq (Value.ref _) _) _ _ _ | show wpAny _ _ (pyIter _) (fun it s₂ => LoopAtV _ _ _ _ _ _ _ _ _ it s₂) _ _ | show wpAny _ _ (call (Value.builtin "str.split") _ _) _ _ _ | show wpAny _ _ (newList _) _ _ _ | show wpAny _ _ (call (Value.builtin "str.join") _ _) _ _ _ | show wpAny _ _ (call (Value.builtin "list.append") _ _) _ _ _ | show wpAny _ _ (exec (PySem.Stmt.Assign _ (PySem.Expr.ListComp _ _ _ _) _) _) _ _ _ | show wpAny _ _ (eval (PySem.Expr.ListComp _ _ _ _) _) _ _ _ | show wpAny _ _ (binaryOp Operator.Mult (Value.ref _) _) _ _ _ | show wpAny _ _ (subscriptTail _ _ (Value.ref _) (Value.int _ _)) _ _ _ | show wpAny _ _ (getItem (Value.ref _) (Value.int _ _)) _ _ _ | show wpAny _ _ (setItem (Value.ref _) (Value.int _ _) _) _ _ _ | show wpAny _ _ (binaryOp Operator.Add (Value.str _ _) (Value.str _ _)) _ _ _ | show wpAny _ _ (inplaceOp Operator.Add (Value.str _ _) (Value.str _ _)) _ _ _ | show wpAny _ _ (subscriptTail _ (PySem.Expr.Slice _ _ _ _) (Value.ref _) (Value.ref _)) _ _ _ | show wpAny _ _ (call (Value.builtin "sum") _ _) _ _ _ | show wpAny _ _ (binaryOp Operator.Mult (Value.str _ _) _) _ _ _ | show wpAny _ _ (compareOp CmpOp.NotIn (Value.str _ _) (Value.str _ _)) _ _ _ | show wpAny _ _ (call (Value.type "str") _ _) _ _ _ | show wpAny _ _ (call (Value.type "builtins.str") _ _) _ _ _ | show wpAny _ _ (binaryOp Operator.Mod (Value.str _ _) _) _ _ _ | show wpAny _ _ (compareOp CmpOp.NotEq (Value.ref _) (Value.ref _)) _ _ _ | show wpAny _ _ (compareOp CmpOp.NotEq (Value.str _ _) (Value.str _ _)) _ _ _))); (first | (k_unfold; (try dsimp only)) | (k_end; wrow_close) | walk1 | (dsimp only; walk1) | (leave1; walk_say "STEP leave1"; try dsimp only) | fail "no step")))
        have hpl : ∃ p : Nat, p < ll.length ∧ ll.length - i = p + 1 ∧ (ll.length : Int) - 1 - (i : Int) = (p : Int) := ⟨ll.length - i - 1, by omega, by omega, by omega⟩
        obtain ⟨p, hp1, hp2, hp3⟩ := hpl
        rw [hp3] at F9
        obtain ⟨cp, hcp⟩ : ∃ c, (runsOf x.cps.toList)[p]? = some c := ⟨_, List.getElem?_eq_getElem (by omega)⟩
        have hfp := firsts_at 1 (runsOf x.cps.toList) p (by omega)
        have hsp1 := sum_take_succ hcp
        have hsp2 := sum_take_le (runsOf x.cps.toList) (p + 1)
        have hdp : ((runsOf x.cps.toList).drop (p + 1)).sum + ((runsOf x.cps.toList).take (p + 1)).sum = (runsOf x.cps.toList).sum := by rw [Nat.add_comm, ← List.sum_append, List.take_append_drop]
        have hdp0 : ((runsOf x.cps.toList).drop p).sum = cp + ((runsOf x.cps.toList).drop (p + 1)).sum := by
          have h1 : ((runsOf x.cps.toList).take p).sum + ((runsOf x.cps.toList).drop p).sum = (runsOf x.cps.toList).sum := by rw [← List.sum_append, List.take_append_drop]
          omega
        rw [hp2] at hgo hb9
        have hvl : vs.length = ll.length := by rw [hI.length, List.length_map, firsts_length, hrl]
        ((k_here; (rename Fr _ _ _ _ => lF144); (with_unfolding_all refine' For_invVF lF144 ?k1q144 ?k2q144 ?_; (case k1q144 => exact rfl); (case k2q144 => exact rfl); k_whole)))
        (repeat' ((fail_if_success ((with_reducible first | show wpAny _ _ (exec (PySem.Stmt.While _ _ _ _) _) _ _ _ | show wpAny _ _ (exec (PySem.Stmt.For _ _ _ _ _) _) _ _ _ | show wpAny _ _ (call (Value.ref _) _ _) _ _ _ | show wpAny _ _ (compareOp CmpOp.Lt (Value.ref _) _) _ _ _ | show wpAny _ _ (compareOp CmpOp.Lt _ (Value.ref _)) _ _ _ | show wpAny _ _ (compareOp CmpOp.Lt (Prod.fst _) _) _ _ _ | show wpAny _ _ (compareOp CmpOp.Lt _ (Prod.fst _)) _ _ _ | show wpAny _ _ (compareOp CmpOp.Eq (Value.ref _) _) _ _ _ | show wpAny _ _ (pyIter _) (fun it s₂ => LoopAtV _ _ _ _ _ _ _ _ _ it s₂) _ _ | show wpAny _ _ (call (Value.builtin "str.split") _ _) _ _ _ | show wpAny _ _ (newList _) _ _ _ | show wpAny _ _ (call (Value.builtin "str.join") _ _) _ _ _ | show wpAny _ _ (call (Value.builtin "list.append") _ _) _ _ _ | show wpAny _ _ (exec (PySem.Stmt.Assign _ (PySem.Expr.ListComp _ _ _ _) _) _) _ _ _ | show wpAny _ _ (eval (PySem.Expr.ListComp _ _ _ _) _) _ _ _ | show wpAny _ _ (binaryOp Operator.Mult (Value.ref _) _) _ _ _ | show wpAny _ _ (subscriptTail _ _ (Value.ref _) (Value.int _ _)) _ _ _ | show wpAny _ _ (getItem (Value.ref _) (Value.int _ _)) _ _ _ | show wpAny _ _ (setItem (Value.ref _) (Value.int _ _) _) _ _ _ | show wpAny _ _ (binaryOp Operator.Add (Value.str _ _) (Value.str _ _)) _ _ _ | show wpAny _ _ (inplaceOp Operator.Add (Value.str _ _) (Value.str _ _)) _ _ _ | show wpAny _ _ (subscriptTail _ (PySem.Expr.Slice _ _ _ _) (Value.ref _) (Value.ref _)) _ _ _ | show wpAny _ _ (call (Value.builtin "sum") _ _) _ _ _ | show wpAny _ _ (binaryOp Operator.Mult (Value.str _ _) _) _ _ _ | show wpAny _ _ (compareOp CmpOp.NotIn (Value.str _ _) (Value.str _ _)) _ _ _ | show wpAny _ _ (call (Value.type "str") _ _) _ _ _ | show wpAny _ _ (call (Value.type "builtins.str") _ _) _ _ _ | show wpAny _ _ (binaryOp Operator.Mod (Value.str _ _) _) _ _ _ | show wpAny _ _ (compareOp CmpOp.NotEq (Value.ref _) (Value.ref _)) _ _ _ | show wpAny _ _ (compareOp CmpOp.NotEq (Value.str _ _) (Value.str _ _)) _ _ _))); (first | (k_unfold; (try dsimp only)) | (k_end; wrow_close) | walk1 | (dsimp only; walk1) | (leave1; walk_say "STEP leave1"; try dsimp only) | fail "no step")))
        refine item_vals (vs := vs) (by k_asm) (.tail _ (List.mem_append_left _ hvs2)) (by omega) (by omega) (by omega) ?_
        intro v1 hv1
        obtain ⟨f1, t11, hf1, rfl⟩ := ints_at hI hv1
        rw [Int.toNat_natCast, List.getElem?_map, hfp] at hf1
        cases hf1
        (repeat' ((fail_if_success ((with_reducible first | show wpAny _ _ (exec (PySem.Stmt.While _ _ _ _) _) _ _ _ | show wpAny _ _ (exec (PySem.Stmt.For _ _ _ _ _) _) _ _ _ | show wpAny _ _ (call (Value.ref _) _ _) _ _ _ | show wpAny _ _ (compareOp CmpOp.Lt (Value.ref _) _) _ _ _ | show wpAny _ _ (compareOp CmpOp.Lt _ (Value.ref _)) _ _ _ | show wpAny _ _ (compareOp CmpOp.Lt (Prod.fst _) _) _ _ _ | show wpAny _ _ (compareOp CmpOp.Lt _ (Prod.fst _)) _ _ _ | show wpAny _ _ (compareOp CmpOp.Eq (Value.ref _) _) _ _ _ | show wpAny _ _ (pyIter _) (fun it s₂ => LoopAtV _ _ _ _ _ _ _ _ _ it s₂) _ _ | show wpAny _ _ (call (Value.builtin "str.split") _ _) _ _ _ | show wpAny _ _ (newList _) _ _ _ | show wpAny _ _ (call (Value.builtin "str.join") _ _) _ _ _ | show wpAny _ _ (call (Value.builtin "list.append") _ _) _ _ _ | show wpAny _ _ (exec (PySem.Stmt.Assign _ (PySem.Expr.ListComp _ _ _ _) _) _) _ _ _ | show wpAny _ _ (eval (PySem.Expr.ListComp _ _ _ _) _) _ _ _ | show wpAny _ _ (binaryOp Operator.Mult (Value.ref _) _) _ _ _ | show wpAny _ _ (subscriptTail _ _ (Value.ref _) (Value.int _ _)) _ _ _ | show wpAny _ _ (getItem (Value.ref _) (Value.int _ _)) _ _ _ | show wpAny _ _ (setItem (Value.ref _) (Value.int _ _) _) _ _ _ | show wpAny _ _ (binaryOp Operator.Add (Value.str _ _) (Value.str _ _)) _ _ _ | show wpAny _ _ (inplaceOp Operator.Add (Value.str _ _) (Value.str _ _)) _ _ _ | show wpAny _ _ (subscriptTail _ (PySem.Expr.Slice _ _ _ _) (Value.ref _) (Value.ref _)) _ _ _ | show wpAny _ _ (call (Value.builtin "sum") _ _) _ _ _ | show wpAny _ _ (binaryOp Operator.Mult (Value.str _ _) _) _ _ _ | show wpAny _ _ (compareOp CmpOp.NotIn (Value.str _ _) (Value.str _ _)) _ _ _ | show wpAny _ _ (call (Value.type "str") _ _) _ _ _ | show wpAny _ _ (call (Value.type "builtins.str") _ _) _ _ _ | show wpAny _ _ (binaryOp Operator.Mod (Value.str _ _) _) _ _ _ | show wpAny _ _ (compareOp CmpOp.NotEq (Value.ref _) (Value.ref _)) _ _ _ | show wpAny _ _ (compareOp CmpOp.NotEq (Value.str _ _) (Value.str _ _)) _ _ _))); (first | (k_unfold; (try dsimp only)) | (k_end; wrow_close) | walk1 | (dsimp only; walk1) | (leave1; walk_say "STEP leave1"; try dsimp only) | fail "no step")))
        refine item_vals (vs := cs0) (by k_asm) (.tail _ (List.mem_append_left _ hcs2)) (by omega) (by omega) (by omega) ?_
        intro v2 hv2
        obtain ⟨f2, t12, hf2, rfl⟩ := ints_at hci hv2
        rw [Int.toNat_natCast, List.getElem?_map, hcp] at hf2
        cases hf2
        (repeat' ((fail_if_success ((with_reducible first | show wpAny _ _ (exec (PySem.Stmt.While _ _ _ _) _) _ _ _ | show wpAny _ _ (exec (PySem.Stmt.For _ _ _ _ _) _) _ _ _ | show wpAny _ _ (call (Value.ref _) _ _) _ _ _ | show wpAny _ _ (compareOp CmpOp.Lt (Value.ref _) _) _ _ _ | show wpAny _ _ (compareOp CmpOp.Lt _ (Value.ref _)) _ _ _ | show wpAny _ _ (compareOp CmpOp.Lt (Prod.fst _) _) _ _ _ | show wpAny _ _ (compareOp CmpOp.Lt _ (Prod.fst _)) _ _ _ | show wpAny _ _ (compareOp CmpOp.Eq (Value.ref _) _) _ _ _ | show wpAny _ _ (pyIter _) (fun it s₂ => LoopAtV _ _ _ _ _ _ _ _ _ it s₂) _ _ | show wpAny _ _ (call (Value.builtin "str.split") _ _) _ _ _ | show wpAny _ _ (newList _) _ _ _ | show wpAny _ _ (call (Value.builtin "str.join") _ _) _ _ _ | show wpAny _ _ (call (Value.builtin "list.append") _ _) _ _ _ | show wpAny _ _ (exec (PySem.Stmt.Assign _ (PySem.Expr.ListComp _ _ _ _) _) _) _ _ _ | show wpAny _ _ (eval (PySem.Expr.ListComp _ _ _ _) _) _ _ _ | show wpAny _ _ (binaryOp Operator.Mult (Value.ref _) _) _ _ _ | show wpAny _ _ (subscriptTail _ _ (Value.ref _) (Value.int _ _)) _ _ _ | show wpAny _ _ (getItem (Value.ref _) (Value.int _ _)) _ _ _ | show wpAny _ _ (setItem (Value.ref _) (Value.int _ _) _) _ _ _ | show wpAny _ _ (binaryOp Operator.Add (Value.str _ _) (Value.str _ _)) _ _ _ | show wpAny _ _ (inplaceOp Operator.Add (Value.str _ _) (Value.str _ _)) _ _ _ | show wpAny _ _ (subscriptTail _ (PySem.Expr.Slice _ _ _ _) (Value.ref _) (Value.ref _)) _ _ _ | show wpAny _ _ (call (Value.builtin "sum") _ _) _ _ _ | show wpAny _ _ (binaryOp Operator.Mult (Value.str _ _) _) _ _ _ | show wpAny _ _ (compareOp CmpOp.NotIn (Value.str _ _) (Value.str _ _)) _ _ _ | show wpAny _ _ (call (Value.type "str") _ _) _ _ _ | show wpAny _ _ (call (Value.type "builtins.str") _ _) _ _ _ | show wpAny _ _ (binaryOp Operator.Mod (Value.str _ _) _) _ _ _ | show wpAny _ _ (compareOp CmpOp.NotEq (Value.ref _) (Value.ref _)) _ _ _ | show wpAny _ _ (compareOp CmpOp.NotEq (Value.str _ _) (Value.str _ _)) _ _ _))); (first | (k_unfold; (try dsimp only)) | (k_end; wrow_close) | walk1 | (dsimp only; walk1) | (leave1; walk_say "STEP leave1"; try dsimp only) | fail "no step")))
        refine item_vals (vs := vs) (by k_asm) (.tail _ (List.mem_append_left _ hvs2)) (by omega) (by omega) (by omega) ?_
        intro v3 hv3
        obtain ⟨f3, t13, hf3, rfl⟩ := ints_at hI hv3
        rw [Int.toNat_natCast, List.getElem?_map, hfp] at hf3
        cases hf3
        (repeat' ((fail_if_success ((with_reducible first | show wpAny _ _ (exec (PySem.Stmt.While _ _ _ _) _) _ _ _ | show wpAny _ _ (exec (PySem.Stmt.For _ _ _ _ _) _) _ _ _ | show wpAny _ _ (call (Value.ref _) _ _) _ _ _ | show wpAny _ _ (compareOp CmpOp.Lt (Value.ref _) _) _ _ _ | show wpAny _ _ (compareOp CmpOp.Lt _ (Value.ref _)) _ _ _ | show wpAny _ _ (compareOp CmpOp.Lt (Prod.fst _) _) _ _ _ | show wpAny _ _ (compareOp CmpOp.Lt _ (Prod.fst _)) _ _ _ | show wpAny _ _ (compareOp CmpOp.Eq (Value.ref _) _) _ _ _ | show wpAny _ _ (pyIter _) (fun it s₂ => LoopAtV _ _ _ _ _ _ _ _ _ it s₂) _ _ | show wpAny _ _ (call (Value.builtin "str.split") _ _) _ _ _ | show wpAny _ _ (newList _) _ _ _ | show wpAny _ _ (call (Value.builtin "str.join") _ _) _ _ _ | show wpAny _ _ (call (Value.builtin "list.append") _ _) _ _ _ | show wpAny _ _ (exec (PySem.Stmt.Assign _ (PySem.Expr.ListComp _ _ _ _) _) _) _ _ _ | show wpAny _ _ (eval (PySem.Expr.ListComp _ _ _ _) _) _ _ _ | show wpAny _ _ (binaryOp Operator.Mult (Value.ref _) _) _ _ _ | show wpAny _ _ (subscriptTail _ _ (Value.ref _) (Value.int _ _)) _ _ _ | show wpAny _ _ (getItem (Value.ref _) (Value.int _ _)) _ _ _ | show wpAny _ _ (setItem (Value.ref _) (Value.int _ _) _) _ _ _ | show wpAny _ _ (binaryOp Operator.Add (Value.str _ _) (Value.str _ _)) _ _ _ | show wpAny _ _ (inplaceOp Operator.Add (Value.str _ _) (Value.str _ _)) _ _ _ | show wpAny _ _ (subscriptTail _ (PySem.Expr.Slice _ _ _ _) (Value.ref _) (Value.ref _)) _ _ _ | show wpAny _ _ (call (Value.builtin "sum") _ _) _ _ _ | show wpAny _ _ (binaryOp Operator.Mult (Value.str _ _) _) _ _ _ | show wpAny _ _ (compareOp CmpOp.NotIn (Value.str _ _) (Value.str _ _)) _ _ _ | show wpAny _ _ (call (Value.type "str") _ _) _ _ _ | show wpAny _ _ (call (Value.type "builtins.str") _ _) _ _ _ | show wpAny _ _ (binaryOp Operator.Mod (Value.str _ _) _) _ _ _ | show wpAny _ _ (compareOp CmpOp.NotEq (Value.ref _) (Value.ref _)) _ _ _ | show wpAny _ _ (compareOp CmpOp.NotEq (Value.str _ _) (Value.str _ _)) _ _ _))); (first | (k_unfold; (try dsimp only)) | (k_end; wrow_close) | walk1 | (dsimp only; walk1) | (leave1; walk_say "STEP leave1"; try dsimp only) | fail "no step")))
        refine loop_down (fun (c : List (Str × Tok) × Nat) => (li, listOf (strValues c.1).toArray c.2) :: (rest2 ++ own9)) (fun c => []) [Str.ofString "child"]
          (fun j c => c.1.length = ll.length ∧ innerAt p (1 + ((runsOf x.cps.toList).take p).sum) cp (inn.map (·.1.cps.toList)) = innerAt p (1 + ((runsOf x.cps.toList).take p).sum) (cp - j) (c.1.map (·.1.cps.toList)) ∧ ∀ q ∈ c.1, q.1.length + 2 ≤ 2 ^ (((runsOf x.cps.toList).drop (p + 1)).sum + j + 1)) (inn, nn) (n := cp) (by rfl) (by assumption) ?_ ?_ (by k_asm) (by k_asm) (by kst_all) ?_ ?_ ?_
        · exact small_down (by omega) (by omega) (by omega) (by omega)
        · rw [rangeSize_down]; split <;> omega
        · exact ⟨hil, rfl, hb9⟩
        · rintro ⟨jnn, jn⟩ j t20 u20 h20 tk20 own20 I20 hj ⟨hjl, hjgo, hjb⟩ _ hown20 hne20 F20 N20
          dsimp only [kstB] at F20 N20 hne20 hjl hjgo hjb
          (((try dsimp only); (try k_fold)))
          (repeat' ((fail_if_success ((with_reducible first | show wpAny _ _ (exec (PySem.Stmt.While _ _ _ _) _) _ _ _ | show wpAny _ _ (exec (PySem.Stmt.For _ _ _ _ _) _) _ _ _ | show wpAny _ _ (call (Value.ref _) _ _) _ _ _ | show wpAny _ _ (compareOp CmpOp.Lt (Value.ref _) _) _ _ _ | show wpAny _ _ (compareOp CmpOp.Lt _ (Value.ref _)) _ _ _ | show wpAny _ _ (compareOp CmpOp.Lt (Prod.fst _) _) _ _ _ | show wpAny _ _ (compareOp CmpOp.Lt _ (Prod.fst _)) _ _ _ | show wpAny _ _ (compareOp CmpOp.Eq (Value.ref _) _) _ _ _ | show wpAny _ _ (pyIter _) (fun it s₂ => LoopAtV _ _ _ _ _ _ _ _ _ it s₂) _ _ | show wpAny _ _ (call (Value.builtin "str.split") _ _) _ _ _ | show wpAny _ _ (newList _) _ _ _ | show wpAny _ _ (call (Value.builtin "str.join") _ _) _ _ _ | show wpAny _ _ (call (Value.builtin "list.append") _ _) _ _ _ | show wpAny _ _ (exec (PySem.Stmt.Assign _ (PySem.Expr.ListComp _ _ _ _) _) _) _ _ _ | show wpAny _ _ (eval (PySem.Expr.ListComp _ _ _ _) _) _ _ _ | show wpAny _ _ (binaryOp Operator.Mult (Value.ref _) _) _ _ _ | show wpAny _ _ (subscriptTail _ _ (Value.ref _) (Value.int _ _)) _ _ _ | show wpAny _ _ (getItem (Value.ref _) (Value.int _ _)) _ _ _ | show wpAny _ _ (setItem (Value.ref _) (Value.int _ _) _) _ _ _ | show wpAny _ _ (binaryOp Operator.Add (Value.str _ _) (Value.str _ _)) _ _ _ | show wpAny _ _ (inplaceOp Operator.Add (Value.str _ _) (Value.str _ _)) _ _ _ | show wpAny _ _ (subscriptTail _ (PySem.Expr.Slice _ _ _ _) (Value.ref _) (Value.ref _)) _ _ _ | show wpAny _ _ (call (Value.builtin "sum") _ _) _ _ _ | show wpAny _ _ (binaryOp Operator.Mult (Value.str _ _) _) _ _ _ | show wpAny _ _ (compareOp CmpOp.NotIn (Value.str _ _) (Value.str _ _)) _ _ _ | show wpAny _ _ (call (Value.type "str") _ _) _ _ _ | show wpAny _ _ (call (Value.type "builtins.str") _ _) _ _ _ | show wpAny _ _ (binaryOp Operator.Mod (Value.str _ _) _) _ _ _ | show wpAny _ _ (compareOp CmpOp.NotEq (Value.ref _) (Value.ref _)) _ _ _ | show wpAny _ _ (compareOp CmpOp.NotEq (Value.str _ _) (Value.str _ _)) _ _ _))); (first | (k_unfold; (try dsimp only)) | (k_end; wrow_close) | walk1 | (dsimp only; walk1) | (leave1; walk_say "STEP leave1"; try dsimp only) | fail "no step")))
          obtain ⟨c, hc1, hc2⟩ : ∃ c : Nat, ((1 + ((runsOf x.cps.toList).take p).sum : Nat) : Int) + (cp : Int) - 1 - (j : Int) = (c : Int) ∧ c = 1 + ((runsOf x.cps.toList).take p).sum + (cp - (j + 1)) := ⟨1 + ((runsOf x.cps.toList).take p).sum + (cp - (j + 1)), by omega, rfl⟩
          have hB : 2 ^ (((runsOf x.cps.toList).drop (p + 1)).sum + j + 1) ≤ 2 ^ 11 := Nat.pow_le_pow_right (by decide) (by omega)
          refine get_vals (vs := strValues jnn) (by k_asm) (.head _) (by rw [strs_len]; omega) (by omega) (by rw [strs_len]; omega) ?_
          intro v4 hv4
          obtain ⟨q4, hq4, rfl⟩ := strs_at hv4
          rw [Int.toNat_natCast] at hq4
          have hq4l := hjb q4 (List.mem_of_getElem? hq4)
          (repeat' ((fail_if_success ((with_reducible first | show wpAny _ _ (exec (PySem.Stmt.While _ _ _ _) _) _ _ _ | show wpAny _ _ (exec (PySem.Stmt.For _ _ _ _ _) _) _ _ _ | show wpAny _ _ (call (Value.ref _) _ _) _ _ _ | show wpAny _ _ (compareOp CmpOp.Lt (Value.ref _) _) _ _ _ | show wpAny _ _ (compareOp CmpOp.Lt _ (Value.ref _)) _ _ _ | show wpAny _ _ (compareOp CmpOp.Lt (Prod.fst _) _) _ _ _ | show wpAny _ _ (compareOp CmpOp.Lt _ (Prod.fst _)) _ _ _ | show wpAny _ _ (compareOp CmpOp.Eq (Value.ref _) _) _ _ _ | show wpAny _ _ (pyIter _) (fun it s₂ => LoopAtV _ _ _ _ _ _ _ _ _ it s₂) _ _ | show wpAny _ _ (call (Value.builtin "str.split") _ _) _ _ _ | show wpAny _ _ (newList _) _ _ _ | show wpAny _ _ (call (Value.builtin "str.join") _ _) _ _ _ | show wpAny _ _ (call (Value.builtin "list.append") _ _) _ _ _ | show wpAny _ _ (exec (PySem.Stmt.Assign _ (PySem.Expr.ListComp _ _ _ _) _) _) _ _ _ | show wpAny _ _ (eval (PySem.Expr.ListComp _ _ _ _) _) _ _ _ | show wpAny _ _ (binaryOp Operator.Mult (Value.ref _) _) _ _ _ | show wpAny _ _ (subscriptTail _ _ (Value.ref _) (Value.int _ _)) _ _ _ | show wpAny _ _ (getItem (Value.ref _) (Value.int _ _)) _ _ _ | show wpAny _ _ (setItem (Value.ref _) (Value.int _ _) _) _ _ _ | show wpAny _ _ (binaryOp Operator.Add (Value.str _ _) (Value.str _ _)) _ _ _ | show wpAny _ _ (inplaceOp Operator.Add (Value.str _ _) (Value.str _ _)) _ _ _ | show wpAny _ _ (subscriptTail _ (PySem.Expr.Slice _ _ _ _) (Value.ref _) (Value.ref _)) _ _ _ | show wpAny _ _ (call (Value.builtin "sum") _ _) _ _ _ | show wpAny _ _ (binaryOp Operator.Mult (Value.str _ _) _) _ _ _ | show wpAny _ _ (compareOp CmpOp.NotIn (Value.str _ _) (Value.str _ _)) _ _ _ | show wpAny _ _ (call (Value.type "str") _ _) _ _ _ | show wpAny _ _ (call (Value.type "builtins.str") _ _) _ _ _ | show wpAny _ _ (binaryOp Operator.Mod (Value.str _ _) _) _ _ _ | show wpAny _ _ (compareOp CmpOp.NotEq (Value.ref _) (Value.ref _)) _ _ _ | show wpAny _ _ (compareOp CmpOp.NotEq (Value.str _ _) (Value.str _ _)) _ _ _))); (first | (k_unfold; (try dsimp only)) | (k_end; wrow_close) | walk1 | (dsimp only; walk1) | (leave1; walk_say "STEP leave1"; try dsimp only) | fail "no step")))
          rw [hc1]
          refine item_vals (vs := strValues jnn) (by k_asm) (.head _) (by rw [strs_len]; omega) (by omega) (by rw [strs_len]; omega) ?_
          intro v5 hv5
          obtain ⟨q5, hq5, rfl⟩ := strs_at hv5
          rw [Int.toNat_natCast] at hq5
          have hq5l := hjb q5 (List.mem_of_getElem? hq5)
          (repeat' ((fail_if_success ((with_reducible first | show wpAny _ _ (exec (PySem.Stmt.While _ _ _ _) _) _ _ _ | show wpAny _ _ (exec (PySem.Stmt.For _ _ _ _ _) _) _ _ _ | show wpAny _ _ (call (Value.ref _) _ _) _ _ _ | show wpAny _ _ (compareOp CmpOp.Lt (Value.ref _) _) _ _ _ | show wpAny _ _ (compareOp CmpOp.Lt _ (Value.ref _)) _ _ _ | show wpAny _ _ (compareOp CmpOp.Lt (Prod.fst _) _) _ _ _ | show wpAny _ _ (compareOp CmpOp.Lt _ (Prod.fst _)) _ _ _ | show wpAny _ _ (compareOp CmpOp.Eq (Value.ref _) _) _ _ _ | show wpAny _ _ (pyIter _) (fun it s₂ => LoopAtV _ _ _ _ _ _ _ _ _ it s₂) _ _ | show wpAny _ _ (call (Value.builtin "str.split") _ _) _ _ _ | show wpAny _ _ (newList _) _ _ _ | show wpAny _ _ (call (Value.builtin "str.join") _ _) _ _ _ | show wpAny _ _ (call (Value.builtin "list.append") _ _) _ _ _ | show wpAny _ _ (exec (PySem.Stmt.Assign _ (PySem.Expr.ListComp _ _ _ _) _) _) _ _ _ | show wpAny _ _ (eval (PySem.Expr.ListComp _ _ _ _) _) _ _ _ | show wpAny _ _ (binaryOp Operator.Mult (Value.ref _) _) _ _ _ | show wpAny _ _ (subscriptTail _ _ (Value.ref _) (Value.int _ _)) _ _ _ | show wpAny _ _ (getItem (Value.ref _) (Value.int _ _)) _ _ _ | show wpAny _ _ (setItem (Value.ref _) (Value.int _ _) _) _ _ _ | show wpAny _ _ (binaryOp Operator.Add (Value.str _ _) (Value.str _ _)) _ _ _ | show wpAny _ _ (inplaceOp Operator.Add (Value.str _ _) (Value.str _ _)) _ _ _ | show wpAny _ _ (subscriptTail _ (PySem.Expr.Slice _ _ _ _) (Value.ref _) (Value.ref _)) _ _ _ | show wpAny _ _ (call (Value.builtin "sum") _ _) _ _ _ | show wpAny _ _ (binaryOp Operator.Mult (Value.str _ _) _) _ _ _ | show wpAny _ _ (compareOp CmpOp.NotIn (Value.str _ _) (Value.str _ _)) _ _ _ | show wpAny _ _ (call (Value.type "str") _ _) _ _ _ | show wpAny _ _ (call (Value.type "builtins.str") _ _) _ _ _ | show wpAny _ _ (binaryOp Operator.Mod (Value.str _ _) _) _ _ _ | show wpAny _ _ (compareOp CmpOp.NotEq (Value.ref _) (Value.ref _)) _ _ _ | show wpAny _ _ (compareOp CmpOp.NotEq (Value.str _ _) (Value.str _ _)) _ _ _))); (first | (k_unfold; (try dsimp only)) | (k_end; wrow_close) | walk1 | (dsimp only; walk1) | (leave1; walk_say "STEP leave1"; try dsimp only) | fail "no step")))
          have hB2 : (2 : Nat) ^ 11 = 2048 := by decide
          refine add_own (by rw [open_len]; omega) ?_
          intro t21 k21
          (repeat' ((fail_if_success ((with_reducible first | show wpAny _ _ (exec (PySem.Stmt.While _ _ _ _) _) _ _ _ | show wpAny _ _ (exec (PySem.Stmt.For _ _ _ _ _) _) _ _ _ | show wpAny _ _ (call (Value.ref _) _ _) _ _ _ | show wpAny _ _ (compareOp CmpOp.Lt (Value.ref _) _) _ _ _ | show wpAny _ _ (compareOp CmpOp.Lt _ (Value.ref _)) _ _ _ | show wpAny _ _ (compareOp CmpOp.Lt (Prod.fst _) _) _ _ _ | show wpAny _ _ (compareOp CmpOp.Lt _ (Prod.fst _)) _ _ _ | show wpAny _ _ (compareOp CmpOp.Eq (Value.ref _) _) _ _ _ | show wpAny _ _ (pyIter _) (fun it s₂ => LoopAtV _ _ _ _ _ _ _ _ _ it s₂) _ _ | show wpAny _ _ (call (Value.builtin "str.split") _ _) _ _ _ | show wpAny _ _ (newList _) _ _ _ | show wpAny _ _ (call (Value.builtin "str.join") _ _) _ _ _ | show wpAny _ _ (call (Value.builtin "list.append") _ _) _ _ _ | show wpAny _ _ (exec (PySem.Stmt.Assign _ (PySem.Expr.ListComp _ _ _ _) _) _) _ _ _ | show wpAny _ _ (eval (PySem.Expr.ListComp _ _ _ _) _) _ _ _ | show wpAny _ _ (binaryOp Operator.Mult (Value.ref _) _) _ _ _ | show wpAny _ _ (subscriptTail _ _ (Value.ref _) (Value.int _ _)) _ _ _ | show wpAny _ _ (getItem (Value.ref _) (Value.int _ _)) _ _ _ | show wpAny _ _ (setItem (Value.ref _) (Value.int _ _) _) _ _ _ | show wpAny _ _ (binaryOp Operator.Add (Value.str _ _) (Value.str _ _)) _ _ _ | show wpAny _ _ (inplaceOp Operator.Add (Value.str _ _) (Value.str _ _)) _ _ _ | show wpAny _ _ (subscriptTail _ (PySem.Expr.Slice _ _ _ _) (Value.ref _) (Value.ref _)) _ _ _ | show wpAny _ _ (call (Value.builtin "sum") _ _) _ _ _ | show wpAny _ _ (binaryOp Operator.Mult (Value.str _ _) _) _ _ _ | show wpAny _ _ (compareOp CmpOp.NotIn (Value.str _ _) (Value.str _ _)) _ _ _ | show wpAny _ _ (call (Value.type "str") _ _) _ _ _ | show wpAny _ _ (call (Value.type "builtins.str") _ _) _ _ _ | show wpAny _ _ (binaryOp Operator.Mod (Value.str _ _) _) _ _ _ | show wpAny _ _ (compareOp CmpOp.NotEq (Value.ref _) (Value.ref _)) _ _ _ | show wpAny _ _ (compareOp CmpOp.NotEq (Value.str _ _) (Value.str _ _)) _ _ _))); (first | (k_unfold; (try dsimp only)) | (k_end; wrow_close) | walk1 | (dsimp only; walk1) | (leave1; walk_say "STEP leave1"; try dsimp only) | fail "no step")))
          refine add_own (by rw [len_app, open_len, close_len]; omega) ?_
          intro t22 k22
          (repeat' ((fail_if_success ((with_reducible first | show wpAny _ _ (exec (PySem.Stmt.While _ _ _ _) _) _ _ _ | show wpAny _ _ (exec (PySem.Stmt.For _ _ _ _ _) _) _ _ _ | show wpAny _ _ (call (Value.ref _) _ _) _ _ _ | show wpAny _ _ (compareOp CmpOp.Lt (Value.ref _) _) _ _ _ | show wpAny _ _ (compareOp CmpOp.Lt _ (Value.ref _)) _ _ _ | show wpAny _ _ (compareOp CmpOp.Lt (Prod.fst _) _) _ _ _ | show wpAny _ _ (compareOp CmpOp.Lt _ (Prod.fst _)) _ _ _ | show wpAny _ _ (compareOp CmpOp.Eq (Value.ref _) _) _ _ _ | show wpAny _ _ (pyIter _) (fun it s₂ => LoopAtV _ _ _ _ _ _ _ _ _ it s₂) _ _ | show wpAny _ _ (call (Value.builtin "str.split") _ _) _ _ _ | show wpAny _ _ (newList _) _ _ _ | show wpAny _ _ (call (Value.builtin "str.join") _ _) _ _ _ | show wpAny _ _ (call (Value.builtin "list.append") _ _) _ _ _ | show wpAny _ _ (exec (PySem.Stmt.Assign _ (PySem.Expr.ListComp _ _ _ _) _) _) _ _ _ | show wpAny _ _ (eval (PySem.Expr.ListComp _ _ _ _) _) _ _ _ | show wpAny _ _ (binaryOp Operator.Mult (Value.ref _) _) _ _ _ | show wpAny _ _ (subscriptTail _ _ (Value.ref _) (Value.int _ _)) _ _ _ | show wpAny _ _ (getItem (Value.ref _) (Value.int _ _)) _ _ _ | show wpAny _ _ (setItem (Value.ref _) (Value.int _ _) _) _ _ _ | show wpAny _ _ (binaryOp Operator.Add (Value.str _ _) (Value.str _ _)) _ _ _ | show wpAny _ _ (inplaceOp Operator.Add (Value.str _ _) (Value.str _ _)) _ _ _ | show wpAny _ _ (subscriptTail _ (PySem.Expr.Slice _ _ _ _) (Value.ref _) (Value.ref _)) _ _ _ | show wpAny _ _ (call (Value.builtin "sum") _ _) _ _ _ | show wpAny _ _ (binaryOp Operator.Mult (Value.str _ _) _) _ _ _ | show wpAny _ _ (compareOp CmpOp.NotIn (Value.str _ _) (Value.str _ _)) _ _ _ | show wpAny _ _ (call (Value.type "str") _ _) _ _ _ | show wpAny _ _ (call (Value.type "builtins.str") _ _) _ _ _ | show wpAny _ _ (binaryOp Operator.Mod (Value.str _ _) _) _ _ _ | show wpAny _ _ (compareOp CmpOp.NotEq (Value.ref _) (Value.ref _)) _ _ _ | show wpAny _ _ (compareOp CmpOp.NotEq (Value.str _ _) (Value.str _ _)) _ _ _))); (first | (k_unfold; (try dsimp only)) | (k_end; wrow_close) | walk1 | (dsimp only; walk1) | (leave1; walk_say "STEP leave1"; try dsimp only) | fail "no step")))
          refine iadd_own (by rw [len_app, len_app, open_len, close_len]; omega) ?_
          intro t23 k23
          (repeat' ((fail_if_success ((with_reducible first | show wpAny _ _ (exec (PySem.Stmt.While _ _ _ _) _) _ _ _ | show wpAny _ _ (exec (PySem.Stmt.For _ _ _ _ _) _) _ _ _ | show wpAny _ _ (call (Value.ref _) _ _) _ _ _ | show wpAny _ _ (compareOp CmpOp.Lt (Value.ref _) _) _ _ _ | show wpAny _ _ (compareOp CmpOp.Lt _ (Value.ref _)) _ _ _ | show wpAny _ _ (compareOp CmpOp.Lt (Prod.fst _) _) _ _ _ | show wpAny _ _ (compareOp CmpOp.Lt _ (Prod.fst _)) _ _ _ | show wpAny _ _ (compareOp CmpOp.Eq (Value.ref _) _) _ _ _ | show wpAny _ _ (pyIter _) (fun it s₂ => LoopAtV _ _ _ _ _ _ _ _ _ it s₂) _ _ | show wpAny _ _ (call (Value.builtin "str.split") _ _) _ _ _ | show wpAny _ _ (newList _) _ _ _ | show wpAny _ _ (call (Value.builtin "str.join") _ _) _ _ _ | show wpAny _ _ (call (Value.builtin "list.append") _ _) _ _ _ | show wpAny _ _ (exec (PySem.Stmt.Assign _ (PySem.Expr.ListComp _ _ _ _) _) _) _ _ _ | show wpAny _ _ (eval (PySem.Expr.ListComp _ _ _ _) _) _ _ _ | show wpAny _ _ (binaryOp Operator.Mult (Value.ref _) _) _ _ _ | show wpAny _ _ (subscriptTail _ _ (Value.ref _) (Value.int _ _)) _ _ _ | show wpAny _ _ (getItem (Value.ref _) (Value.int _ _)) _ _ _ | show wpAny _ _ (setItem (Value.ref _) (Value.int _ _) _) _ _ _ | show wpAny _ _ (binaryOp Operator.Add (Value.str _ _) (Value.str _ _)) _ _ _ | show wpAny _ _ (inplaceOp Operator.Add (Value.str _ _) (Value.str _ _)) _ _ _ | show wpAny _ _ (subscriptTail _ (PySem.Expr.Slice _ _ _ _) (Value.ref _) (Value.ref _)) _ _ _ | show wpAny _ _ (call (Value.builtin "sum") _ _) _ _ _ | show wpAny _ _ (binaryOp Operator.Mult (Value.str _ _) _) _ _ _ | show wpAny _ _ (compareOp CmpOp.NotIn (Value.str _ _) (Value.str _ _)) _ _ _ | show wpAny _ _ (call (Value.type "str") _ _) _ _ _ | show wpAny _ _ (call (Value.type "builtins.str") _ _) _ _ _ | show wpAny _ _ (binaryOp Operator.Mod (Value.str _ _) _) _ _ _ | show wpAny _ _ (compareOp CmpOp.NotEq (Value.ref _) (Value.ref _)) _ _ _ | show wpAny _ _ (compareOp CmpOp.NotEq (Value.str _ _) (Value.str _ _)) _ _ _))); (first | (k_unfold; (try dsimp only)) | (k_end; wrow_close) | walk1 | (dsimp only; walk1) | (leave1; walk_say "STEP leave1"; try dsimp only) | fail "no step")))
          have hlb20 : ∀ q ∈ rest2 ++ own9 ++ own20, q.1 ≠ li := by
            intro q hq
            rcases List.mem_append.mp hq with hq | hq
            · rcases List.mem_append.mp hq with hq | hq
              · exact hli2 q hq
              · rw [hown9 q hq]; exact fun e => hne9 (li, listOf (strValues inn).toArray nn) (.head _) e.symm
            · rw [hown20 q hq]; exact fun e => hne20 (li, listOf (strValues jnn).toArray jn) (.head _) e.symm
          refine set_vals (vs := strValues jnn) (by k_asm) (by k_asm) (.head hlb20) (by omega) (by rw [strs_len]; omega) (by rw [strs_len]; omega) ?_
          intro h24 F24 N24
          rw [Int.toNat_natCast, strs_set] at N24
          k_steps
          refine ld_end (jnn.set p (q4.1 ++ (Str.ofString "(" ++ q5.1 ++ Str.ofString ")"), _), jn) (by k_asm) (by k_asm) (fun q hq => List.mem_append_left own20 hq) (fun q hq => List.mem_append_right (_ :: (rest2 ++ own9)) hq) ?_ (by kst_all) (by ksw_same) ?_
          · intro q hq
            rcases List.mem_cons.mp hq with rfl | hq
            · exact hne20 (li, listOf (strValues jnn).toArray jn) (.head _)
            · exact hne20 q (.tail _ hq)
          · refine ⟨by rw [List.length_set]; exact hjl, ?_, ?_⟩
            · rw [hjgo, innerAt_step hj]
              congr 1
              rw [← hc2, innerStep_of (a := q4.1.cps.toList) (b := q5.1.cps.toList) (by rw [List.getElem?_map, hq4]; rfl) (by rw [List.getElem?_map, hq5]; rfl), List.map_set]
              congr 1
              simp only [Str.cps_append, Array.toList_append, open_cps, close_cps]
              rfl
            · intro q hq
              rcases List.mem_or_eq_of_mem_set hq with hq | rfl
              · exact Nat.le_trans (hjb q hq) (Nat.pow_le_pow_right (by decide) (by omega))
              · have e : (2 : Nat) ^ (((runsOf x.cps.toList).drop (p + 1)).sum + (j + 1) + 1) = 2 * 2 ^ (((runsOf x.cps.toList).drop (p + 1)).sum + j + 1) := by
                  rw [show ((runsOf x.cps.toList).drop (p + 1)).sum + (j + 1) + 1 = (((runsOf x.cps.toList).drop (p + 1)).sum + j + 1) + 1 from by omega, Nat.pow_succ, Nat.mul_comm]
                show (q4.1 ++ (Str.ofString "(" ++ q5.1 ++ Str.ofString ")")).length + 2 ≤ _
                rw [len_app, len_app, len_app, open_len, close_len, e]
                omega
        · rintro ⟨jnn, jn⟩ u20 h20 tk20 ⟨hjl, hjgo, hjb⟩ F20 N20
          dsimp only [kstB] at F20 N20 hjl hjgo hjb
          rw [Nat.sub_self] at hjgo
          (((try dsimp only); (try k_fold)))
          k_steps
          refine ld_end (jnn, jn) (by k_asm) (by k_asm) (fun q hq => by rcases List.mem_cons.mp hq with rfl | hq; exact .head _; exact .tail _ (List.mem_append_left _ hq)) (fun q hq => .tail _ (List.mem_append_right _ hq)) ?_ (by kst_all) (by ksw_same) ?_
          · intro q hq
            rcases List.mem_cons.mp hq with rfl | hq
            · exact hne9 (li, listOf (strValues inn).toArray nn) (.head _)
            · exact hne9 q (.tail _ hq)
          · refine ⟨hjl, ?_, ?_⟩
            · rw [hgo, innerGo, show ll.length - (i + 1) = p from by omega]
              congr 1
              have e1 : (firstsOf 1 (runsOf x.cps.toList)).getD p 0 = 1 + ((runsOf x.cps.toList).take p).sum := by rw [List.getD_eq_getElem?_getD, hfp]; rfl
              have e2 : (runsOf x.cps.toList).getD p 0 = cp := by rw [List.getD_eq_getElem?_getD, hcp]; rfl
              rw [e1, e2, hjgo]; rfl
            · intro q hq
              have h1 := hjb q hq
              rw [show ll.length - (i + 1) = p from by omega, hdp0, Nat.add_comm cp]
              exact h1
      · rintro ⟨inn, nn⟩ u9 h9 tk9 ⟨hil, hgo, hb9⟩ F9 N9
        dsimp only [kstB] at F9 N9 hil hgo hb9
        (((try dsimp only); (try k_fold)))
        (repeat' ((fail_if_success ((with_reducible first | show wpAny _ _ (exec (PySem.Stmt.While _ _ _ _) _) _ _ _ | show wpAny _ _ (exec (PySem.Stmt.For _ _ _ _ _) _) _ _ _ | show wpAny _ _ (call (Value.ref _) _ _) _ _ _ | show wpAny _ _ (compareOp CmpOp.Lt (Value.ref _) _) _ _ _ | show wpAny _ _ (compareOp CmpOp.Lt _ (Value.ref _)) _ _ _ | show wpAny _ _ (compareOp CmpOp.Lt (Prod.fst _) _) _ _ _ | show wpAny _ _ (compareOp CmpOp.Lt _ (Prod.fst _)) _ _ _ | show wpAny _ _ (compareOp CmpOp.Eq (Value.ref _) _) _ _ _ | show wpAny _ _ (pyIter _) (fun it s₂ => LoopAtV _ _ _ _ _ _ _ _ _ it s₂) _ _ | show wpAny _ _ (call (Value.builtin "str.split") _ _) _ _ _ | show wpAny _ _ (newList _) _ _ _ | show wpAny _ _ (call (Value.builtin "str.join") _ _) _ _ _ | show wpAny _ _ (call (Value.builtin "list.append") _ _) _ _ _ | show wpAny _ _ (exec (PySem.Stmt.Assign _ (PySem.Expr.ListComp _ _ _ _) _) _) _ _ _ | show wpAny _ _ (eval (PySem.Expr.ListComp _ _ _ _) _) _ _ _ | show wpAny _ _ (binaryOp Operator.Mult (Value.ref _) _) _ _ _ | show wpAny _ _ (subscriptTail _ _ (Value.ref _) (Value.int _ _)) _ _ _ | show wpAny _ _ (getItem (Value.ref _) (Value.int _ _)) _ _ _ | show wpAny _ _ (setItem (Value.ref _) (Value.int _ _) _) _ _ _ | show wpAny _ _ (binaryOp Operator.Add (Value.str _ _) (Value.str _ _)) _ _ _ | show wpAny _ _ (inplaceOp Operator.Add (Value.str _ _) (Value.str _ _)) _ _ _ | show wpAny _ _ (subscriptTail _ (PySem.Expr.Slice _ _ _ _) (Value.ref _) (Value.ref _)) _ _ _ | show wpAny _ _ (call (Value.builtin "sum") _ _) _ _ _ | show wpAny _ _ (binaryOp Operator.Mult (Value.str _ _) _) _ _ _ | show wpAny _ _ (compareOp CmpOp.NotIn (Value.str _ _) (Value.str _ _)) _ _ _ | show wpAny _ _ (call (Value.type "str") _ _) _ _ _ | show wpAny _ _ (call (Value.type "builtins.str") _ _) _ _ _ | show wpAny _ _ (binaryOp Operator.Mod (Value.str _ _) _) _ _ _ | show wpAny _ _ (compareOp CmpOp.NotEq (Value.ref _) (Value.ref _)) _ _ _ | show wpAny _ _ (compareOp CmpOp.NotEq (Value.str _ _) (Value.str _ _)) _ _ _))); (first | (k_unfold; (try dsimp only)) | (k_end; wrow_close) | walk1 | (dsimp only; walk1) | (leave1; walk_say "STEP leave1"; try dsimp only) | fail "no step")))
        refine item_vals (vs := strValues inn) (by k_asm) (.head _) (by rw [strs_len]; omega) (by omega) (by rw [strs_len]; omega) ?_
        intro v5 hv5
        obtain ⟨q5, hq5, rfl⟩ := strs_at hv5
        k_steps
        rw [Nat.sub_self] at hgo
        refine hret q5.1 q5.2 _ _ ?_ (by assumption) ?_
        · unfold toldOf
          rw [hgo, innerGo, List.getD_eq_getElem?_getD, List.getElem?_map, show (0 : Nat) = ((0 : Int)).toNat from rfl, hq5]
          rfl
        · rename News _ _ _ _ => hNN
          exact fun q hq => hNN q (.tail _ (hsub2 q hq))

end
end Mine
namespace Mine
--PLAIN
noncomputable def depF (p : Int × Int) (c : Int) : Int × Int := if c = 40 then (p.1 + 1, p.2 + p.1) else (p.1 - 1, p.2)

theorem sign_eq (n c : Nat) : ((⟨#[n]⟩ : Str) == ⟨#[c]⟩) = decide (n = c) := by
  by_cases h : n = c
  · subst h; simp
  · have : ¬ ((⟨#[n]⟩ : Str) = ⟨#[c]⟩) := by intro e; injection e with e; simp at e; exact h e
    simp [this, h]
theorem open_eq (n : Nat) : ((⟨#[n]⟩ : Str) == Str.ofString "(") = decide (n = 40) := by
  rw [show Str.ofString "(" = (⟨#[40]⟩ : Str) from by decide +kernel]; exact sign_eq n 40
theorem dep0 : ((0 : Int), (0 : Int)) = ([] : List Int).foldl depF (0,0) := rfl
theorem dep1 {d t : Int} {pre : List Int} {n : Nat} (h : (d, t) = pre.foldl depF (0,0)) (e : ((⟨#[n]⟩ : Str) == Str.ofString "(") = true) : (d + 1, t + d) = (pre ++ [(n : Int)]).foldl depF (0,0) := by
  rw [open_eq] at e
  have e := of_decide_eq_true e
  rw [List.foldl_append, ← h, e]; rfl
theorem dep2 {d t : Int} {pre : List Int} {n : Nat} (h : (d, t) = pre.foldl depF (0,0)) (e : ((⟨#[n]⟩ : Str) == Str.ofString "(") = false) : (d - 1, t) = (pre ++ [(n : Int)]).foldl depF (0,0) := by
  rw [open_eq] at e
  have e := of_decide_eq_false e
  rw [List.foldl_append, ← h]
  show _ = depF (d, t) (n : Int)
  unfold depF
  rw [if_neg (by omega)]


theorem dep_fold : ∀ (l : List Nat) (d t : Int), ((l.map fun (c : Nat) => (c : Int)).foldl depF (d, t)).2 = depthsIn d t l
  | [], _, _ => rfl
  | c :: l, d, t => by
    rw [List.map_cons, List.foldl_cons]
    unfold depthsIn
    by_cases h : c = 40
    · rw [if_pos h, show depF (d, t) (c : Int) = (d + 1, t + d) from by unfold depF; rw [if_pos (by omega)]]
      exact dep_fold l _ _
    · rw [if_neg h, show depF (d, t) (c : Int) = (d - 1, t) from by unfold depF; rw [if_neg (by omega)]]
      exact dep_fold l _ _

end Mine
namespace Mine
section
variable {w : World} {dp un : Nat} {gd : Option (List Code)} {cn : Str} {cs : Scope} {a : Addr} {ccd : Value} {cl : List (Str × Addr)} {outer : List Env} {A₀ : Around} {base h₀ : Heap} {L : Addr} {m : Str → Option Value} {news : List (Addr × Obj)} {s : Shared} {loose : List Str} {mean : ExcName → Option Value} {mg mb : Str → Option Value} {Q E : Value → Shared → Prop}

set_option maxRecDepth 100000 in
set_option maxHeartbeats 8000000 in
theorem depths_call {x : Str} {t : Tok} 
    (C : Cx w 1 dp un cs A₀ base outer h₀ L m news loose mean mg mb s.heap) (h1 : x.length ≤ 100)
    (hret : ∀ t h' tk', Fr h₀ L h' m → News h₀ L h' news → Q (.int (depthsIn 0 0 x.cps.toList) t) {s with heap := h', toks := tk'}) :
    wpAny (model PySem.Challenge.rw_wu0073_01.row.prog w) (ktrTop dp un gd cn cs L a ccd cl outer) (call (.ref 194) [.str x t]) Q E s := by
  obtain ⟨B, F, X, N, T, hk, hdp, hu⟩ := C
  revert X; k_fill; intro X
  ((refine wpAny_call ?_; k_dflt (refine' code_def ?k1q170 ?k2q170 ?k3q170 ?k4q170 ?k5q170 ?kAq170 ?kFq170 ?kKq170 ?k6q170 ?k7q170 ?k8q170 ?k9q170 ?kBq170 ?_ ?c2q170 ?c3q170 ?c4q170 ?c5q170; (case kAq170 => exact rfl); (case kFq170 => exact rfl); (case kKq170 => first | exact rfl | assumption); (case k1q170 => k_asm); (case k2q170 => k_asm); (case k3q170 => k_asm); (case k4q170 => k_asm); (case k5q170 => k_asm); (case k6q170 => k_is); (case k7q170 => k_is); (case k8q170 => ktr_room); (case k9q170 => first | exact BindsTo.of_eq rfl | exact binds_K (by k_in) rfl (by k_is) rfl rfl rfl | (refine' kp_binds ?kxq170 ?keq170; (case kxq170 => k_in); (case keq170 => exact fun _ => rfl))); (case c5q170 => decide); (case kBq170 => exact locs rfl); (case c2q170 => exact rfl); (case c3q170 => exact rfl); (case c4q170 => exact rfl); k_whole; intro _ _ _ _ _ _ _ _ _; (try dsimp only); (try k_fold))))
  k_with "state" => first | exact dep0 | exact dep1 (by assumption) (by assumption) | exact dep2 (by assumption) (by assumption)
  k_with "pyIter str" => k_state (fun pre d t => (d, t) = pre.foldl depF (0,0)) "depth" "total"
  k_steps
  rename (_, _) = List.foldl depF (0, 0) (KStt.codes x) => kI
  have e := congrArg Prod.snd kI
  dsimp only at e
  rw [e, show KStt.codes x = x.cps.toList.map fun (c : Nat) => (c : Int) from rfl, dep_fold]
  exact hret _ _ _ (by assumption) (by assumption)

end
end Mine
namespace Mine
section
variable {w : World} {dp un : Nat} {gd : Option (List Code)} {cn : Str} {cs : Scope} {a : Addr} {ccd : Value} {cl : List (Str × Addr)} {outer : List Env} {A₀ : Around} {base h₀ : Heap} {L : Addr} {m : Str → Option Value} {news : List (Addr × Obj)} {s : Shared} {loose : List Str} {mean : ExcName → Option Value} {mg mb : Str → Option Value} {Q E : Value → Shared → Prop}

set_option maxRecDepth 100000 in
set_option maxHeartbeats 8000000 in
theorem page_call {l : Addr} {vs : List Value} {ns : List Int}
    (C : Cx w 1 dp un cs A₀ base outer h₀ L m news loose mean mg mb s.heap) (hl : h₀.IsList l vs.toArray) (hI : IntsAre vs ns) (hn : ns.length ≤ 63)
    (hret : ∀ x i t h' tk', x.cps.toList ∈ pagesOf i → (i = 4 ∨ i = 5 ∨ i = 6) → Fr h₀ L h' m → News h₀ L h' news → Q (.str x t) {s with heap := h', toks := tk'}) :
    wpAny (model PySem.Challenge.rw_wu0073_01.row.prog w) (ktrTop dp un gd cn cs L a ccd cl outer) (call (.ref 168) [.ref l]) Q E s := by
  obtain ⟨B, F, X, N, T, hk, hdp, hu⟩ := C
  revert X; k_fill; intro X
  ((refine wpAny_call ?_; k_dflt (refine' code_def ?k1q171 ?k2q171 ?k3q171 ?k4q171 ?k5q171 ?kAq171 ?kFq171 ?kKq171 ?k6q171 ?k7q171 ?k8q171 ?k9q171 ?kBq171 ?_ ?c2q171 ?c3q171 ?c4q171 ?c5q171; (case kAq171 => exact rfl); (case kFq171 => exact rfl); (case kKq171 => first | exact rfl | assumption); (case k1q171 => k_asm); (case k2q171 => k_asm); (case k3q171 => k_asm); (case k4q171 => k_asm); (case k5q171 => k_asm); (case k6q171 => k_is); (case k7q171 => k_is); (case k8q171 => ktr_room); (case k9q171 => first | exact BindsTo.of_eq rfl | exact binds_K (by k_in) rfl (by k_is) rfl rfl rfl | (refine' kp_binds ?kxq171 ?keq171; (case kxq171 => k_in); (case keq171 => exact fun _ => rfl))); (case c5q171 => decide); (case kBq171 => exact locs rfl); (case c2q171 => exact rfl); (case c3q171 => exact rfl); (case c4q171 => exact rfl); k_whole; intro _ _ _ _ _ _ _ _ _; (try dsimp only); (try k_fold))))
  rename Fr h₀ L _ m => FG
  have hlg := hl.at fun o e => FG.keep l o e
  (repeat' ((fail_if_success ((with_reducible first | show wpAny _ _ (exec (PySem.Stmt.While _ _ _ _) _) _ _ _ | show wpAny _ _ (exec (PySem.Stmt.For _ _ _ _ _) _) _ _ _ | show wpAny _ _ (call (Value.ref _) _ _) _ _ _ | show wpAny _ _ (compareOp CmpOp.Lt (Value.ref _) _) _ _ _ | show wpAny _ _ (compareOp CmpOp.Lt _ (Value.ref _)) _ _ _ | show wpAny _ _ (compareOp CmpOp.Lt (Prod.fst _) _) _ _ _ | show wpAny _ _ (compareOp CmpOp.Lt _ (Prod.fst _)) _ _ _ | show wpAny _ _ (compareOp CmpOp.Eq (Value.ref _) _) _ _ _ | show wpAny _ _ (pyIter _) (fun it s₂ => LoopAtV _ _ _ _ _ _ _ _ _ it s₂) _ _ | show wpAny _ _ (call (Value.builtin "str.split") _ _) _ _ _ | show wpAny _ _ (newList _) _ _ _ | show wpAny _ _ (call (Value.builtin "str.join") _ _) _ _ _ | show wpAny _ _ (call (Value.builtin "list.append") _ _) _ _ _ | show wpAny _ _ (exec (PySem.Stmt.Assign _ (PySem.Expr.ListComp _ _ _ _) _) _) _ _ _ | show wpAny _ _ (eval (PySem.Expr.ListComp _ _ _ _) _) _ _ _ | show wpAny _ _ (binaryOp Operator.Mult (Value.ref _) _) _ _ _ | show wpAny _ _ (subscriptTail _ _ (Value.ref _) (Value.int _ _)) _ _ _ | show wpAny _ _ (getItem (Value.ref _) (Value.int _ _)) _ _ _ | show wpAny _ _ (setItem (Value.ref _) (Value.int _ _) _) _ _ _ | show wpAny _ _ (binaryOp Operator.Add (Value.str _ _) (Value.str _ _)) _ _ _ | show wpAny _ _ (inplaceOp Operator.Add (Value.str _ _) (Value.str _ _)) _ _ _ | show wpAny _ _ (subscriptTail _ (PySem.Expr.Slice _ _ _ _) (Value.ref _) (Value.ref _)) _ _ _ | show wpAny _ _ (call (Value.builtin "sum") _ _) _ _ _ | show wpAny _ _ (binaryOp Operator.Mult (Value.str _ _) _) _ _ _ | show wpAny _ _ (compareOp CmpOp.NotIn (Value.str _ _) (Value.str _ _)) _ _ _ | show wpAny _ _ (call (Value.type "str") _ _) _ _ _ | show wpAny _ _ (call (Value.type "builtins.str") _ _) _ _ _ | show wpAny _ _ (binaryOp Operator.Mod (Value.str _ _) _) _ _ _ | show wpAny _ _ (compareOp CmpOp.NotEq (Value.ref _) (Value.ref _)) _ _ _ | show wpAny _ _ (compareOp CmpOp.NotEq (Value.str _ _) (Value.str _ _)) _ _ _))); (first | (k_unfold; (try dsimp only)) | (k_end; wrow_close) | walk1 | (dsimp only; walk1) | (leave1; walk_say "STEP leave1"; try dsimp only) | fail "no step")))
  obtain ⟨n, hn1, hn2⟩ : ∃ n : Nat, (n = 4 ∨ n = 5 ∨ n = 6) ∧ 5 + Int.fmod (ns.length : Int) 3 - 1 = (n : Int) := by
    have := Int.fmod_eq_emod_of_nonneg (ns.length : Int) (show (0 : Int) ≤ 3 by decide)
    exact ⟨(4 + (ns.length : Int) % 3).toNat, by omega, by omega⟩
  ((k_here; (rename Fr _ _ _ _ => lF174); (with_unfolding_all refine' For_invVF lF174 ?k1q174 ?k2q174 ?_; (case k1q174 => exact rfl); (case k2q174 => exact rfl); k_whole)))
  (repeat' ((fail_if_success ((with_reducible first | show wpAny _ _ (exec (PySem.Stmt.While _ _ _ _) _) _ _ _ | show wpAny _ _ (exec (PySem.Stmt.For _ _ _ _ _) _) _ _ _ | show wpAny _ _ (call (Value.ref _) _ _) _ _ _ | show wpAny _ _ (compareOp CmpOp.Lt (Value.ref _) _) _ _ _ | show wpAny _ _ (compareOp CmpOp.Lt _ (Value.ref _)) _ _ _ | show wpAny _ _ (compareOp CmpOp.Lt (Prod.fst _) _) _ _ _ | show wpAny _ _ (compareOp CmpOp.Lt _ (Prod.fst _)) _ _ _ | show wpAny _ _ (compareOp CmpOp.Eq (Value.ref _) _) _ _ _ | show wpAny _ _ (pyIter _) (fun it s₂ => LoopAtV _ _ _ _ _ _ _ _ _ it s₂) _ _ | show wpAny _ _ (call (Value.builtin "str.split") _ _) _ _ _ | show wpAny _ _ (newList _) _ _ _ | show wpAny _ _ (call (Value.builtin "str.join") _ _) _ _ _ | show wpAny _ _ (call (Value.builtin "list.append") _ _) _ _ _ | show wpAny _ _ (exec (PySem.Stmt.Assign _ (PySem.Expr.ListComp _ _ _ _) _) _) _ _ _ | show wpAny _ _ (eval (PySem.Expr.ListComp _ _ _ _) _) _ _ _ | show wpAny _ _ (binaryOp Operator.Mult (Value.ref _) _) _ _ _ | show wpAny _ _ (subscriptTail _ _ (Value.ref _) (Value.int _ _)) _ _ _ | show wpAny _ _ (getItem (Value.ref _) (Value.int _ _)) _ _ _ | show wpAny _ _ (setItem (Value.ref _) (Value.int _ _) _) _ _ _ | show wpAny _ _ (binaryOp Operator.Add (Value.str _ _) (Value.str _ _)) _ _ _ | show wpAny _ _ (inplaceOp Operator.Add (Value.str _ _) (Value.str _ _)) _ _ _ | show wpAny _ _ (subscriptTail _ (PySem.Expr.Slice _ _ _ _) (Value.ref _) (Value.ref _)) _ _ _ | show wpAny _ _ (call (Value.builtin "sum") _ _) _ _ _ | show wpAny _ _ (binaryOp Operator.Mult (Value.str _ _) _) _ _ _ | show wpAny _ _ (compareOp CmpOp.NotIn (Value.str _ _) (Value.str _ _)) _ _ _ | show wpAny _ _ (call (Value.type "str") _ _) _ _ _ | show wpAny _ _ (call (Value.type "builtins.str") _ _) _ _ _ | show wpAny _ _ (binaryOp Operator.Mod (Value.str _ _) _) _ _ _ | show wpAny _ _ (compareOp CmpOp.NotEq (Value.ref _) (Value.ref _)) _ _ _ | show wpAny _ _ (compareOp CmpOp.NotEq (Value.str _ _) (Value.str _ _)) _ _ _))); (first | (k_unfold; (try dsimp only)) | (k_end; wrow_close) | walk1 | (dsimp only; walk1) | (leave1; walk_say "STEP leave1"; try dsimp only) | fail "no step")))
  refine loop_range (fun (c : Str × Tok × Int × Tok) => news) (fun c => [(Str.ofString "page", .str c.1 c.2.1), (Str.ofString "depth", .int c.2.2.1 c.2.2.2)]) [Str.ofString "place", Str.ofString "number", Str.ofString "deep"]
    (fun i c => ∃ d : Nat, c.2.2.1 = (d : Int) ∧ (c.1.cps.toList, d) ∈ reach i) (Str.ofString "(", _, 0, _) (n := n) (by rfl) (by assumption) ?_ ?_ (by k_asm) (by k_asm) (by kst_all) ?_ ?_ ?_
  · exact small_one (by omega) (by omega) (by omega) (by omega)
  · rw [rangeSize_one]; split <;> omega
  · exact ⟨0, rfl, by rw [open_cps]; exact .head _⟩
  · rintro ⟨pg0, pt, dI, dt⟩ i t9 u9 h9 tk9 own9 I9 hi9 ⟨d, hd, hR⟩ _ hown9 hne9 F9 N9
    dsimp only [kstB] at F9 N9 hne9 hd hR
    subst hd
    obtain ⟨hb1, hb2⟩ := reach_bound _ _ hR
    dsimp only at hb1 hb2
    have hpl : pg0.length = pg0.cps.toList.length := by rw [Array.length_toList]; rfl
    (((try dsimp only); (try k_fold)))
    (repeat' ((fail_if_success ((with_reducible first | show wpAny _ _ (exec (PySem.Stmt.While _ _ _ _) _) _ _ _ | show wpAny _ _ (exec (PySem.Stmt.For _ _ _ _ _) _) _ _ _ | show wpAny _ _ (call (Value.ref _) _ _) _ _ _ | show wpAny _ _ (compareOp CmpOp.Lt (Value.ref _) _) _ _ _ | show wpAny _ _ (compareOp CmpOp.Lt _ (Value.ref _)) _ _ _ | show wpAny _ _ (compareOp CmpOp.Lt (Prod.fst _) _) _ _ _ | show wpAny _ _ (compareOp CmpOp.Lt _ (Prod.fst _)) _ _ _ | show wpAny _ _ (compareOp CmpOp.Eq (Value.ref _) _) _ _ _ | show wpAny _ _ (pyIter _) (fun it s₂ => LoopAtV _ _ _ _ _ _ _ _ _ it s₂) _ _ | show wpAny _ _ (call (Value.builtin "str.split") _ _) _ _ _ | show wpAny _ _ (newList _) _ _ _ | show wpAny _ _ (call (Value.builtin "str.join") _ _) _ _ _ | show wpAny _ _ (call (Value.builtin "list.append") _ _) _ _ _ | show wpAny _ _ (exec (PySem.Stmt.Assign _ (PySem.Expr.ListComp _ _ _ _) _) _) _ _ _ | show wpAny _ _ (eval (PySem.Expr.ListComp _ _ _ _) _) _ _ _ | show wpAny _ _ (binaryOp Operator.Mult (Value.ref _) _) _ _ _ | show wpAny _ _ (subscriptTail _ _ (Value.ref _) (Value.int _ _)) _ _ _ | show wpAny _ _ (getItem (Value.ref _) (Value.int _ _)) _ _ _ | show wpAny _ _ (setItem (Value.ref _) (Value.int _ _) _) _ _ _ | show wpAny _ _ (binaryOp Operator.Add (Value.str _ _) (Value.str _ _)) _ _ _ | show wpAny _ _ (inplaceOp Operator.Add (Value.str _ _) (Value.str _ _)) _ _ _ | show wpAny _ _ (subscriptTail _ (PySem.Expr.Slice _ _ _ _) (Value.ref _) (Value.ref _)) _ _ _ | show wpAny _ _ (call (Value.builtin "sum") _ _) _ _ _ | show wpAny _ _ (binaryOp Operator.Mult (Value.str _ _) _) _ _ _ | show wpAny _ _ (compareOp CmpOp.NotIn (Value.str _ _) (Value.str _ _)) _ _ _ | show wpAny _ _ (call (Value.type "str") _ _) _ _ _ | show wpAny _ _ (call (Value.type "builtins.str") _ _) _ _ _ | show wpAny _ _ (binaryOp Operator.Mod (Value.str _ _) _) _ _ _ | show wpAny _ _ (compareOp CmpOp.NotEq (Value.ref _) (Value.ref _)) _ _ _ | show wpAny _ _ (compareOp CmpOp.NotEq (Value.str _ _) (Value.str _ _)) _ _ _))); (first | (k_unfold; (try dsimp only)) | (k_end; wrow_close) | walk1 | (dsimp only; walk1) | (leave1; walk_say "STEP leave1"; try dsimp only) | fail "no step")))
    walk1
    generalize ([1, 1, 2, 4, 1, 2] : List Int).getD (0 + (i : Int)).toNat 0 = z1
    (repeat' ((fail_if_success ((with_reducible first | show wpAny _ _ (exec (PySem.Stmt.While _ _ _ _) _) _ _ _ | show wpAny _ _ (exec (PySem.Stmt.For _ _ _ _ _) _) _ _ _ | show wpAny _ _ (call (Value.ref _) _ _) _ _ _ | show wpAny _ _ (compareOp CmpOp.Lt (Value.ref _) _) _ _ _ | show wpAny _ _ (compareOp CmpOp.Lt _ (Value.ref _)) _ _ _ | show wpAny _ _ (compareOp CmpOp.Lt (Prod.fst _) _) _ _ _ | show wpAny _ _ (compareOp CmpOp.Lt _ (Prod.fst _)) _ _ _ | show wpAny _ _ (compareOp CmpOp.Eq (Value.ref _) _) _ _ _ | show wpAny _ _ (pyIter _) (fun it s₂ => LoopAtV _ _ _ _ _ _ _ _ _ it s₂) _ _ | show wpAny _ _ (call (Value.builtin "str.split") _ _) _ _ _ | show wpAny _ _ (newList _) _ _ _ | show wpAny _ _ (call (Value.builtin "str.join") _ _) _ _ _ | show wpAny _ _ (call (Value.builtin "list.append") _ _) _ _ _ | show wpAny _ _ (exec (PySem.Stmt.Assign _ (PySem.Expr.ListComp _ _ _ _) _) _) _ _ _ | show wpAny _ _ (eval (PySem.Expr.ListComp _ _ _ _) _) _ _ _ | show wpAny _ _ (binaryOp Operator.Mult (Value.ref _) _) _ _ _ | show wpAny _ _ (subscriptTail _ _ (Value.ref _) (Value.int _ _)) _ _ _ | show wpAny _ _ (getItem (Value.ref _) (Value.int _ _)) _ _ _ | show wpAny _ _ (setItem (Value.ref _) (Value.int _ _) _) _ _ _ | show wpAny _ _ (binaryOp Operator.Add (Value.str _ _) (Value.str _ _)) _ _ _ | show wpAny _ _ (inplaceOp Operator.Add (Value.str _ _) (Value.str _ _)) _ _ _ | show wpAny _ _ (subscriptTail _ (PySem.Expr.Slice _ _ _ _) (Value.ref _) (Value.ref _)) _ _ _ | show wpAny _ _ (call (Value.builtin "sum") _ _) _ _ _ | show wpAny _ _ (binaryOp Operator.Mult (Value.str _ _) _) _ _ _ | show wpAny _ _ (compareOp CmpOp.NotIn (Value.str _ _) (Value.str _ _)) _ _ _ | show wpAny _ _ (call (Value.type "str") _ _) _ _ _ | show wpAny _ _ (call (Value.type "builtins.str") _ _) _ _ _ | show wpAny _ _ (binaryOp Operator.Mod (Value.str _ _) _) _ _ _ | show wpAny _ _ (compareOp CmpOp.NotEq (Value.ref _) (Value.ref _)) _ _ _ | show wpAny _ _ (compareOp CmpOp.NotEq (Value.str _ _) (Value.str _ _)) _ _ _))); (first | (k_unfold; (try dsimp only)) | (k_end; wrow_close) | walk1 | (dsimp only; walk1) | (leave1; walk_say "STEP leave1"; try dsimp only) | fail "no step")))
    refine slice3_ints (vs := vs) (ns := ns) (by k_asm) (by k_asm) (hlg.at fun o e => by rename Fr _ _ _ _ => hFF; exact hFF.keep l o e) hI (by omega) (by omega) ?_
    intro D1 zs ms h10 hms F10 N10 l10
    (repeat' ((fail_if_success ((with_reducible first | show wpAny _ _ (exec (PySem.Stmt.While _ _ _ _) _) _ _ _ | show wpAny _ _ (exec (PySem.Stmt.For _ _ _ _ _) _) _ _ _ | show wpAny _ _ (call (Value.ref _) _ _) _ _ _ | show wpAny _ _ (compareOp CmpOp.Lt (Value.ref _) _) _ _ _ | show wpAny _ _ (compareOp CmpOp.Lt _ (Value.ref _)) _ _ _ | show wpAny _ _ (compareOp CmpOp.Lt (Prod.fst _) _) _ _ _ | show wpAny _ _ (compareOp CmpOp.Lt _ (Prod.fst _)) _ _ _ | show wpAny _ _ (compareOp CmpOp.Eq (Value.ref _) _) _ _ _ | show wpAny _ _ (pyIter _) (fun it s₂ => LoopAtV _ _ _ _ _ _ _ _ _ it s₂) _ _ | show wpAny _ _ (call (Value.builtin "str.split") _ _) _ _ _ | show wpAny _ _ (newList _) _ _ _ | show wpAny _ _ (call (Value.builtin "str.join") _ _) _ _ _ | show wpAny _ _ (call (Value.builtin "list.append") _ _) _ _ _ | show wpAny _ _ (exec (PySem.Stmt.Assign _ (PySem.Expr.ListComp _ _ _ _) _) _) _ _ _ | show wpAny _ _ (eval (PySem.Expr.ListComp _ _ _ _) _) _ _ _ | show wpAny _ _ (binaryOp Operator.Mult (Value.ref _) _) _ _ _ | show wpAny _ _ (subscriptTail _ _ (Value.ref _) (Value.int _ _)) _ _ _ | show wpAny _ _ (getItem (Value.ref _) (Value.int _ _)) _ _ _ | show wpAny _ _ (setItem (Value.ref _) (Value.int _ _) _) _ _ _ | show wpAny _ _ (binaryOp Operator.Add (Value.str _ _) (Value.str _ _)) _ _ _ | show wpAny _ _ (inplaceOp Operator.Add (Value.str _ _) (Value.str _ _)) _ _ _ | show wpAny _ _ (subscriptTail _ (PySem.Expr.Slice _ _ _ _) (Value.ref _) (Value.ref _)) _ _ _ | show wpAny _ _ (call (Value.builtin "sum") _ _) _ _ _ | show wpAny _ _ (binaryOp Operator.Mult (Value.str _ _) _) _ _ _ | show wpAny _ _ (compareOp CmpOp.NotIn (Value.str _ _) (Value.str _ _)) _ _ _ | show wpAny _ _ (call (Value.type "str") _ _) _ _ _ | show wpAny _ _ (call (Value.type "builtins.str") _ _) _ _ _ | show wpAny _ _ (binaryOp Operator.Mod (Value.str _ _) _) _ _ _ | show wpAny _ _ (compareOp CmpOp.NotEq (Value.ref _) (Value.ref _)) _ _ _ | show wpAny _ _ (compareOp CmpOp.NotEq (Value.str _ _) (Value.str _ _)) _ _ _))); (first | (k_unfold; (try dsimp only)) | (k_end; wrow_close) | walk1 | (dsimp only; walk1) | (leave1; walk_say "STEP leave1"; try dsimp only) | fail "no step")))
    refine sumK (vs := zs) (ns := ms) (by rfl) (by k_asm) (by k_asm) (News.isList (by k_asm) (.head _)) hms ?_
    intro h11 k11 t11 F11 N11
    generalize ms.sum = z2
    (repeat' ((fail_if_success ((with_reducible first | show wpAny _ _ (exec (PySem.Stmt.While _ _ _ _) _) _ _ _ | show wpAny _ _ (exec (PySem.Stmt.For _ _ _ _ _) _) _ _ _ | show wpAny _ _ (call (Value.ref _) _ _) _ _ _ | show wpAny _ _ (compareOp CmpOp.Lt (Value.ref _) _) _ _ _ | show wpAny _ _ (compareOp CmpOp.Lt _ (Value.ref _)) _ _ _ | show wpAny _ _ (compareOp CmpOp.Lt (Prod.fst _) _) _ _ _ | show wpAny _ _ (compareOp CmpOp.Lt _ (Prod.fst _)) _ _ _ | show wpAny _ _ (compareOp CmpOp.Eq (Value.ref _) _) _ _ _ | show wpAny _ _ (pyIter _) (fun it s₂ => LoopAtV _ _ _ _ _ _ _ _ _ it s₂) _ _ | show wpAny _ _ (call (Value.builtin "str.split") _ _) _ _ _ | show wpAny _ _ (newList _) _ _ _ | show wpAny _ _ (call (Value.builtin "str.join") _ _) _ _ _ | show wpAny _ _ (call (Value.builtin "list.append") _ _) _ _ _ | show wpAny _ _ (exec (PySem.Stmt.Assign _ (PySem.Expr.ListComp _ _ _ _) _) _) _ _ _ | show wpAny _ _ (eval (PySem.Expr.ListComp _ _ _ _) _) _ _ _ | show wpAny _ _ (binaryOp Operator.Mult (Value.ref _) _) _ _ _ | show wpAny _ _ (subscriptTail _ _ (Value.ref _) (Value.int _ _)) _ _ _ | show wpAny _ _ (getItem (Value.ref _) (Value.int _ _)) _ _ _ | show wpAny _ _ (setItem (Value.ref _) (Value.int _ _) _) _ _ _ | show wpAny _ _ (binaryOp Operator.Add (Value.str _ _) (Value.str _ _)) _ _ _ | show wpAny _ _ (inplaceOp Operator.Add (Value.str _ _) (Value.str _ _)) _ _ _ | show wpAny _ _ (subscriptTail _ (PySem.Expr.Slice _ _ _ _) (Value.ref _) (Value.ref _)) _ _ _ | show wpAny _ _ (call (Value.builtin "sum") _ _) _ _ _ | show wpAny _ _ (binaryOp Operator.Mult (Value.str _ _) _) _ _ _ | show wpAny _ _ (compareOp CmpOp.NotIn (Value.str _ _) (Value.str _ _)) _ _ _ | show wpAny _ _ (call (Value.type "str") _ _) _ _ _ | show wpAny _ _ (call (Value.type "builtins.str") _ _) _ _ _ | show wpAny _ _ (binaryOp Operator.Mod (Value.str _ _) _) _ _ _ | show wpAny _ _ (compareOp CmpOp.NotEq (Value.ref _) (Value.ref _)) _ _ _ | show wpAny _ _ (compareOp CmpOp.NotEq (Value.str _ _) (Value.str _ _)) _ _ _))); (first | (k_unfold; (try dsimp only)) | (k_end; wrow_close) | walk1 | (dsimp only; walk1) | (leave1; walk_say "STEP leave1"; try dsimp only) | fail "no step")))
    generalize z1 + z2 = z3 at *
    have hm0 := Int.fmod_nonneg_of_pos z3 (show (0 : Int) < (d : Int) + 2 by omega)
    have hm1 := Int.fmod_lt_of_pos z3 (show (0 : Int) < (d : Int) + 2 by omega)
    generalize Int.fmod z3 ((d : Int) + 2) = eI at *
    obtain ⟨e, rfl⟩ : ∃ e : Nat, eI = (e : Int) := ⟨eI.toNat, by omega⟩
    refine mul_close (k := d + 1 - e) (by omega) (by omega) ?_
    intro y12 t12 k12 hy12
    have hyl : y12.length = d + 1 - e := by
      have h1 := congrArg List.length hy12
      rw [Array.length_toList, List.length_replicate] at h1
      exact h1
    (repeat' ((fail_if_success ((with_reducible first | show wpAny _ _ (exec (PySem.Stmt.While _ _ _ _) _) _ _ _ | show wpAny _ _ (exec (PySem.Stmt.For _ _ _ _ _) _) _ _ _ | show wpAny _ _ (call (Value.ref _) _ _) _ _ _ | show wpAny _ _ (compareOp CmpOp.Lt (Value.ref _) _) _ _ _ | show wpAny _ _ (compareOp CmpOp.Lt _ (Value.ref _)) _ _ _ | show wpAny _ _ (compareOp CmpOp.Lt (Prod.fst _) _) _ _ _ | show wpAny _ _ (compareOp CmpOp.Lt _ (Prod.fst _)) _ _ _ | show wpAny _ _ (compareOp CmpOp.Eq (Value.ref _) _) _ _ _ | show wpAny _ _ (pyIter _) (fun it s₂ => LoopAtV _ _ _ _ _ _ _ _ _ it s₂) _ _ | show wpAny _ _ (call (Value.builtin "str.split") _ _) _ _ _ | show wpAny _ _ (newList _) _ _ _ | show wpAny _ _ (call (Value.builtin "str.join") _ _) _ _ _ | show wpAny _ _ (call (Value.builtin "list.append") _ _) _ _ _ | show wpAny _ _ (exec (PySem.Stmt.Assign _ (PySem.Expr.ListComp _ _ _ _) _) _) _ _ _ | show wpAny _ _ (eval (PySem.Expr.ListComp _ _ _ _) _) _ _ _ | show wpAny _ _ (binaryOp Operator.Mult (Value.ref _) _) _ _ _ | show wpAny _ _ (subscriptTail _ _ (Value.ref _) (Value.int _ _)) _ _ _ | show wpAny _ _ (getItem (Value.ref _) (Value.int _ _)) _ _ _ | show wpAny _ _ (setItem (Value.ref _) (Value.int _ _) _) _ _ _ | show wpAny _ _ (binaryOp Operator.Add (Value.str _ _) (Value.str _ _)) _ _ _ | show wpAny _ _ (inplaceOp Operator.Add (Value.str _ _) (Value.str _ _)) _ _ _ | show wpAny _ _ (subscriptTail _ (PySem.Expr.Slice _ _ _ _) (Value.ref _) (Value.ref _)) _ _ _ | show wpAny _ _ (call (Value.builtin "sum") _ _) _ _ _ | show wpAny _ _ (binaryOp Operator.Mult (Value.str _ _) _) _ _ _ | show wpAny _ _ (compareOp CmpOp.NotIn (Value.str _ _) (Value.str _ _)) _ _ _ | show wpAny _ _ (call (Value.type "str") _ _) _ _ _ | show wpAny _ _ (call (Value.type "builtins.str") _ _) _ _ _ | show wpAny _ _ (binaryOp Operator.Mod (Value.str _ _) _) _ _ _ | show wpAny _ _ (compareOp CmpOp.NotEq (Value.ref _) (Value.ref _)) _ _ _ | show wpAny _ _ (compareOp CmpOp.NotEq (Value.str _ _) (Value.str _ _)) _ _ _))); (first | (k_unfold; (try dsimp only)) | (k_end; wrow_close) | walk1 | (dsimp only; walk1) | (leave1; walk_say "STEP leave1"; try dsimp only) | fail "no step")))
    refine add_own (by rw [open_len]; omega) ?_
    intro t13 k13
    (repeat' ((fail_if_success ((with_reducible first | show wpAny _ _ (exec (PySem.Stmt.While _ _ _ _) _) _ _ _ | show wpAny _ _ (exec (PySem.Stmt.For _ _ _ _ _) _) _ _ _ | show wpAny _ _ (call (Value.ref _) _ _) _ _ _ | show wpAny _ _ (compareOp CmpOp.Lt (Value.ref _) _) _ _ _ | show wpAny _ _ (compareOp CmpOp.Lt _ (Value.ref _)) _ _ _ | show wpAny _ _ (compareOp CmpOp.Lt (Prod.fst _) _) _ _ _ | show wpAny _ _ (compareOp CmpOp.Lt _ (Prod.fst _)) _ _ _ | show wpAny _ _ (compareOp CmpOp.Eq (Value.ref _) _) _ _ _ | show wpAny _ _ (pyIter _) (fun it s₂ => LoopAtV _ _ _ _ _ _ _ _ _ it s₂) _ _ | show wpAny _ _ (call (Value.builtin "str.split") _ _) _ _ _ | show wpAny _ _ (newList _) _ _ _ | show wpAny _ _ (call (Value.builtin "str.join") _ _) _ _ _ | show wpAny _ _ (call (Value.builtin "list.append") _ _) _ _ _ | show wpAny _ _ (exec (PySem.Stmt.Assign _ (PySem.Expr.ListComp _ _ _ _) _) _) _ _ _ | show wpAny _ _ (eval (PySem.Expr.ListComp _ _ _ _) _) _ _ _ | show wpAny _ _ (binaryOp Operator.Mult (Value.ref _) _) _ _ _ | show wpAny _ _ (subscriptTail _ _ (Value.ref _) (Value.int _ _)) _ _ _ | show wpAny _ _ (getItem (Value.ref _) (Value.int _ _)) _ _ _ | show wpAny _ _ (setItem (Value.ref _) (Value.int _ _) _) _ _ _ | show wpAny _ _ (binaryOp Operator.Add (Value.str _ _) (Value.str _ _)) _ _ _ | show wpAny _ _ (inplaceOp Operator.Add (Value.str _ _) (Value.str _ _)) _ _ _ | show wpAny _ _ (subscriptTail _ (PySem.Expr.Slice _ _ _ _) (Value.ref _) (Value.ref _)) _ _ _ | show wpAny _ _ (call (Value.builtin "sum") _ _) _ _ _ | show wpAny _ _ (binaryOp Operator.Mult (Value.str _ _) _) _ _ _ | show wpAny _ _ (compareOp CmpOp.NotIn (Value.str _ _) (Value.str _ _)) _ _ _ | show wpAny _ _ (call (Value.type "str") _ _) _ _ _ | show wpAny _ _ (call (Value.type "builtins.str") _ _) _ _ _ | show wpAny _ _ (binaryOp Operator.Mod (Value.str _ _) _) _ _ _ | show wpAny _ _ (compareOp CmpOp.NotEq (Value.ref _) (Value.ref _)) _ _ _ | show wpAny _ _ (compareOp CmpOp.NotEq (Value.str _ _) (Value.str _ _)) _ _ _))); (first | (k_unfold; (try dsimp only)) | (k_end; wrow_close) | walk1 | (dsimp only; walk1) | (leave1; walk_say "STEP leave1"; try dsimp only) | fail "no step")))
    refine iadd_own (by rw [len_app, open_len]; omega) ?_
    intro t14 k14
    k_steps
    refine ld_end (pg0 ++ (y12 ++ Str.ofString "("), _, (e : Int), _) (by k_asm) (by k_asm) (fun q hq => by first | exact hq | exact List.mem_append_left own9 hq | exact .tail _ (List.mem_append_left own9 hq) | exact .tail _ (.tail _ (List.mem_append_left own9 hq))) (fun q hq => by first | exact List.mem_append_right news hq | exact .tail _ (List.mem_append_right news hq) | exact .tail _ (.tail _ (List.mem_append_right news hq))) hne9 (by kst_all) (by ksw_same) ?_
    refine ⟨e, rfl, ?_⟩
    have h1 := reach_step hR (e := e) (by omega)
    simp only [Str.cps_append, Array.toList_append, open_cps, hy12]
    rw [← List.append_assoc]
    exact h1
  · rintro ⟨pg0, pt, dI, dt⟩ u9 h9 tk9 ⟨d, hd, hR⟩ F9 N9
    dsimp only [kstB] at F9 N9 hd hR
    subst hd
    obtain ⟨hb1, hb2⟩ := reach_bound _ _ hR
    dsimp only at hb1 hb2
    have hpl : pg0.length = pg0.cps.toList.length := by rw [Array.length_toList]; rfl
    (((try dsimp only); (try k_fold)))
    (repeat' ((fail_if_success ((with_reducible first | show wpAny _ _ (exec (PySem.Stmt.While _ _ _ _) _) _ _ _ | show wpAny _ _ (exec (PySem.Stmt.For _ _ _ _ _) _) _ _ _ | show wpAny _ _ (call (Value.ref _) _ _) _ _ _ | show wpAny _ _ (compareOp CmpOp.Lt (Value.ref _) _) _ _ _ | show wpAny _ _ (compareOp CmpOp.Lt _ (Value.ref _)) _ _ _ | show wpAny _ _ (compareOp CmpOp.Lt (Prod.fst _) _) _ _ _ | show wpAny _ _ (compareOp CmpOp.Lt _ (Prod.fst _)) _ _ _ | show wpAny _ _ (compareOp CmpOp.Eq (Value.ref _) _) _ _ _ | show wpAny _ _ (pyIter _) (fun it s₂ => LoopAtV _ _ _ _ _ _ _ _ _ it s₂) _ _ | show wpAny _ _ (call (Value.builtin "str.split") _ _) _ _ _ | show wpAny _ _ (newList _) _ _ _ | show wpAny _ _ (call (Value.builtin "str.join") _ _) _ _ _ | show wpAny _ _ (call (Value.builtin "list.append") _ _) _ _ _ | show wpAny _ _ (exec (PySem.Stmt.Assign _ (PySem.Expr.ListComp _ _ _ _) _) _) _ _ _ | show wpAny _ _ (eval (PySem.Expr.ListComp _ _ _ _) _) _ _ _ | show wpAny _ _ (binaryOp Operator.Mult (Value.ref _) _) _ _ _ | show wpAny _ _ (subscriptTail _ _ (Value.ref _) (Value.int _ _)) _ _ _ | show wpAny _ _ (getItem (Value.ref _) (Value.int _ _)) _ _ _ | show wpAny _ _ (setItem (Value.ref _) (Value.int _ _) _) _ _ _ | show wpAny _ _ (binaryOp Operator.Add (Value.str _ _) (Value.str _ _)) _ _ _ | show wpAny _ _ (inplaceOp Operator.Add (Value.str _ _) (Value.str _ _)) _ _ _ | show wpAny _ _ (subscriptTail _ (PySem.Expr.Slice _ _ _ _) (Value.ref _) (Value.ref _)) _ _ _ | show wpAny _ _ (call (Value.builtin "sum") _ _) _ _ _ | show wpAny _ _ (binaryOp Operator.Mult (Value.str _ _) _) _ _ _ | show wpAny _ _ (compareOp CmpOp.NotIn (Value.str _ _) (Value.str _ _)) _ _ _ | show wpAny _ _ (call (Value.type "str") _ _) _ _ _ | show wpAny _ _ (call (Value.type "builtins.str") _ _) _ _ _ | show wpAny _ _ (binaryOp Operator.Mod (Value.str _ _) _) _ _ _ | show wpAny _ _ (compareOp CmpOp.NotEq (Value.ref _) (Value.ref _)) _ _ _ | show wpAny _ _ (compareOp CmpOp.NotEq (Value.str _ _) (Value.str _ _)) _ _ _))); (first | (k_unfold; (try dsimp only)) | (k_end; wrow_close) | walk1 | (dsimp only; walk1) | (leave1; walk_say "STEP leave1"; try dsimp only) | fail "no step")))
    refine mul_close (k := d + 1) (by omega) (by omega) ?_
    intro y12 t12 k12 hy12
    have hyl : y12.length = d + 1 := by
      have h1 := congrArg List.length hy12
      rw [Array.length_toList, List.length_replicate] at h1
      exact h1
    (repeat' ((fail_if_success ((with_reducible first | show wpAny _ _ (exec (PySem.Stmt.While _ _ _ _) _) _ _ _ | show wpAny _ _ (exec (PySem.Stmt.For _ _ _ _ _) _) _ _ _ | show wpAny _ _ (call (Value.ref _) _ _) _ _ _ | show wpAny _ _ (compareOp CmpOp.Lt (Value.ref _) _) _ _ _ | show wpAny _ _ (compareOp CmpOp.Lt _ (Value.ref _)) _ _ _ | show wpAny _ _ (compareOp CmpOp.Lt (Prod.fst _) _) _ _ _ | show wpAny _ _ (compareOp CmpOp.Lt _ (Prod.fst _)) _ _ _ | show wpAny _ _ (compareOp CmpOp.Eq (Value.ref _) _) _ _ _ | show wpAny _ _ (pyIter _) (fun it s₂ => LoopAtV _ _ _ _ _ _ _ _ _ it s₂) _ _ | show wpAny _ _ (call (Value.builtin "str.split") _ _) _ _ _ | show wpAny _ _ (newList _) _ _ _ | show wpAny _ _ (call (Value.builtin "str.join") _ _) _ _ _ | show wpAny _ _ (call (Value.builtin "list.append") _ _) _ _ _ | show wpAny _ _ (exec (PySem.Stmt.Assign _ (PySem.Expr.ListComp _ _ _ _) _) _) _ _ _ | show wpAny _ _ (eval (PySem.Expr.ListComp _ _ _ _) _) _ _ _ | show wpAny _ _ (binaryOp Operator.Mult (Value.ref _) _) _ _ _ | show wpAny _ _ (subscriptTail _ _ (Value.ref _) (Value.int _ _)) _ _ _ | show wpAny _ _ (getItem (Value.ref _) (Value.int _ _)) _ _ _ | show wpAny _ _ (setItem (Value.ref _) (Value.int _ _) _) _ _ _ | show wpAny _ _ (binaryOp Operator.Add (Value.str _ _) (Value.str _ _)) _ _ _ | show wpAny _ _ (inplaceOp Operator.Add (Value.str _ _) (Value.str _ _)) _ _ _ | show wpAny _ _ (subscriptTail _ (PySem.Expr.Slice _ _ _ _) (Value.ref _) (Value.ref _)) _ _ _ | show wpAny _ _ (call (Value.builtin "sum") _ _) _ _ _ | show wpAny _ _ (binaryOp Operator.Mult (Value.str _ _) _) _ _ _ | show wpAny _ _ (compareOp CmpOp.NotIn (Value.str _ _) (Value.str _ _)) _ _ _ | show wpAny _ _ (call (Value.type "str") _ _) _ _ _ | show wpAny _ _ (call (Value.type "builtins.str") _ _) _ _ _ | show wpAny _ _ (binaryOp Operator.Mod (Value.str _ _) _) _ _ _ | show wpAny _ _ (compareOp CmpOp.NotEq (Value.ref _) (Value.ref _)) _ _ _ | show wpAny _ _ (compareOp CmpOp.NotEq (Value.str _ _) (Value.str _ _)) _ _ _))); (first | (k_unfold; (try dsimp only)) | (k_end; wrow_close) | walk1 | (dsimp only; walk1) | (leave1; walk_say "STEP leave1"; try dsimp only) | fail "no step")))
    refine add_own (by omega) ?_
    intro t13 k13
    k_steps
    refine hret (pg0 ++ y12) n _ _ _ ?_ hn1 (by assumption) (by assumption)
    simp only [Str.cps_append, Array.toList_append, hy12]
    exact pages_of hR

end
end Mine
namespace Mine
section
variable {w : World} {dp un : Nat} {gd : Option (List Code)} {cn : Str} {cs : Scope} {a : Addr} {ccd : Value} {cl : List (Str × Addr)} {outer : List Env} {A₀ : Around} {base h₀ : Heap} {L : Addr} {m : Str → Option Value} {news : List (Addr × Obj)} {s : Shared} {loose : List Str} {mean : ExcName → Option Value} {mg mb : Str → Option Value} {Q E : Value → Shared → Prop}

set_option maxRecDepth 100000 in
set_option maxHeartbeats 8000000 in
theorem strip_call {x : Str} {t : Tok}
    (C : Cx w 1 dp un cs A₀ base outer h₀ L m news loose mean mg mb s.heap) (hx : 34 ∉ x.cps.toList)
    (hret : ∀ t h' tk', Fr h₀ L h' m → News h₀ L h' news → Q (.str x t) {s with heap := h', toks := tk'}) :
    wpAny (model PySem.Challenge.rw_wu0073_01.row.prog w) (ktrTop dp un gd cn cs L a ccd cl outer) (call (.ref 55) [.str x t]) Q E s := by
  obtain ⟨B, F, X, N, T, hk, hdp, hu⟩ := C
  revert X; k_fill; intro X
  ((refine wpAny_call ?_; k_dflt (refine' code_def ?k1q195 ?k2q195 ?k3q195 ?k4q195 ?k5q195 ?kAq195 ?kFq195 ?kKq195 ?k6q195 ?k7q195 ?k8q195 ?k9q195 ?kBq195 ?_ ?c2q195 ?c3q195 ?c4q195 ?c5q195; (case kAq195 => exact rfl); (case kFq195 => exact rfl); (case kKq195 => first | exact rfl | assumption); (case k1q195 => k_asm); (case k2q195 => k_asm); (case k3q195 => k_asm); (case k4q195 => k_asm); (case k5q195 => k_asm); (case k6q195 => k_is); (case k7q195 => k_is); (case k8q195 => ktr_room); (case k9q195 => first | exact BindsTo.of_eq rfl | exact binds_K (by k_in) rfl (by k_is) rfl rfl rfl | (refine' kp_binds ?kxq195 ?keq195; (case kxq195 => k_in); (case keq195 => exact fun _ => rfl))); (case c5q195 => decide); (case kBq195 => exact locs rfl); (case c2q195 => exact rfl); (case c3q195 => exact rfl); (case c4q195 => exact rfl); k_whole; intro _ _ _ _ _ _ _ _ _; (try dsimp only); (try k_fold))))
  (repeat' ((fail_if_success ((with_reducible first | show wpAny _ _ (exec (PySem.Stmt.While _ _ _ _) _) _ _ _ | show wpAny _ _ (exec (PySem.Stmt.For _ _ _ _ _) _) _ _ _ | show wpAny _ _ (call (Value.ref _) _ _) _ _ _ | show wpAny _ _ (compareOp CmpOp.Lt (Value.ref _) _) _ _ _ | show wpAny _ _ (compareOp CmpOp.Lt _ (Value.ref _)) _ _ _ | show wpAny _ _ (compareOp CmpOp.Lt (Prod.fst _) _) _ _ _ | show wpAny _ _ (compareOp CmpOp.Lt _ (Prod.fst _)) _ _ _ | show wpAny _ _ (compareOp CmpOp.Eq (Value.ref _) _) _ _ _ | show wpAny _ _ (pyIter _) (fun it s₂ => LoopAtV _ _ _ _ _ _ _ _ _ it s₂) _ _ | show wpAny _ _ (call (Value.builtin "str.split") _ _) _ _ _ | show wpAny _ _ (newList _) _ _ _ | show wpAny _ _ (call (Value.builtin "str.join") _ _) _ _ _ | show wpAny _ _ (call (Value.builtin "list.append") _ _) _ _ _ | show wpAny _ _ (exec (PySem.Stmt.Assign _ (PySem.Expr.ListComp _ _ _ _) _) _) _ _ _ | show wpAny _ _ (eval (PySem.Expr.ListComp _ _ _ _) _) _ _ _ | show wpAny _ _ (binaryOp Operator.Mult (Value.ref _) _) _ _ _ | show wpAny _ _ (subscriptTail _ _ (Value.ref _) (Value.int _ _)) _ _ _ | show wpAny _ _ (getItem (Value.ref _) (Value.int _ _)) _ _ _ | show wpAny _ _ (setItem (Value.ref _) (Value.int _ _) _) _ _ _ | show wpAny _ _ (binaryOp Operator.Add (Value.str _ _) (Value.str _ _)) _ _ _ | show wpAny _ _ (inplaceOp Operator.Add (Value.str _ _) (Value.str _ _)) _ _ _ | show wpAny _ _ (subscriptTail _ (PySem.Expr.Slice _ _ _ _) (Value.ref _) (Value.ref _)) _ _ _ | show wpAny _ _ (call (Value.builtin "sum") _ _) _ _ _ | show wpAny _ _ (binaryOp Operator.Mult (Value.str _ _) _) _ _ _ | show wpAny _ _ (compareOp CmpOp.NotIn (Value.str _ _) (Value.str _ _)) _ _ _ | show wpAny _ _ (call (Value.type "str") _ _) _ _ _ | show wpAny _ _ (call (Value.type "builtins.str") _ _) _ _ _ | show wpAny _ _ (binaryOp Operator.Mod (Value.str _ _) _) _ _ _ | show wpAny _ _ (compareOp CmpOp.NotEq (Value.ref _) (Value.ref _)) _ _ _ | show wpAny _ _ (compareOp CmpOp.NotEq (Value.str _ _) (Value.str _ _)) _ _ _))); (first | (k_unfold; (try dsimp only)) | (k_end; wrow_close) | walk1 | (dsimp only; walk1) | (leave1; walk_say "STEP leave1"; try dsimp only) | fail "no step")))
  refine notin_quote hx ?_
  k_steps
  exact hret _ _ _ (by assumption) (by assumption)

end
end Mine
namespace Mine
--PLAIN
/-- between two wakings: what stood below B, but for the generator's own frame C, stands -/
noncomputable def Since (B C : Nat) (s₀ s : Shared) : Prop := ∃ h' tk, s = { s₀ with heap := h', toks := tk } ∧ ∀ b o, b < B → b ≠ C → s₀.heap.get? b = some o → h'.get? b = some o
/-- what the generator hands on: sign by sign, with its place -/
noncomputable def giveY (g : Heap) (B C : Nat) (l : List Nat) : Protocol := fun m s₀ v s κ =>
  (∃ i c T tk tk', i + m + 1 = l.length ∧ l[i]? = some c ∧ v = .ref T ∧ s.heap.IsTuple T #[.int ((i : Nat) : Int) tk, .str ⟨#[c]⟩ tk']) ∧ Since B C s₀ s ∧
  ∃ fp : List Addr, (∀ b ∈ fp, C ≤ b) ∧ ∀ s'' : Shared, (∀ b o, g.get? b = some o → s''.heap.get? b = some o) → (∀ b ∈ fp, ∀ o, s.heap.get? b = some o → s''.heap.get? b = some o) → κ (.send .none) s''
noncomputable def giveR (B C : Nat) : GenEnd := fun n s₀ r s => r = .ok (.ret .none) ∧ n = 0 ∧ Since B C s₀ s

section
variable {M : Model} {A : Around} {R : GenEnd} {Y : Protocol} {n : Nat} {s₀ : Shared} {c : Code} {fs : List Frame} {s : Shared} {env : Env} {K : Flow → Sem Fin} {H : Value → Sem Fin}
theorem seg_then {α β : Type} {m : Sem α} {F : α → Sem β} {K' : β → Sem Fin} {H' : Value → Sem Fin} {gd lv}
    (h : wpAny M (A.over c fs) m (fun a s' => Seg M A R Y n s₀ c ((F a).wrap K' H' gd lv) fs s') (fun x s' => Seg M A R Y n s₀ c (H' x) fs s') s) : Seg M A R Y n s₀ c ((m >>= F).wrap K' H' gd lv) fs s := by
  rw [Sem.bind_eq_wrap', Sem.wrap_wrap]; exact seg_wrap h
theorem seg_if {test : PySem.Expr} {b1 b2 : List Stmt} {pos : Pos} {gd lv} 
    (h : wpAny M (A.over c fs) (isTrue test env (eval test env)) (fun b s' => Seg M A R Y n s₀ c ((if b then execs b1 env else execs b2 env).wrap K H gd lv) fs s') (fun x s' => Seg M A R Y n s₀ c (H x) fs s') s) :
    Seg M A R Y n s₀ c ((exec (.If test b1 b2 pos) env).wrap K H gd lv) fs s := by
  rw [exec_If]
  exact seg_then (wpAny_standAt (seg_then h))
end

section
variable {prog : Program} {w : World} {A : Around} {E : Value → Shared → Prop} {s : Shared} {h₀ : Heap} {L a : Addr} {m : Str → Option Value} {K : Frag} {p : Program} {loose : List Str} {mean : ExcName → Option Value} {mg mb : Str → Option Value}
theorem code_gen {R : Result → Shared → Prop} {name qual : Str} {params : Arguments} {body : List Stmt} {scope : Scope} {dV kV doc pm cdv ct oc : Value} {an od : Option Addr} {osl : Array (Option Value)} {f : Addr} {args : Args} {binds : List (Str × Value)}
    (F : Fr h₀ L s.heap m) (X₀ : K.In h₀) (T : Top p loose mean mg mb h₀)
    (ho : K.lookup f = some ⟨oc, od, .func (fnOf name qual params body scope dV kV doc pm an cdv ct), osl⟩) (hcd : codeIn K cdv qual = true) (hroom : A.depth < recursionLimit)
    (hbind : BindsTo s (fnOf name qual params body scope dV kV doc pm an cdv ct) args binds) (hloc : ∀ y ∈ binds, scope.names.lookup y.1 = some .local)
    (hco : scope.isCoroutine = false) (hgen : scope.isGenerator = true) (hk : scope.kind = .function) (hcell : ∀ x ∈ scope.names, x.2 ≠ .cell)
    (h : ∀ h₁ tk, h₁.Ns s.heap.objs.size (fun y => binds.reverse.lookup y) → (∀ b o, s.heap.get? b = some o → h₁.get? b = some o) → h₁.objs.size = s.heap.objs.size + 2 → h₁.IsGen (s.heap.objs.size + 1) s.gens.size →
      R (.ok (.ret (.ref (s.heap.objs.size + 1)))) { s with heap := h₁, gens := s.gens.push (.fresh (.func body (envOf qual scope s.heap.objs.size f cdv))), toks := tk }) :
    codeAny (model prog w) A (.call (.ref f) args) R s := by
  have hcr := codeRec_of (X₀.keeps F.keep) hcd
  refine codeAny_of_tree ?_
  show wpAny _ A.in1 (callAny (.ref f) args) _ _ s
  simp only [callAny]
  refine wpAny_bind (wpAny_load ((X₀.keeps F.keep) _ _ ho) ?_)
  obtain ⟨c, oc', vs, tq, hc, hoc, hdc, hq⟩ := hcr
  subst hc
  simp only [callFunction]
  refine wpAny_bind (m := field (.ref c) 1) (wpAny_field hoc hdc hq (wpAny_bind (wpAny_pure ?_)))
  refine wpAny_bind (hbind _ _ _ _ ?_)
  refine wpAny_bind (wpAny_newFunctionEnv hcell hloc (fun h₁ hns₁ hsb₁ => wpAny_bind (wpAny_enterFrame ((T.nolimit.keeps F.keep).fresh _ hsb₁) hroom ?_)) hk)
  show wpAny _ _ (match scope.isGenerator, scope.isCoroutine with | false, false => _ | true, false => _ | false, true => _ | true, true => _) _ _ _
  rw [hgen, hco]
  have hsz : h₁.objs.size = s.heap.objs.size + 1 := by rw [hsb₁.1, Heap.size_push]
  have keep : ∀ b o, s.heap.get? b = some o → h₁.get? b = some o := fun b o e => hsb₁.extBut b o (Nat.ne_of_lt (Heap.lt_size e)) (Heap.get?_push_of_some _ e)
  simp only [newGenerator, newFields]
  refine wpAny_bind (wpAny_bind (wpAny_newGen (wpAny_bind (wpAny_mkText (wpAny_bind (wpAny_mkText (wpAny_newObj_type ?_ (by size_fits))))))))
  refine wpAny_pure ?_
  have fin := h (h₁.push { cls := .type "generator", data := .fields #[.int s.gens.size 0, .str name (s.toks + binds.length), .str qual (s.toks + binds.length + 1)] }) (s.toks + binds.length + 1 + 1) (hns₁.push _) (fun b o e => Heap.get?_push_of_some _ (keep b o e)) (by rw [Heap.size_push, hsz])
    ⟨_, _, _, hsz ▸ Heap.get?_push_size h₁ rfl, rfl, rfl, rfl⟩
  show R (.ok (.ret (.ref h₁.objs.size))) _
  rw [hsz]
  exact fin

theorem wpAny_pyNext_func {g n : Nat} {gs : GenState} {P : Nat → Shared → Shared → Prop} {Y : Protocol} {Q : Option Value → Shared → Prop} (hh : A.handled = none)
    (hl : s.heap.NoLimit) (hroom : A.depth < recursionLimit)
    (hg : s.heap.IsGen a g) (hgs : s.gens[g]? = some gs)
    (hgo : gs.Goes (model prog w) A.in1 (fun n s₀ r s₁ => r = .ok (.ret .none) ∧ P n s₀ s₁) Y n (.send .none) (s.setGen g .running))
    (hY : ∀ v s₁ gs', gs'.bare = true → Y (n - 1) (s.setGen g .running) v s₁ (fun r' s'' => match n with
        | 0 => False
        | m + 1 => gs'.Goes (model prog w) A.in1 (fun n s₀ r s₁ => r = .ok (.ret .none) ∧ P n s₀ s₁) Y m r' s'') → Q (some v) (s₁.setGen g gs'))
    (hP : ∀ s₁, P n (s.setGen g .running) s₁ → ∀ h', (∀ b o, s₁.heap.get? b = some o → h'.get? b = some o) → Q none { s₁.setGen g .finished with heap := h' }) :
    wpAny (model prog w) A (pyNext (.ref a)) Q E s := by
  unfold pyNext
  refine wpAny_bind (wpAny_attempt (wpAny_callSpecial?_slot (name := Str.ofString "__next__") hg.typeIs slot_gen_next
    (wpAny_call_entry slot_gen_next hg.typeIs entry_gen_next ?_ (args_gen_next _))))
  show wpAny _ A.in1 (Builtin.Generator.genWake (.ref a) (.send .none)) _ _ s
  unfold Builtin.Generator.genWake
  refine wpAny_bind (wpAny_holding (wpAny_genNumber hg (wpAny_bind (wpAny_genState hgs ?_))))
  cases gs with
  | running => exact hgo.elim
  | finished => exact hgo.elim
  | _ =>
    refine wpAny_bind (wpAny_roomToWake hl hroom ?_)
    show wpAny _ A.in1 (.resume g (.send .none) [] _) _ _ s
    refine wpAny_resumeQ hgs hgo (fun x s₁ hx => ?_) (fun v s₁ gs' hb hv => ?_)
    · obtain ⟨rfl, hp⟩ := hx
      show wpAny _ A.in1 (newExc (.type "StopIteration") [] >>= _) _ _ _
      refine wpAny_bind ?_
      simp only [newExc, newTuple]
      refine wpAny_bind (wpAny_newObj_type ?_ (by size_fits))
      refine wpAny_bind (m := firstArgMember _ _) (wpAny_of_eq (a := Value.none) (by first | rfl | (simp only [firstArgMember]; rfl)) ?_)
      refine wpAny_newObj_type ?_ (by size_fits)
      simp only [raiseNew]
      refine wpAny_bind (wpAny_bind (wpAny_handled ?_))
      first | rw [show A.in1.handled = none from hh] | rw [hh]
      refine wpAny_throw ?_
      refine wpAny_bind (wpAny_isInstance (T := "StopIteration") (b := true) ⟨_, Heap.get?_push_size _ rfl, rfl⟩ isSubtype_stop ?_)
      exact wpAny_pure (hP s₁ hp _ fun b o hb => Heap.get?_push_of_some _ (Heap.get?_push_of_some _ hb))
    · exact wpAny_pure ⟨v, rfl, wpAny_pure (hY v s₁ gs' hb hv)⟩
end

end Mine
namespace Mine
--PLAIN
/-- a heap with nothing from c on -/
noncomputable def cut (h : Heap) (c : Nat) : Heap := { h with objs := h.objs.extract 0 c }
theorem cut_size (h : Heap) (c : Nat) : (cut h c).objs.size ≤ c := by
  show (h.objs.extract 0 c).size ≤ c
  rw [Array.size_extract]; omega
theorem cut_get {h : Heap} {c b : Nat} : (cut h c).get? b = if b < c then h.get? b else none := by
  unfold Heap.get?
  show (match (h.objs.extract 0 c)[b]? with | some ⟨_, _, .freed, _⟩ => none | o => o) = _
  by_cases hb : b < c
  · rw [if_pos hb]
    have : (h.objs.extract 0 c)[b]? = h.objs[b]? := by
      rw [Array.getElem?_extract]
      by_cases hs : b < h.objs.size
      · rw [if_pos (by omega)]; simp
      · rw [if_neg (by omega)]; exact (Array.getElem?_eq_none (by omega)).symm
    rw [this]; rfl
  · rw [if_neg hb]
    have : (h.objs.extract 0 c)[b]? = none := Array.getElem?_eq_none (by rw [Array.size_extract]; omega)
    rw [this]
theorem cut_lt {h : Heap} {c b : Nat} {o : Obj} (e : (cut h c).get? b = some o) : b < c ∧ h.get? b = some o := by
  rw [cut_get] at e
  by_cases hb : b < c
  · rw [if_pos hb] at e; exact ⟨hb, e⟩
  · rw [if_neg hb] at e; cases e
theorem cut_of {h : Heap} {c b : Nat} {o : Obj} (hb : b < c) (e : h.get? b = some o) : (cut h c).get? b = some o := by
  rw [cut_get, if_pos hb]; exact e
theorem cut_none {h : Heap} {c b : Nat} (hb : c ≤ b) : (cut h c).get? b = none := by
  rw [cut_get, if_neg (by omega)]
theorem cut_in {h₀ h : Heap} {c : Nat} (hk : ∀ b o, h₀.get? b = some o → h.get? b = some o) (hs : h₀.objs.size ≤ c) : ∀ b o, h₀.get? b = some o → (cut h c).get? b = some o :=
  fun b o e => cut_of (Nat.lt_of_lt_of_le (Heap.lt_size e) hs) (hk b o e)

section
variable {w : World} {prog : Program} {A : Around} {g : Heap} {c e it : Nat} {og : Obj} {x : Str} {t : Tok} {xa xb : Str} {pa pb pt : Pos} {kt : Nat} {body : List Stmt} {env : Env} {fs : List Frame}

theorem assign_two {s : Shared} {E : Value → Shared → Prop} {T : Addr} {v1 v2 : Value} {m : Str → Option Value} {Q : Unit → Shared → Prop} (hh : A.handled = none) (hT : s.heap.IsTuple T #[v1, v2])
    (hxa : env.kindOf xa = some .local) (hxb : env.kindOf xb = some .local) (hp : (env.scope.kind == .class || (env.scope.kind == .module && env.locals != env.globals)) = false) (hn : s.heap.Ns env.locals m)
    (h : ∀ h' tk, h'.Ns env.locals (fun y => if y = xb then some v2 else (fun y => if y = xa then some v1 else m y) y) → (∀ b o, b ≠ env.locals → s.heap.get? b = some o → h'.get? b = some o) →
      Q () { s with heap := h', toks := tk }) : wpAny (model prog w) A (assign (.Tuple [.Name xa pa, .Name xb pb] kt pt) env (.ref T)) Q E s := by
  refine wpAny_assign_Tuple hh hT rfl rfl fun h₃ hx₃ => ?_
  have hx₃' : ∀ b o, s.heap.get? b = some o → h₃.get? b = some o := fun b o eb => hx₃ b o (Nat.ne_of_lt (Heap.lt_size eb)) eb
  show wpAny _ _ (do holding [_] (assign (.Name xa pa) env _); do holding [] (assign (.Name xb pb) env _); pure ()) _ _ _
  refine wpAny_bind (wpAny_holding (wpAny_assign_Name (wpAny_storeName_local hxa (hn.at' fun o e' => hx₃' _ o e') (fun h₄ hn₄ hs₄ => ?_) hp)))
  replace hs₄ : Heap.SameBut env.locals h₃ h₄ := hs₄
  refine wpAny_bind (wpAny_holding (wpAny_assign_Name (wpAny_storeName_local hxb hn₄ (fun h₅ hn₅ hs₅ => wpAny_pure ?_) hp)))
  replace hs₅ : Heap.SameBut env.locals h₄ h₅ := hs₅
  exact h _ _ hn₅ fun b o hb eb => hs₅.extBut b o hb (hs₄.extBut b o hb (hx₃' b o eb))

theorem seg_forEnum (hh : (A.over (.forLoop (.Tuple [.Name xa pa, .Name xb pb] kt pt) (.ref e) body [] env) fs).handled = none)
    (hec : c + 2 ≤ e) (hic : c + 2 ≤ it) (hei : e ≠ it) (J : (Str → Option Value) → Prop)
    (hxa : env.kindOf xa = some .local) (hxb : env.kindOf xb = some .local) (hp : (env.scope.kind == .class || (env.scope.kind == .module && env.locals != env.globals)) = false) (hloc : env.locals = c)
    (hJ : ∀ m va vb, J m → J (fun y => if y = xb then some vb else (fun y => if y = xa then some va else m y) y))
    (hab : xa ≠ xb) (hgs : g.objs.size ≤ c)
    (turn : ∀ (i ch : Nat) t₁ t₂ n (s₀ s : Shared) m (K : Flow → Sem Fin) (H : Value → Sem Fin) news, x.cps[i]? = some ch → Fr (cut s₀.heap c) c s.heap m → m xa = some (.int ((i : Nat) : Int) t₁) → m xb = some (.str ⟨#[ch]⟩ t₂) → J m →
      News (cut s₀.heap c) c s.heap news → (∀ b o, g.get? b = some o → (cut s₀.heap c).get? b = some o) →
      (∀ T h' tk m' κ, Fr (cut s₀.heap c) c h' m' → J m' → News (cut s₀.heap c) c h' news → h'.IsTuple T #[.int ((i : Nat) : Int) t₁, .str ⟨#[ch]⟩ t₂] →
        (∀ s'', Seg (model prog w) A (giveR (c + 2) c) (giveY g (c + 2) c x.cps.toList) n s'' (.forLoop (.Tuple [.Name xa pa, .Name xb pb] kt pt) (.ref e) body [] env) (K .next) fs s'' → κ (.send .none) s'') →
        giveY g (c + 2) c x.cps.toList n s₀ (.ref T) { s with heap := h', toks := tk } κ) →
      Seg (model prog w) A (giveR (c + 2) c) (giveY g (c + 2) c x.cps.toList) (n + 1) s₀ (.forLoop (.Tuple [.Name xa pa, .Name xb pb] kt pt) (.ref e) body [] env) ((execs body env).wrap K H id id) fs s)
    (done : ∀ (s₀ s : Shared) m, Fr (cut s₀.heap c) c s.heap m → J m → (∀ b o, g.get? b = some o → (cut s₀.heap c).get? b = some o) → Since (c + 2) c s₀ s →
      Seg (model prog w) A (giveR (c + 2) c) (giveY g (c + 2) c x.cps.toList) 0 s₀ (.block [] env) ((model prog w).den (.block [] env)) fs s) :
    ∀ (k i : Nat) (s₀ s : Shared) m, i + k = x.cps.size → Fr (cut s₀.heap c) c s.heap m → J m → (∀ b o, g.get? b = some o → s₀.heap.get? b = some o) → s₀.heap.get? (c + 1) = some og → s.heap.get? (c + 1) = some og →
      (∃ h tk, s = { s₀ with heap := h, toks := tk }) → (∃ old, IsEnum s.heap e it i old) → s.heap.IsStrIter it "str_ascii_iterator" x t i →
      Seg (model prog w) A (giveR (c + 2) c) (giveY g (c + 2) c x.cps.toList) k s₀ (.forLoop (.Tuple [.Name xa pa, .Name xb pb] kt pt) (.ref e) body [] env)
        ((model prog w).den (.forLoop (.Tuple [.Name xa pa, .Name xb pb] kt pt) (.ref e) body [] env)) fs s := by
  have W : ∀ A' : Around, A'.handled = none → _ := fun A' hA' => WalksT.enumerateD (A := A') (prog := prog) (w := w) (Draws.strAscii (A := A'.in1) hA' it x t) e hei (by simpa using hei) (List.mem_singleton_self it)
  have hne : ∀ b, b < c + 2 → b ∉ [e, it] := by
    intro b hb hm
    rcases List.mem_cons.mp hm with rfl | hm
    · omega
    rcases List.mem_cons.mp hm with rfl | hm
    · omega
    · cases hm
  have since : ∀ {s₀ : Shared} {h : Heap} {tk : Nat} {m : Str → Option Value}, Fr (cut s₀.heap c) c h m → s₀.heap.get? (c + 1) = some og → h.get? (c + 1) = some og → Since (c + 2) c s₀ { s₀ with heap := h, toks := tk } := by
    intro s₀ h tk m F h1 h2
    refine ⟨h, tk, rfl, fun b o hb hbc eb => ?_⟩
    by_cases hlt : b < c
    · exact F.keep b o (cut_of hlt eb)
    · have : b = c + 1 := by omega
      subst this; rw [h1] at eb; cases eb; exact h2
  intro k
  induction k with
  | zero =>
    intro i s₀ s m hk F hj hg0 hog0 hog hs hen hst
    obtain ⟨h, tk, rfl⟩ := hs
    show Seg _ A _ _ _ s₀ _ ((forTurn (.Tuple [.Name xa pa, .Name xb pb] kt pt) (.ref e) body [] env).onRaise (fun x => do noteFrame x env; theTreesLotGoes x)) fs _
    rw [Sem.onRaise_eq_wrap]
    unfold forTurn
    refine seg_then (wpAny_standAt (seg_then (wpAny_onRaise ?_)))
    have hi : i = x.cps.size := by omega
    subst hi
    refine (W _ hh).done _ _ _ ⟨hen, hst⟩ fun h' tk' hk' => ?_
    refine seg_again rfl ?_
    have F' : Fr (cut s₀.heap c) c h' m := ⟨F.ns.at' fun o e' => hk' c o (hne c (by omega)) e', fun b o eb => hk' b o (hne b (by have := (cut_lt eb).1; omega)) (F.keep b o eb), F.above⟩
    have hog' : h'.get? (c + 1) = some og := hk' _ _ (hne _ (by omega)) hog
    exact done s₀ _ m F' hj (cut_in hg0 hgs) (since F' hog0 hog')
  | succ k ih =>
    intro i s₀ s m hk F hj hg0 hog0 hog hs hen hst
    obtain ⟨h, tk, rfl⟩ := hs
    show Seg _ A _ _ _ s₀ _ ((forTurn (.Tuple [.Name xa pa, .Name xb pb] kt pt) (.ref e) body [] env).onRaise (fun x => do noteFrame x env; theTreesLotGoes x)) fs _
    rw [Sem.onRaise_eq_wrap]
    unfold forTurn
    refine seg_then (wpAny_standAt (seg_then (wpAny_onRaise ?_)))
    refine (W _ hh).item i _ _ _ (by omega) ⟨hen, hst⟩ fun T vals h₁ tk₁ hP _ hT hmid hk₁ => ?_
    obtain ⟨ti, xv, ⟨ch, u, hch, rfl⟩, rfl⟩ := hP
    refine seg_then ((W _ hh).go _ _ _ i T _ _ _ hmid fun h₂ hst₂ hk₂ => ?_)
    have hT₂ : h₂.IsTuple T #[.int i ti, .str ⟨#[ch]⟩ u] := let ⟨o, eo, r⟩ := hT; ⟨o, hk₂ _ o ((W _ hh).apart i T _ hmid) eo, r⟩
    have hk₂' : ∀ b o, b ∉ [e, it] → h.get? b = some o → h₂.get? b = some o := fun b o hb eb => hk₂ b o hb (hk₁ b o hb eb)
    have F₂ : Fr (cut s₀.heap c) c h₂ m := ⟨F.ns.at' fun o e' => hk₂' c o (hne c (by omega)) e', fun b o eb => hk₂' b o (hne b (by have := (cut_lt eb).1; omega)) (F.keep b o eb), F.above⟩
    have hog₂ : h₂.get? (c + 1) = some og := hk₂' _ _ (hne _ (by omega)) hog
    refine seg_then (assign_two (m := m) hh hT₂ hxa hxb hp (by rw [hloc]; exact F₂.ns) fun h₅ tk₅ hn₅ hx₅ => ?_)
    rw [hloc] at hn₅ hx₅
    replace hx₅ : ∀ b o, b ≠ c → h₂.get? b = some o → h₅.get? b = some o := hx₅
    have F₅ : Fr (cut s₀.heap c) c h₅ _ := ⟨hn₅, fun b o eb => hx₅ b o (Nat.ne_of_lt (cut_lt eb).1) (F₂.keep b o eb), F₂.above⟩
    obtain ⟨⟨old', he₂⟩, hi₂⟩ := hst₂
    obtain ⟨oi, hoi, hir⟩ := id hi₂
    obtain ⟨oe, hoe, hoe'⟩ : ∃ o, h₂.get? e = some o ∧ (∀ h' : Heap, h'.get? e = some o → IsEnum h' e it ((i + 1 : Nat) : Int) old') := ⟨_, he₂, fun _ q => q⟩
    have N₅ : News (cut s₀.heap c) c h₅ [(c + 1, og), (e, oe), (it, oi)] := by
      intro p hp
      rcases List.mem_cons.mp hp with rfl | hp
      · exact ⟨hx₅ _ _ (by omega) hog₂, by simp, cut_none (by simp)⟩
      rcases List.mem_cons.mp hp with rfl | hp
      · exact ⟨hx₅ _ _ (by omega) hoe, by show e ≠ c; omega, cut_none (by show c ≤ e; omega)⟩
      rcases List.mem_cons.mp hp with rfl | hp
      · exact ⟨hx₅ _ _ (by omega) hoi, by show it ≠ c; omega, cut_none (by show c ≤ it; omega)⟩
      · cases hp
    rw [Sem.bind_eq_wrap', Sem.wrap_wrap]
    refine turn i ch ti u k s₀ _ _ _ _ _ hch F₅ (by simp [hab]) (by simp) (hJ _ _ _ hj) N₅ (cut_in hg0 hgs) fun T' h₆ tk₆ m₆ κ F₆ hj₆ N₆ hT₆ hκ => ?_
    have n1 := (N₆ _ (List.mem_cons_self ..)).1
    have n2 := (N₆ _ (List.mem_cons_of_mem _ (List.mem_cons_self ..))).1
    have n3 := (N₆ _ (List.mem_cons_of_mem _ (List.mem_cons_of_mem _ (List.mem_cons_self ..)))).1
    refine ⟨⟨i, ch, T', _, _, by simp; omega, by simpa using hch, rfl, hT₆⟩, since F₆ hog0 n1, [c, c + 1, e, it], by intro b hb; simp only [List.mem_cons, List.not_mem_nil, or_false] at hb; rcases hb with rfl | rfl | rfl | rfl <;> omega, fun s'' hg'' hfp => hκ s'' ?_⟩
    refine seg_again rfl (ih (i + 1) s'' s'' m₆ (by omega) ⟨F₆.ns.at' fun o e' => hfp c (by simp) o e', fun b o eb => (cut_lt eb).2, cut_size _ _⟩ hj₆ hg'' ?_ ?_ ⟨_, _, rfl⟩ ⟨old', ?_⟩ ⟨oi, hfp it (by simp) _ n3, hir⟩)
    · exact hfp (c + 1) (by simp) _ n1
    · exact hfp (c + 1) (by simp) _ n1
    · exact hoe' _ (hfp e (by simp) _ n2)
end

end Mine
namespace Mine
section
variable {w : World} {dp un : Nat} {gd : Option (List Code)} {cn : Str} {cs : Scope} {a : Addr} {ccd : Value} {cl : List (Str × Addr)} {outer : List Env} {A₀ : Around} {base h₀ : Heap} {L : Addr} {m : Str → Option Value} {news : List (Addr × Obj)} {s : Shared} {loose : List Str} {mean : ExcName → Option Value} {mg mb : Str → Option Value} {Q E : Value → Shared → Prop}

/-- a generator of the signs, at some moment -/
noncomputable def GenGo (w : World) (A' : Around) (g : Heap) (c : Nat) (l : List Nat) (n : Nat) (gs : GenState) (fp : List Addr) (h : Heap) : Prop :=
  ∀ s'' : Shared, (∀ b o, g.get? b = some o → s''.heap.get? b = some o) → (∀ b ∈ fp, ∀ o, h.get? b = some o → s''.heap.get? b = some o) →
    gs.Goes (model PySem.Challenge.rw_wu0073_01.row.prog w) A' (giveR (c + 2) c) (giveY g (c + 2) c l) n (.send .none) s''

set_option maxRecDepth 100000 in
set_option maxHeartbeats 8000000 in
theorem gen_call {x : Str} {t : Tok}
    (C : Cx w 1 dp un cs A₀ base outer h₀ L m news loose mean mg mb s.heap) (hx : ∀ c ∈ x.cps.toList, c = 40 ∨ c = 41)
    (hret : ∀ (c : Nat) h' tk' gs fp, L < c → (∀ p ∈ news, p.1 < c) → Fr h₀ L h' m → News h₀ L h' news → (∀ b o, s.heap.get? b = some o → h'.get? b = some o) → h'.IsGen (c + 1) s.gens.size → gs.bare = true → (∀ b ∈ fp, c ≤ b) →
      (∀ A' : Around, A'.handled = none → GenGo w A' h₀ c x.cps.toList x.cps.size gs fp h') → Q (.ref (c + 1)) {s with heap := h', toks := tk', gens := s.gens.push gs}) :
    wpAny (model PySem.Challenge.rw_wu0073_01.row.prog w) (ktrTop dp un gd cn cs L a ccd cl outer) (call (.ref 48) [.str x t]) Q E s := by
  obtain ⟨B, F, X, N, T, hk, hdp, hu⟩ := C
  revert X; k_fill; intro X
  refine wpAny_call ?_
  k_dflt (refine' code_gen ?k2 ?k3 ?k5 ?k6 ?k7 ?k8 ?k9 ?kB ?c2 ?c3 ?c4 ?c5 ?_; (case k2 => k_asm); (case k3 => k_asm); (case k5 => k_asm); (case k6 => k_is); (case k7 => k_is); (case k8 => ktr_room); (case k9 => exact BindsTo.of_eq rfl); (case c5 => decide); (case kB => exact locs rfl); (case c2 => exact rfl); (case c3 => exact rfl); (case c4 => exact rfl))
  intro h₁ tk hns keep hsz hig
  obtain ⟨oL, es, ep, hLg, hLr⟩ := F.ns
  have hLt : L < s.heap.objs.size := Heap.lt_size hLg
  have hab : h₀.objs.size ≤ s.heap.objs.size := Nat.le_trans F.above (Nat.le_of_lt hLt)
  obtain ⟨og, _, _, hog, _⟩ := id hig
  refine hret s.heap.objs.size _ _ _ [s.heap.objs.size, s.heap.objs.size + 1] hLt (fun p hp => Heap.lt_size (N p hp).1) ⟨⟨oL, es, ep, keep _ _ hLg, hLr⟩, fun b o e => keep _ _ (F.keep b o e), F.above⟩ (fun p hp => ⟨keep _ _ (N p hp).1, (N p hp).2⟩) keep hig rfl (by simp) ?_
  intro A' hA s'' hg' hfp
  refine ⟨rfl, ?_⟩
  generalize s.heap.objs.size = c at *
  have st := cut_in hg' hab
  have F'' : Fr (cut s''.heap c) c s''.heap _ := ⟨hns.at' fun o e => hfp c (by simp) o e, fun b o e => (cut_lt e).2, cut_size _ _⟩
  have hog0 := hfp (c + 1) (by simp) _ hog
  have N'' : News (cut s''.heap c) c s''.heap [(c + 1, og)] := by
    intro p hp
    cases List.mem_singleton.mp hp
    exact ⟨hog0, by simp, cut_none (by simp)⟩
  have X'' := X.keeps st
  have T'' := T.keeps st
  clear hret hns keep hsz hig hLg hLr hLt F N B hfp h₁ tk hog
  have X0 := X
  have T0 := T
  clear X T
  revert X''; intro X
  refine seg_func ?_
  refine seg_execs_cons (seg_wrap ?_)
  k_steps
  try dsimp only
  refine seg_execs_cons (seg_wrap ?_)
  k_steps
  try dsimp only
  refine seg_execs_cons ?_
  rw [exec_For]
  refine seg_then (wpAny_standAt (seg_then ?_))
  (repeat' ((fail_if_success ((with_reducible first | show wpAny _ _ (exec (PySem.Stmt.While _ _ _ _) _) _ _ _ | show wpAny _ _ (exec (PySem.Stmt.For _ _ _ _ _) _) _ _ _ | show wpAny _ _ (call (Value.ref _) _ _) _ _ _ | show wpAny _ _ (compareOp CmpOp.Lt (Value.ref _) _) _ _ _ | show wpAny _ _ (compareOp CmpOp.Lt _ (Value.ref _)) _ _ _ | show wpAny _ _ (compareOp CmpOp.Lt (Prod.fst _) _) _ _ _ | show wpAny _ _ (compareOp CmpOp.Lt _ (Prod.fst _)) _ _ _ | show wpAny _ _ (compareOp CmpOp.Eq (Value.ref _) _) _ _ _ | show wpAny _ _ (pyIter _) (fun it s₂ => LoopAtV _ _ _ _ _ _ _ _ _ it s₂) _ _ | show wpAny _ _ (call (Value.builtin "str.split") _ _) _ _ _ | show wpAny _ _ (newList _) _ _ _ | show wpAny _ _ (call (Value.builtin "str.join") _ _) _ _ _ | show wpAny _ _ (call (Value.builtin "list.append") _ _) _ _ _ | show wpAny _ _ (exec (PySem.Stmt.Assign _ (PySem.Expr.ListComp _ _ _ _) _) _) _ _ _ | show wpAny _ _ (eval (PySem.Expr.ListComp _ _ _ _) _) _ _ _ | show wpAny _ _ (binaryOp Operator.Mult (Value.ref _) _) _ _ _ | show wpAny _ _ (subscriptTail _ _ (Value.ref _) (Value.int _ _)) _ _ _ | show wpAny _ _ (getItem (Value.ref _) (Value.int _ _)) _ _ _ | show wpAny _ _ (setItem (Value.ref _) (Value.int _ _) _) _ _ _ | show wpAny _ _ (binaryOp Operator.Add (Value.str _ _) (Value.str _ _)) _ _ _ | show wpAny _ _ (inplaceOp Operator.Add (Value.str _ _) (Value.str _ _)) _ _ _ | show wpAny _ _ (subscriptTail _ (PySem.Expr.Slice _ _ _ _) (Value.ref _) (Value.ref _)) _ _ _ | show wpAny _ _ (call (Value.builtin "sum") _ _) _ _ _ | show wpAny _ _ (binaryOp Operator.Mult (Value.str _ _) _) _ _ _ | show wpAny _ _ (compareOp CmpOp.NotIn (Value.str _ _) (Value.str _ _)) _ _ _ | show wpAny _ _ (call (Value.type "str") _ _) _ _ _ | show wpAny _ _ (call (Value.type "builtins.str") _ _) _ _ _ | show wpAny _ _ (binaryOp Operator.Mod (Value.str _ _) _) _ _ _ | show wpAny _ _ (compareOp CmpOp.NotEq (Value.ref _) (Value.ref _)) _ _ _ | show wpAny _ _ (compareOp CmpOp.NotEq (Value.str _ _) (Value.str _ _)) _ _ _))); (first | (k_unfold; (try dsimp only)) | (k_end; wrow_close) | walk1 | (dsimp only; walk1) | (leave1; walk_say "STEP leave1"; try dsimp only) | fail "no step")))
  rename Fr _ _ _ _ => F₁
  rename News _ _ _ _ => N₁
  have hs1 := Heap.lt_size (N₁ _ (List.mem_cons_self ..)).1
  refine call_enumerate_str fun h' he hi hsz' hk' => ?_
  dsimp only at he hi hsz' hk' hs1
  refine seg_then (wpAny_of_eq rfl ?_)
  refine seg_then (wpAny_standAt ?_)
  refine seg_then (wpAny_holding (wpAny_pyIter_enum he ?_))
  refine seg_call fun p => ?_
  have hty : strIterType x = "str_ascii_iterator" := by
    unfold strIterType
    rw [if_pos]
    rw [Array.all_eq_true']
    intro y hy
    rcases hx y (by simpa using hy) with rfl | rfl <;> rfl
  rw [hty] at hi
  refine seg_forEnum (x := x) (g := h₀) (og := og) (t := t) ?hh ?h1 ?h2 ?h3 (fun m => m (Str.ofString "escape") = some (.bool false)) ?k1 ?k2 ?k3 ?k4 ?hJ ?hne hab ?turn ?done x.cps.size 0 _ _ _ (Nat.zero_add _) ⟨F₁.ns.at' fun o e => hk' _ _ e, fun b o e => hk' _ _ (F₁.keep b o e), F₁.above⟩ ?hm hg' hog0 (hk' _ _ (N₁ _ (List.mem_cons_self ..)).1) ⟨_, _, rfl⟩ ⟨_, he⟩ hi
  case hh => exact hA
  case k1 => rfl
  case k2 => rfl
  case k3 => rfl
  case k4 => rfl
  case hne => decide
  case h1 => exact Nat.le_succ_of_le hs1
  case h2 => exact hs1
  case h3 => exact Nat.succ_ne_self _
  case hm => rfl
  case hJ =>
    intro m va vb hm
    rw [← hm]; rfl
  case turn =>
    clear F₁ N₁ hs1 he hi hsz' hk' T'' X hg' hog0
    intro i ch t₁ t₂ n s₀ s m K H news hch F hma hmb hm N hg' hy
    have hch' : ch = 40 ∨ ch = 41 := hx ch (by have := Array.mem_of_getElem? hch; simpa using this)
    have X := X0.keeps hg'
    have T := T0.keeps hg'
    clear hx hg' X0 T0 st
    have em : m = fun y => if y = Str.ofString "ch" then some (.str ⟨#[ch]⟩ t₂) else if y = Str.ofString "pos" then some (.int ((i : Nat) : Int) t₁) else if y = Str.ofString "escape" then some (.bool false) else m y := by
      funext y
      by_cases h1 : y = Str.ofString "ch"
      · subst h1; rw [if_pos rfl]; exact hmb
      rw [if_neg h1]
      by_cases h2 : y = Str.ofString "pos"
      · subst h2; rw [if_pos rfl]; exact hma
      rw [if_neg h2]
      by_cases h3 : y = Str.ofString "escape"
      · subst h3; rw [if_pos rfl]; exact hm
      rw [if_neg h3]
    rw [em] at F
    clear em
    refine seg_execs_cons (seg_if ?_)
    k_steps
    try dsimp only
    rw [if_neg Bool.false_ne_true]
    refine seg_execs_cons (seg_if ?_)
    rcases hch' with rfl | rfl
    all_goals
      k_steps
      try dsimp only
      rw [if_neg (by decide)]
      refine seg_execs_cons (seg_Expr_Yield rfl rfl rfl ?_)
      k_steps
      rename Fr _ _ _ _ => F₆
      rename News _ _ _ _ => N₆
      refine hy _ _ _ _ _ F₆ ?_ (fun p hp => N₆ p (List.mem_cons_of_mem _ hp)) ⟨_, (N₆ _ (List.mem_cons_self ..)).1, rfl, _, rfl⟩ (fun s'' hs => ?_)
      · rfl
      · rename ∀ _ _, _ → _ => ha
        exact ha .none s'' hs
  case done =>
    clear F₁ N₁ hs1 he hi hsz' hk' T'' X hg' hog0
    intro s₀ s m F hm hg' sn
    have X := X0.keeps hg'
    have T := T0.keeps hg'
    clear hx hg' X0 T0 st
    have N : News (cut s₀.heap c) c s.heap [] := News.nil
    have em : m = fun y => if y = Str.ofString "escape" then some (.bool false) else m y := by
      funext y
      by_cases h3 : y = Str.ofString "escape"
      · subst h3; rw [if_pos rfl]; exact hm
      rw [if_neg h3]
    rw [em] at F
    clear em
    show Seg _ _ _ _ _ _ _ (leafOf (.ok .next)) _ _
    refine seg_leaf (.ok .next) ?_
    refine seg_execs_cons (seg_if ?_)
    k_steps
    try dsimp only
    rw [if_neg (by decide)]
    exact seg_end (.ok (.ret .none)) ⟨rfl, rfl, sn⟩

end
end Mine
namespace Mine
--PLAIN
theorem push_set {α : Type} (G : Array α) (a b : α) : (G.push a).setIfInBounds G.size b = G.push b := by
  apply Array.ext_getElem?
  intro i
  rw [Array.getElem?_setIfInBounds, Array.getElem?_push, Array.getElem?_push]
  by_cases h : G.size = i
  · subst h; simp
  · rw [if_neg h, if_neg (Ne.symm h), if_neg (Ne.symm h)]
noncomputable def ownOf (h : Heap) (fp : List Addr) : List (Addr × Obj) := fp.filterMap fun b => (h.get? b).map fun o => (b, o)
theorem mem_ownOf {h : Heap} {fp : List Addr} {p : Addr × Obj} : p ∈ ownOf h fp ↔ p.1 ∈ fp ∧ h.get? p.1 = some p.2 := by
  unfold ownOf
  rw [List.mem_filterMap]
  constructor
  · rintro ⟨b, hb, e⟩
    cases q : h.get? b with
    | none => rw [q] at e; cases e
    | some o => rw [q] at e; cases e; exact ⟨hb, q⟩
  · rintro ⟨h1, h2⟩
    exact ⟨p.1, h1, by rw [h2]; rfl⟩

noncomputable def GenNext (h₀ : Heap) (L : Addr) (ns : List (Addr × Obj)) (G' : Array GenState) (s : Shared) (J : (Str → Option Value) → Prop) (s₃ : Shared) : Prop :=
  ∃ h' tk' m', s₃ = { s with heap := h', toks := tk', gens := G' } ∧ Fr h₀ L h' m' ∧ News h₀ L h' ns ∧ J m'
theorem GenNext.intro {h₀ : Heap} {L : Addr} {ns : List (Addr × Obj)} {G' : Array GenState} {s : Shared} {J : (Str → Option Value) → Prop} {h' : Heap} {tk' : Nat} {m' : Str → Option Value} (F : Fr h₀ L h' m') (N : News h₀ L h' ns) (hJ : J m') :
    GenNext h₀ L ns G' s J { s with heap := h', toks := tk', gens := G' } := ⟨h', tk', m', rfl, F, N, hJ⟩

section
variable {w : World} {A : Around} {h₀ : Heap} {L c : Nat} {G : Array GenState} {xs : List Nat} {xa xb : Str} {pa pb pt : Pos} {kt : Nat} {body : List Stmt} {env : Env} {s : Shared} {Q : Flow → Shared → Prop} {EE : Value → Shared → Prop}
theorem forGen {news : List (Addr × Obj)} (hh : A.handled = none) (hroom : A.depth < recursionLimit) (hnl : h₀.NoLimit) (hxa : env.kindOf xa = some .local) (hxb : env.kindOf xb = some .local)
    (hp : (env.scope.kind == .class || (env.scope.kind == .module && env.locals != env.globals)) = false) (hloc : env.locals = L) (hab : xa ≠ xb) (hLc : L < c) (hnews : ∀ p ∈ news, p.1 < c)
    (I : Nat → (Str → Option Value) → Prop)
    (turn : ∀ i ch t₁ t₂ m h tk gs own E', xs[i]? = some ch → I i m → gs.bare = true → Fr h₀ L h (fun y => if y = xb then some (.str ⟨#[ch]⟩ t₂) else (fun y => if y = xa then some (.int ((i : Nat) : Int) t₁) else m y) y) → News h₀ L h (news ++ own) →
      wpAny (model PySem.Challenge.rw_wu0073_01.row.prog w) A (execs body env) (fun f s₃ => match f with
        | .next | .cont => GenNext h₀ L (news ++ own) (G.push gs) s (I (i + 1)) s₃
        | .brk => Q .next s₃
        | .ret v => Q (.ret v) s₃) E' { s with heap := h, toks := tk, gens := G.push gs })
    (done : ∀ m h tk gs, I xs.length m → gs.bare = true → Fr h₀ L h m → News h₀ L h news → Q .next { s with heap := h, toks := tk, gens := G.push gs }) :
    ∀ (n i : Nat) m h tk gs fp, i + n = xs.length → I i m → gs.bare = true → Fr h₀ L h m → News h₀ L h news → h.IsGen (c + 1) G.size → (∀ b ∈ fp, c ≤ b) → GenGo w A.in1 h₀ c xs n gs fp h →
      codeAny (model PySem.Challenge.rw_wu0073_01.row.prog w) A (.forLoop (.Tuple [.Name xa pa, .Name xb pb] kt pt) (.ref (c + 1)) body [] env) (fun r s' => match r with | .ok f => Q f s' | .error e => EE e s') { s with heap := h, toks := tk, gens := G.push gs } := by
  intro n i m h tk gs fp hi hI hb F N hg hfp hgo
  refine codeAny_forLoop_any (fun n s₁ => ∃ i m h tk gs fp, i + n = xs.length ∧ I i m ∧ gs.bare = true ∧ Fr h₀ L h m ∧ News h₀ L h news ∧ h.IsGen (c + 1) G.size ∧ (∀ b ∈ fp, c ≤ b) ∧ GenGo w A.in1 h₀ c xs n gs fp h ∧ s₁ = { s with heap := h, toks := tk, gens := G.push gs }) ?_ n
    ⟨i, m, h, tk, gs, fp, hi, hI, hb, F, N, hg, hfp, hgo, rfl⟩
  rintro n s₁ ⟨i, m, h, tk, gs, fp, hi, hI, hb, F, N, hg, hfp, hgo, rfl⟩
  have hset : ∀ (a b : GenState) (h : Heap) (tk : Nat), ({ s with heap := h, toks := tk, gens := G.push a } : Shared).setGen G.size b = { s with heap := h, toks := tk, gens := G.push b } := by
    intro a b h tk
    simp only [Shared.setGen, push_set]
  have hL2 : L < c + 2 := by omega
  have hL3 : L ≠ c := by omega
  have hn2 : ∀ p ∈ news, p.1 < c + 2 := fun p hp => Nat.lt_of_lt_of_le (hnews p hp) (Nat.le_add_right _ _)
  have hn3 : ∀ p ∈ news, p.1 ≠ c := fun p hp => Nat.ne_of_lt (hnews p hp)
  have hb1 : ∀ {b : Addr} {o : Obj}, h₀.get? b = some o → b < c := fun e => Nat.lt_of_lt_of_le (Heap.lt_size e) (Nat.le_of_lt (Nat.lt_of_le_of_lt F.above hLc))
  have hb2 : ∀ {b : Addr} {o : Obj}, h₀.get? b = some o → b < c + 2 := fun e => Nat.lt_of_lt_of_le (hb1 e) (Nat.le_add_right _ _)
  have hb3 : ∀ {b : Addr} {o : Obj}, h₀.get? b = some o → b ≠ c := fun e => Nat.ne_of_lt (hb1 e)
  have hlt : h₀.objs.size < c := Nat.lt_of_le_of_lt F.above hLc
  refine wpAny_pyNext_func (P := fun n s₀ s₁ => n = 0 ∧ Since (c + 2) c s₀ s₁) (n := n) hh (hnl.keeps F.keep) hroom hg (Array.getElem?_push_size ..) ?_ (Y := giveY h₀ (c + 2) c xs) ?_ ?_
  · rw [hset]
    exact hgo _ F.keep fun b hb o e => e
  · rw [hset]
    intro v s₁ gs' hb' hv
    obtain ⟨⟨i', ch, T, t₁, t₂, hi', hch, rfl, hT⟩, ⟨h₁, tk₁, rfl, hk₁⟩, fp', hfp', hκ⟩ := hv
    have F₁ : Fr h₀ L h₁ m := ⟨F.ns.at' fun o e => hk₁ L o hL2 hL3 e, fun b o e => hk₁ b o (hb2 e) (hb3 e) (F.keep b o e), F.above⟩
    have N₁ : News h₀ L h₁ news := fun p hp => ⟨hk₁ _ _ (hn2 p hp) (hn3 p hp) (N p hp).1, (N p hp).2⟩
    have hg₁ : h₁.IsGen (c + 1) G.size := let ⟨o, nm, qn, ho, r⟩ := hg; ⟨o, nm, qn, hk₁ _ o (by omega) (by omega) ho, r⟩
    rw [hset]
    cases n with
    | zero => exact (hκ { s with heap := h₁, toks := tk₁, gens := G.push gs' } F₁.keep fun b _ o e => e).elim
    | succ n' =>
      dsimp only at hκ hi' hT
      have hii : i' = i := by omega
      subst hii
      obtain ⟨og, gnm, gqn, hog, hgc, hgd, hgs⟩ := id hg₁
      show wpAny _ A (letOwnedTupleGo (.Tuple [.Name xa pa, .Name xb pb] kt pt) (.ref (c + 1)) (.ref T)) _ _ _
      refine wpAny_bind (wpAny_load hog ?_)
      rw [hgc, hgd]
      refine wpAny_pure ?_
      refine assign_two (m := m) hh hT hxa hxb hp (by rw [hloc]; exact F₁.ns) fun h₅ tk₅ hn₅ hx₅ => ?_
      rw [hloc] at hn₅ hx₅
      replace hx₅ : ∀ b o, b ≠ L → h₁.get? b = some o → h₅.get? b = some o := hx₅
      have F₅ : Fr h₀ L h₅ _ := ⟨hn₅, fun b o eb => hx₅ b o (Nat.ne_of_lt (Nat.lt_of_lt_of_le (Heap.lt_size eb) F.above)) (F₁.keep b o eb), F₁.above⟩
      have N₅ : News h₀ L h₅ (news ++ ((c + 1, og) :: ownOf h₁ fp')) := by
        intro p hp
        rcases List.mem_append.mp hp with hp | hp
        · exact ⟨hx₅ _ _ (N₁ p hp).2.1 (N₁ p hp).1, (N₁ p hp).2⟩
        rcases List.mem_cons.mp hp with rfl | hp
        · exact ⟨hx₅ _ _ (by show c + 1 ≠ L; omega) hog, by show c + 1 ≠ L; omega, Heap.get?_none_of_le (by show h₀.objs.size ≤ c + 1; omega)⟩
        · obtain ⟨h1, h2⟩ := mem_ownOf.mp hp
          have := hfp' _ h1
          exact ⟨hx₅ _ _ (Nat.ne_of_gt (Nat.lt_of_lt_of_le hLc this)) h2, Nat.ne_of_gt (Nat.lt_of_lt_of_le hLc this), Heap.get?_none_of_le (Nat.le_trans (Nat.le_of_lt hlt) this)⟩
      refine wpAny_mono (turn i' ch t₁ t₂ m h₅ _ gs' _ _ hch hI hb' F₅ N₅) (fun f s₃ h => ?_) fun _ _ e => e
      have nx : GenNext h₀ L (news ++ ((c + 1, og) :: ownOf h₁ fp')) (G.push gs') s (I (i' + 1)) s₃ → ∃ k, k < n' + 1 ∧ ∃ i m h tk gs fp, i + k = xs.length ∧ I i m ∧ gs.bare = true ∧ Fr h₀ L h m ∧ News h₀ L h news ∧ h.IsGen (c + 1) G.size ∧ (∀ b ∈ fp, c ≤ b) ∧ GenGo w A.in1 h₀ c xs k gs fp h ∧ s₃ = { s with heap := h, toks := tk, gens := G.push gs } := by
        rintro ⟨h', tk', m', rfl, F', N', hI'⟩
        refine ⟨n', by omega, i' + 1, m', h', tk', gs', fp', by omega, hI', hb', F', fun p hp => N' p (List.mem_append_left _ hp), ⟨og, gnm, gqn, (N' (c + 1, og) (List.mem_append_right _ (List.mem_cons_self ..))).1, hgc, hgd, hgs⟩, hfp', ?_, rfl⟩
        exact fun s'' hg'' hfp'' => hκ s'' hg'' fun b hb o eb => hfp'' b hb o (N' (b, o) (List.mem_append_right _ (List.mem_cons_of_mem _ (mem_ownOf.mpr ⟨hb, eb⟩)))).1
      cases f with
      | next => exact nx h
      | cont => exact nx h
      | brk => exact h
      | ret v => exact h
  · rintro s₁ ⟨hn, h₁, tk₁, rfl, hk₁⟩ h' hk'
    refine wpAny_pure ?_
    simp only [Shared.setGen, push_set]
    subst hn
    have F₁ : Fr h₀ L h₁ m := ⟨F.ns.at' fun o e => hk₁ L o hL2 hL3 e, fun b o e => hk₁ b o (hb2 e) (hb3 e) (F.keep b o e), F.above⟩
    have N₁ : News h₀ L h₁ news := fun p hp => ⟨hk₁ _ _ (hn2 p hp) (hn3 p hp) (N p hp).1, (N p hp).2⟩
    have hi : i = xs.length := by omega
    subst hi
    exact done m h' tk₁ .finished hI rfl ⟨F₁.ns.at' fun o e => hk' _ _ e, fun b o e => hk' _ _ (F₁.keep b o e), F₁.above⟩ fun p hp => ⟨hk' _ _ (N₁ p hp).1, (N₁ p hp).2⟩
end

end Mine
namespace Mine
section
variable {w : World} {dp un : Nat} {gd : Option (List Code)} {cn : Str} {cs : Scope} {a : Addr} {ccd : Value} {cl : List (Str × Addr)} {outer : List Env} {A₀ : Around} {base h₀ : Heap} {L : Addr} {m : Str → Option Value} {news : List (Addr × Obj)} {s : Shared} {loose : List Str} {mean : ExcName → Option Value} {mg mb : Str → Option Value} {Q E : Value → Shared → Prop}

theorem m_eq1 {m : Str → Option Value} {k : Str} {v : Value} (h : m k = some v) : m = fun y => if y = k then some v else m y := by
  funext y
  by_cases e : y = k
  · subst e; rw [if_pos rfl]; exact h
  · rw [if_neg e]
set_option maxRecDepth 100000 in
set_option maxHeartbeats 8000000 in
theorem check_call {x : Str} {t : Tok}
    (C : Cx w 3 dp un cs A₀ base outer h₀ L m news loose mean mg mb s.heap) (hx : ∀ c ∈ x.cps.toList, c = 40 ∨ c = 41)
    (hret : ∀ h' tk' gs, gs.bare = true → Fr h₀ L h' m → News h₀ L h' news → Q (.bool (chk 0 x.cps.toList)) {s with heap := h', toks := tk', gens := s.gens.push gs}) :
    wpAny (model PySem.Challenge.rw_wu0073_01.row.prog w) (ktrTop dp un gd cn cs L a ccd cl outer) (call (.ref 62) [.str x t]) Q E s := by
  obtain ⟨B, F, X, N, T, hk, hdp, hu⟩ := C
  revert X; k_fill; intro X
  ((refine wpAny_call ?_; k_dflt (refine' code_def ?k1q200 ?k2q200 ?k3q200 ?k4q200 ?k5q200 ?kAq200 ?kFq200 ?kKq200 ?k6q200 ?k7q200 ?k8q200 ?k9q200 ?kBq200 ?_ ?c2q200 ?c3q200 ?c4q200 ?c5q200; (case kAq200 => exact rfl); (case kFq200 => exact rfl); (case kKq200 => first | exact rfl | assumption); (case k1q200 => k_asm); (case k2q200 => k_asm); (case k3q200 => k_asm); (case k4q200 => k_asm); (case k5q200 => k_asm); (case k6q200 => k_is); (case k7q200 => k_is); (case k8q200 => ktr_room); (case k9q200 => first | exact BindsTo.of_eq rfl | exact binds_K (by k_in) rfl (by k_is) rfl rfl rfl | (refine' kp_binds ?kxq200 ?keq200; (case kxq200 => k_in); (case keq200 => exact fun _ => rfl))); (case c5q200 => decide); (case kBq200 => exact locs rfl); (case c2q200 => exact rfl); (case c3q200 => exact rfl); (case c4q200 => exact rfl); k_whole; intro _ _ _ _ _ _ _ _ _; (try dsimp only); (try k_fold))))
  (repeat' ((fail_if_success ((with_reducible first | show wpAny _ _ (exec (PySem.Stmt.While _ _ _ _) _) _ _ _ | show wpAny _ _ (exec (PySem.Stmt.For _ _ _ _ _) _) _ _ _ | show wpAny _ _ (call (Value.ref _) _ _) _ _ _ | show wpAny _ _ (compareOp CmpOp.Lt (Value.ref _) _) _ _ _ | show wpAny _ _ (compareOp CmpOp.Lt _ (Value.ref _)) _ _ _ | show wpAny _ _ (compareOp CmpOp.Lt (Prod.fst _) _) _ _ _ | show wpAny _ _ (compareOp CmpOp.Lt _ (Prod.fst _)) _ _ _ | show wpAny _ _ (compareOp CmpOp.Eq (Value.ref _) _) _ _ _ | show wpAny _ _ (pyIter _) (fun it s₂ => LoopAtV _ _ _ _ _ _ _ _ _ it s₂) _ _ | show wpAny _ _ (call (Value.builtin "str.split") _ _) _ _ _ | show wpAny _ _ (newList _) _ _ _ | show wpAny _ _ (call (Value.builtin "str.join") _ _) _ _ _ | show wpAny _ _ (call (Value.builtin "list.append") _ _) _ _ _ | show wpAny _ _ (exec (PySem.Stmt.Assign _ (PySem.Expr.ListComp _ _ _ _) _) _) _ _ _ | show wpAny _ _ (eval (PySem.Expr.ListComp _ _ _ _) _) _ _ _ | show wpAny _ _ (binaryOp Operator.Mult (Value.ref _) _) _ _ _ | show wpAny _ _ (subscriptTail _ _ (Value.ref _) (Value.int _ _)) _ _ _ | show wpAny _ _ (getItem (Value.ref _) (Value.int _ _)) _ _ _ | show wpAny _ _ (setItem (Value.ref _) (Value.int _ _) _) _ _ _ | show wpAny _ _ (binaryOp Operator.Add (Value.str _ _) (Value.str _ _)) _ _ _ | show wpAny _ _ (inplaceOp Operator.Add (Value.str _ _) (Value.str _ _)) _ _ _ | show wpAny _ _ (subscriptTail _ (PySem.Expr.Slice _ _ _ _) (Value.ref _) (Value.ref _)) _ _ _ | show wpAny _ _ (call (Value.builtin "sum") _ _) _ _ _ | show wpAny _ _ (binaryOp Operator.Mult (Value.str _ _) _) _ _ _ | show wpAny _ _ (compareOp CmpOp.NotIn (Value.str _ _) (Value.str _ _)) _ _ _ | show wpAny _ _ (call (Value.type "str") _ _) _ _ _ | show wpAny _ _ (call (Value.type "builtins.str") _ _) _ _ _ | show wpAny _ _ (binaryOp Operator.Mod (Value.str _ _) _) _ _ _ | show wpAny _ _ (compareOp CmpOp.NotEq (Value.ref _) (Value.ref _)) _ _ _ | show wpAny _ _ (compareOp CmpOp.NotEq (Value.str _ _) (Value.str _ _)) _ _ _))); (first | (k_unfold; (try dsimp only)) | (k_end; wrow_close) | walk1 | (dsimp only; walk1) | (leave1; walk_say "STEP leave1"; try dsimp only) | fail "no step")))
  refine strip_call (by ((refine' Mine.Cx.mk ?cBq203 ?cFq203 ?cXq203 ?cNq203 ?cTq203 ?ckq203 ?cdq203 ?cuq203; (case cBq203 => k_asm); (case cFq203 => k_asm); (case cXq203 => k_asm); (case cNq203 => k_asm); (case cTq203 => k_asm); (case ckq203 => first | exact rfl | assumption); (case cdq203 => ktr_room); (case cuq203 => ktr_units)))) (by intro h; rcases hx _ h with h | h <;> cases h) ?_
  intro t' h1 tk1 F1 N1
  (repeat' ((fail_if_success ((with_reducible first | show wpAny _ _ (exec (PySem.Stmt.While _ _ _ _) _) _ _ _ | show wpAny _ _ (exec (PySem.Stmt.For _ _ _ _ _) _) _ _ _ | show wpAny _ _ (call (Value.ref _) _ _) _ _ _ | show wpAny _ _ (compareOp CmpOp.Lt (Value.ref _) _) _ _ _ | show wpAny _ _ (compareOp CmpOp.Lt _ (Value.ref _)) _ _ _ | show wpAny _ _ (compareOp CmpOp.Lt (Prod.fst _) _) _ _ _ | show wpAny _ _ (compareOp CmpOp.Lt _ (Prod.fst _)) _ _ _ | show wpAny _ _ (compareOp CmpOp.Eq (Value.ref _) _) _ _ _ | show wpAny _ _ (pyIter _) (fun it s₂ => LoopAtV _ _ _ _ _ _ _ _ _ it s₂) _ _ | show wpAny _ _ (call (Value.builtin "str.split") _ _) _ _ _ | show wpAny _ _ (newList _) _ _ _ | show wpAny _ _ (call (Value.builtin "str.join") _ _) _ _ _ | show wpAny _ _ (call (Value.builtin "list.append") _ _) _ _ _ | show wpAny _ _ (exec (PySem.Stmt.Assign _ (PySem.Expr.ListComp _ _ _ _) _) _) _ _ _ | show wpAny _ _ (eval (PySem.Expr.ListComp _ _ _ _) _) _ _ _ | show wpAny _ _ (binaryOp Operator.Mult (Value.ref _) _) _ _ _ | show wpAny _ _ (subscriptTail _ _ (Value.ref _) (Value.int _ _)) _ _ _ | show wpAny _ _ (getItem (Value.ref _) (Value.int _ _)) _ _ _ | show wpAny _ _ (setItem (Value.ref _) (Value.int _ _) _) _ _ _ | show wpAny _ _ (binaryOp Operator.Add (Value.str _ _) (Value.str _ _)) _ _ _ | show wpAny _ _ (inplaceOp Operator.Add (Value.str _ _) (Value.str _ _)) _ _ _ | show wpAny _ _ (subscriptTail _ (PySem.Expr.Slice _ _ _ _) (Value.ref _) (Value.ref _)) _ _ _ | show wpAny _ _ (call (Value.builtin "sum") _ _) _ _ _ | show wpAny _ _ (binaryOp Operator.Mult (Value.str _ _) _) _ _ _ | show wpAny _ _ (compareOp CmpOp.NotIn (Value.str _ _) (Value.str _ _)) _ _ _ | show wpAny _ _ (call (Value.type "str") _ _) _ _ _ | show wpAny _ _ (call (Value.type "builtins.str") _ _) _ _ _ | show wpAny _ _ (binaryOp Operator.Mod (Value.str _ _) _) _ _ _ | show wpAny _ _ (compareOp CmpOp.NotEq (Value.ref _) (Value.ref _)) _ _ _ | show wpAny _ _ (compareOp CmpOp.NotEq (Value.str _ _) (Value.str _ _)) _ _ _))); (first | (k_unfold; (try dsimp only)) | (k_end; wrow_close) | walk1 | (dsimp only; walk1) | (leave1; walk_say "STEP leave1"; try dsimp only) | fail "no step")))
  refine wpAny_For ?_
  (repeat' ((fail_if_success ((with_reducible first | show wpAny _ _ (exec (PySem.Stmt.While _ _ _ _) _) _ _ _ | show wpAny _ _ (exec (PySem.Stmt.For _ _ _ _ _) _) _ _ _ | show wpAny _ _ (call (Value.ref _) _ _) _ _ _ | show wpAny _ _ (compareOp CmpOp.Lt (Value.ref _) _) _ _ _ | show wpAny _ _ (compareOp CmpOp.Lt _ (Value.ref _)) _ _ _ | show wpAny _ _ (compareOp CmpOp.Lt (Prod.fst _) _) _ _ _ | show wpAny _ _ (compareOp CmpOp.Lt _ (Prod.fst _)) _ _ _ | show wpAny _ _ (compareOp CmpOp.Eq (Value.ref _) _) _ _ _ | show wpAny _ _ (pyIter _) (fun it s₂ => LoopAtV _ _ _ _ _ _ _ _ _ it s₂) _ _ | show wpAny _ _ (call (Value.builtin "str.split") _ _) _ _ _ | show wpAny _ _ (newList _) _ _ _ | show wpAny _ _ (call (Value.builtin "str.join") _ _) _ _ _ | show wpAny _ _ (call (Value.builtin "list.append") _ _) _ _ _ | show wpAny _ _ (exec (PySem.Stmt.Assign _ (PySem.Expr.ListComp _ _ _ _) _) _) _ _ _ | show wpAny _ _ (eval (PySem.Expr.ListComp _ _ _ _) _) _ _ _ | show wpAny _ _ (binaryOp Operator.Mult (Value.ref _) _) _ _ _ | show wpAny _ _ (subscriptTail _ _ (Value.ref _) (Value.int _ _)) _ _ _ | show wpAny _ _ (getItem (Value.ref _) (Value.int _ _)) _ _ _ | show wpAny _ _ (setItem (Value.ref _) (Value.int _ _) _) _ _ _ | show wpAny _ _ (binaryOp Operator.Add (Value.str _ _) (Value.str _ _)) _ _ _ | show wpAny _ _ (inplaceOp Operator.Add (Value.str _ _) (Value.str _ _)) _ _ _ | show wpAny _ _ (subscriptTail _ (PySem.Expr.Slice _ _ _ _) (Value.ref _) (Value.ref _)) _ _ _ | show wpAny _ _ (call (Value.builtin "sum") _ _) _ _ _ | show wpAny _ _ (binaryOp Operator.Mult (Value.str _ _) _) _ _ _ | show wpAny _ _ (compareOp CmpOp.NotIn (Value.str _ _) (Value.str _ _)) _ _ _ | show wpAny _ _ (call (Value.type "str") _ _) _ _ _ | show wpAny _ _ (call (Value.type "builtins.str") _ _) _ _ _ | show wpAny _ _ (binaryOp Operator.Mod (Value.str _ _) _) _ _ _ | show wpAny _ _ (compareOp CmpOp.NotEq (Value.ref _) (Value.ref _)) _ _ _ | show wpAny _ _ (compareOp CmpOp.NotEq (Value.str _ _) (Value.str _ _)) _ _ _))); (first | (k_unfold; (try dsimp only)) | (k_end; wrow_close) | walk1 | (dsimp only; walk1) | (leave1; walk_say "STEP leave1"; try dsimp only) | fail "no step")))
  refine gen_call (by ((refine' Mine.Cx.mk ?cBq208 ?cFq208 ?cXq208 ?cNq208 ?cTq208 ?ckq208 ?cdq208 ?cuq208; (case cBq208 => k_asm); (case cFq208 => k_asm); (case cXq208 => k_asm); (case cNq208 => k_asm); (case cTq208 => k_asm); (case ckq208 => first | exact rfl | assumption); (case cdq208 => ktr_room); (case cuq208 => ktr_units)))) hx ?_
  intro c h2 tk2 gs fp hLc hnc F2 N2 hk2 hg hb hfp hgo
  try dsimp only at *
  refine wpAny_pyIter_gen hg ?_
  refine forGen (xs := x.cps.toList) (G := s.gens) (news := news) rfl (by ktr_room) (by rename Top _ _ _ _ _ _ => TT; exact TT.nolimit) rfl rfl rfl rfl (by decide) hLc hnc
    (fun i m => ∃ o tk, m (Str.ofString "opens") = some (.int o tk) ∧ chk o (x.cps.toList.drop i) = chk 0 x.cps.toList) ?turn ?done x.cps.size 0 _ _ _ gs fp (by simp) ⟨0, _, rfl, rfl⟩ hb F2 N2 hg hfp (hgo _ rfl)
  case turn =>
    rintro i ch t₁ t₂ m h tk gs own E' hch ⟨o, to, hm, hI⟩ hb F N
    have hch' := hx ch (List.mem_of_getElem? hch)
    have hdr : x.cps.toList.drop i = ch :: x.cps.toList.drop (i + 1) := by
      obtain ⟨hlt, e⟩ := List.getElem?_eq_some_iff.mp hch
      rw [List.drop_eq_getElem_cons hlt, e]
    rw [hdr] at hI
    rw [m_eq1 hm] at F
    dsimp only [envOf] at F N
    clear F2 N2 hfp hgo hk2 hLc hnc hg hm hch hdr
    rcases hch' with rfl | rfl
    · (repeat' ((fail_if_success ((with_reducible first | show wpAny _ _ (exec (PySem.Stmt.While _ _ _ _) _) _ _ _ | show wpAny _ _ (exec (PySem.Stmt.For _ _ _ _ _) _) _ _ _ | show wpAny _ _ (call (Value.ref _) _ _) _ _ _ | show wpAny _ _ (compareOp CmpOp.Lt (Value.ref _) _) _ _ _ | show wpAny _ _ (compareOp CmpOp.Lt _ (Value.ref _)) _ _ _ | show wpAny _ _ (compareOp CmpOp.Lt (Prod.fst _) _) _ _ _ | show wpAny _ _ (compareOp CmpOp.Lt _ (Prod.fst _)) _ _ _ | show wpAny _ _ (compareOp CmpOp.Eq (Value.ref _) _) _ _ _ | show wpAny _ _ (pyIter _) (fun it s₂ => LoopAtV _ _ _ _ _ _ _ _ _ it s₂) _ _ | show wpAny _ _ (call (Value.builtin "str.split") _ _) _ _ _ | show wpAny _ _ (newList _) _ _ _ | show wpAny _ _ (call (Value.builtin "str.join") _ _) _ _ _ | show wpAny _ _ (call (Value.builtin "list.append") _ _) _ _ _ | show wpAny _ _ (exec (PySem.Stmt.Assign _ (PySem.Expr.ListComp _ _ _ _) _) _) _ _ _ | show wpAny _ _ (eval (PySem.Expr.ListComp _ _ _ _) _) _ _ _ | show wpAny _ _ (binaryOp Operator.Mult (Value.ref _) _) _ _ _ | show wpAny _ _ (subscriptTail _ _ (Value.ref _) (Value.int _ _)) _ _ _ | show wpAny _ _ (getItem (Value.ref _) (Value.int _ _)) _ _ _ | show wpAny _ _ (setItem (Value.ref _) (Value.int _ _) _) _ _ _ | show wpAny _ _ (binaryOp Operator.Add (Value.str _ _) (Value.str _ _)) _ _ _ | show wpAny _ _ (inplaceOp Operator.Add (Value.str _ _) (Value.str _ _)) _ _ _ | show wpAny _ _ (subscriptTail _ (PySem.Expr.Slice _ _ _ _) (Value.ref _) (Value.ref _)) _ _ _ | show wpAny _ _ (call (Value.builtin "sum") _ _) _ _ _ | show wpAny _ _ (binaryOp Operator.Mult (Value.str _ _) _) _ _ _ | show wpAny _ _ (compareOp CmpOp.NotIn (Value.str _ _) (Value.str _ _)) _ _ _ | show wpAny _ _ (call (Value.type "str") _ _) _ _ _ | show wpAny _ _ (call (Value.type "builtins.str") _ _) _ _ _ | show wpAny _ _ (binaryOp Operator.Mod (Value.str _ _) _) _ _ _ | show wpAny _ _ (compareOp CmpOp.NotEq (Value.ref _) (Value.ref _)) _ _ _ | show wpAny _ _ (compareOp CmpOp.NotEq (Value.str _ _) (Value.str _ _)) _ _ _))); (first | (k_unfold; (try dsimp only)) | (k_end; wrow_close) | walk1 | (dsimp only; walk1) | (leave1; walk_say "STEP leave1"; try dsimp only) | fail "no step")))
      refine GenNext.intro (by k_asm) (by k_asm) ⟨_, _, rfl, ?_⟩; simpa [chk] using hI
    · (repeat' ((fail_if_success ((with_reducible first | show wpAny _ _ (exec (PySem.Stmt.While _ _ _ _) _) _ _ _ | show wpAny _ _ (exec (PySem.Stmt.For _ _ _ _ _) _) _ _ _ | show wpAny _ _ (call (Value.ref _) _ _) _ _ _ | show wpAny _ _ (compareOp CmpOp.Lt (Value.ref _) _) _ _ _ | show wpAny _ _ (compareOp CmpOp.Lt _ (Value.ref _)) _ _ _ | show wpAny _ _ (compareOp CmpOp.Lt (Prod.fst _) _) _ _ _ | show wpAny _ _ (compareOp CmpOp.Lt _ (Prod.fst _)) _ _ _ | show wpAny _ _ (compareOp CmpOp.Eq (Value.ref _) _) _ _ _ | show wpAny _ _ (pyIter _) (fun it s₂ => LoopAtV _ _ _ _ _ _ _ _ _ it s₂) _ _ | show wpAny _ _ (call (Value.builtin "str.split") _ _) _ _ _ | show wpAny _ _ (newList _) _ _ _ | show wpAny _ _ (call (Value.builtin "str.join") _ _) _ _ _ | show wpAny _ _ (call (Value.builtin "list.append") _ _) _ _ _ | show wpAny _ _ (exec (PySem.Stmt.Assign _ (PySem.Expr.ListComp _ _ _ _) _) _) _ _ _ | show wpAny _ _ (eval (PySem.Expr.ListComp _ _ _ _) _) _ _ _ | show wpAny _ _ (binaryOp Operator.Mult (Value.ref _) _) _ _ _ | show wpAny _ _ (subscriptTail _ _ (Value.ref _) (Value.int _ _)) _ _ _ | show wpAny _ _ (getItem (Value.ref _) (Value.int _ _)) _ _ _ | show wpAny _ _ (setItem (Value.ref _) (Value.int _ _) _) _ _ _ | show wpAny _ _ (binaryOp Operator.Add (Value.str _ _) (Value.str _ _)) _ _ _ | show wpAny _ _ (inplaceOp Operator.Add (Value.str _ _) (Value.str _ _)) _ _ _ | show wpAny _ _ (subscriptTail _ (PySem.Expr.Slice _ _ _ _) (Value.ref _) (Value.ref _)) _ _ _ | show wpAny _ _ (call (Value.builtin "sum") _ _) _ _ _ | show wpAny _ _ (binaryOp Operator.Mult (Value.str _ _) _) _ _ _ | show wpAny _ _ (compareOp CmpOp.NotIn (Value.str _ _) (Value.str _ _)) _ _ _ | show wpAny _ _ (call (Value.type "str") _ _) _ _ _ | show wpAny _ _ (call (Value.type "builtins.str") _ _) _ _ _ | show wpAny _ _ (binaryOp Operator.Mod (Value.str _ _) _) _ _ _ | show wpAny _ _ (compareOp CmpOp.NotEq (Value.ref _) (Value.ref _)) _ _ _ | show wpAny _ _ (compareOp CmpOp.NotEq (Value.str _ _) (Value.str _ _)) _ _ _))); (first | (k_unfold; (try dsimp only)) | (k_end; wrow_close) | walk1 | (dsimp only; walk1) | (leave1; walk_say "STEP leave1"; try dsimp only) | fail "no step")))
      · have e : chk 0 x.cps.toList = false := by
          rw [← hI]
          rename o - 1 < 0 => ho
          simp [chk, ho]
        rw [← e]
        rename News h₀ L _ (_ ++ _) => N₂
        exact hret _ _ _ hb (by assumption) fun p hp => N₂ p (List.mem_append_left _ hp)
      · rename ¬ o - 1 < 0 => ho
        refine GenNext.intro (by k_asm) (by k_asm) ⟨_, _, rfl, ?_⟩; rw [← hI]; simp only [chk, ho]; simp
  case done =>
    rintro m h tk gs ⟨o, to, hm, hI⟩ hb F N
    rw [m_eq1 hm] at F
    dsimp only [envOf] at F N
    clear F2 N2 hfp hgo hk2 hLc hnc hg hm
    dsimp only
    k_steps
    have e : (o == 0) = chk 0 x.cps.toList := by
      rw [← hI, List.drop_length]; simp [chk]; rfl
    rw [e]
    exact hret _ _ _ hb (by assumption) (by assumption)

end
end Mine
namespace Mine
--PLAIN
noncomputable def ListNext (h₀ : Heap) (L : Addr) (own : List (Addr × Obj)) (BP : Array GenState → Prop) (s : Shared) (J : (Str → Option Value) → List (Addr × Obj) → Prop) (s₃ : Shared) : Prop :=
  ∃ h' tk' g' m' ns', s₃ = { s with heap := h', toks := tk', gens := g' } ∧ BP g' ∧ Fr h₀ L h' m' ∧ News h₀ L h' (ns' ++ own) ∧ J m' ns'
theorem ListNext.intro {h₀ : Heap} {L : Addr} {own ns' news : List (Addr × Obj)} {BP : Array GenState → Prop} {s : Shared} {J : (Str → Option Value) → List (Addr × Obj) → Prop} {h' : Heap} {tk' : Nat} {g' : Array GenState} {m' : Str → Option Value} (F : Fr h₀ L h' m') (N : News h₀ L h' news) (hB : BP g') (h1 : ∀ p ∈ ns', p ∈ news) (h2 : ∀ p ∈ own, p ∈ news) (hJ : J m' ns') :
    ListNext h₀ L own BP s J { s with heap := h', toks := tk', gens := g' } := ⟨h', tk', g', m', ns', rfl, hB, F, fun p hp => N p ((List.mem_append.mp hp).elim (h1 p) (h2 p)), hJ⟩
section
variable {w : World} {A : Around} {h₀ : Heap} {L : Nat} {xa : Str} {pa : Pos} {body : List Stmt} {env : Env} {s : Shared} {Q : Flow → Shared → Prop} {EE EI : Value → Shared → Prop}
theorem forListG {l : Addr} {vs : Array Value} {as : List Addr} {BP : Array GenState → Prop} (hh : A.handled = none) (hxa : env.kindOf xa = some .local)
    (hp : (env.scope.kind == .class || (env.scope.kind == .module && env.locals != env.globals)) = false) (hloc : env.locals = L)
    (I : Nat → (Str → Option Value) → List (Addr × Obj) → Prop) (hIl : ∀ i m ns, I i m ns → ns.map (·.1) = as ∧ ∃ n, (l, listOf vs n) ∈ ns)
    (turn : ∀ i v m ns h tk g own E', vs[i]? = some v → I i m ns → BP g → Fr h₀ L h (fun y => if y = xa then some v else m y) → News h₀ L h (ns ++ own) → (∀ p ∈ own, ∀ b ∈ as, p.1 ≠ b) →
      wpAny (model PySem.Challenge.rw_wu0073_01.row.prog w) A (execs body env) (fun f s₃ => match f with
        | .next | .cont => ListNext h₀ L own BP s (I (i + 1)) s₃
        | .brk => Q .next s₃
        | .ret v => Q (.ret v) s₃) E' { s with heap := h, toks := tk, gens := g })
    (done : ∀ m ns h tk g, I vs.size m ns → BP g → Fr h₀ L h m → News h₀ L h ns → Q .next { s with heap := h, toks := tk, gens := g })
    {m : Str → Option Value} {ns : List (Addr × Obj)} {h : Heap} {tk : Nat} {g : Array GenState} (h0 : I 0 m ns) (hB : BP g) (F : Fr h₀ L h m) (N : News h₀ L h ns) :
    wpAny (model PySem.Challenge.rw_wu0073_01.row.prog w) A (pyIter (.ref l)) (fun it s₂ => codeAny (model PySem.Challenge.rw_wu0073_01.row.prog w) A (.forLoop (.Name xa pa) it body [] env) (fun r s' => match r with | .ok f => Q f s' | .error e => EE e s') s₂) EI { s with heap := h, toks := tk, gens := g } := by
  obtain ⟨has, n₀, hl₀⟩ := hIl _ _ _ h0
  have islist : ∀ {h : Heap} {ns : List (Addr × Obj)} {n : Nat}, News h₀ L h ns → (l, listOf vs n) ∈ ns → h.IsList l vs := fun N hm => ⟨_, (N _ hm).1, rfl, _, rfl⟩
  refine wpAny_pyIter_list (islist N hl₀) ?_
  dsimp only
  generalize hit : h.objs.size = it
  have hlt : ∀ b ∈ as, b < it := by
    intro b hb
    rw [← has] at hb
    obtain ⟨p, hp, rfl⟩ := List.mem_map.mp hb
    rw [← hit]; exact Heap.lt_size (N p hp).1
  have hLit : L < it := by obtain ⟨o, es, ep, e, _⟩ := F.ns; rw [← hit]; exact Heap.lt_size e
  have hbit : h₀.objs.size < it := Nat.lt_of_le_of_lt F.above hLit
  refine codeAny_forLoop_any (fun k s₁ => ∃ i m ns h tk g, i + k = vs.size ∧ I i m ns ∧ BP g ∧ Fr h₀ L h m ∧ News h₀ L h ns ∧ h.IsListIter it l i ∧ s₁ = { s with heap := h, toks := tk, gens := g }) ?_ vs.size
    ⟨0, m, ns, _, tk, g, by omega, h0, hB, ⟨F.ns.push _, fun b o e => Heap.get?_push_of_some _ (F.keep b o e), F.above⟩, fun p hp => ⟨Heap.get?_push_of_some _ (N p hp).1, (N p hp).2⟩, ⟨_, hit ▸ Heap.get?_push_size h rfl, rfl, rfl⟩, rfl⟩
  clear hB F N hl₀ has h0 hit
  rintro k s₁ ⟨i, m, ns, h, tk, g, hk, hI, hB, F, N, hit, rfl⟩
  obtain ⟨has, n, hl⟩ := hIl _ _ _ hI
  have hne : ∀ p ∈ ns, p.1 ≠ it := fun p hp => Nat.ne_of_lt (hlt _ (has ▸ List.mem_map_of_mem hp))
  have hb3 : ∀ {b : Addr} {o : Obj}, h₀.get? b = some o → b ≠ it := fun e => Nat.ne_of_lt (Nat.lt_trans (Heap.lt_size e) hbit)
  cases k with
  | zero =>
    have hi : i = vs.size := by omega
    subst hi
    refine wpAny_pyNext_list_end hh hit (islist N hl) (by simp) fun h' hx => wpAny_pure ?_
    exact done m ns h' tk g hI hB ⟨F.ns.at' fun o e => hx _ _ (Nat.ne_of_lt hLit) e, fun b o e => hx b o (hb3 e) (F.keep b o e), F.above⟩ fun p hp => ⟨hx _ _ (hne p hp) (N p hp).1, (N p hp).2⟩
  | succ k =>
    have hi : i < vs.size := by omega
    refine wpAny_pyNext_list_item hit (islist N hl) (x := vs[i]) (by simp [hi]) fun h' hit' hs => ?_
    replace hs : Heap.SameBut it h h' := hs
    show wpAny _ A (letOwnedTupleGo (.Name xa pa) (.ref it) _) _ _ _
    refine wpAny_pure ?_
    refine wpAny_assign_Name (wpAny_storeName_local hxa (by rw [hloc]; exact F.ns.at' fun o e => hs.extBut _ _ (Nat.ne_of_lt hLit) e) (fun h₂ hn₂ hs₂ => ?_) hp)
    replace hs₂ : Heap.SameBut env.locals h' h₂ := hs₂
    rw [hloc] at hs₂ hn₂
    have hx : ∀ b o, b ≠ L → b ≠ it → h.get? b = some o → h₂.get? b = some o := fun b o h1 h2 e => hs₂.extBut b o h1 (hs.extBut b o h2 e)
    have F₂ : Fr h₀ L h₂ _ := ⟨hn₂, fun b o e => hx b o (Nat.ne_of_lt (Nat.lt_of_lt_of_le (Heap.lt_size e) F.above)) (hb3 e) (F.keep b o e), F.above⟩
    obtain ⟨oi, hoi, hir⟩ := hit'
    have N₂ : News h₀ L h₂ (ns ++ [(it, oi)]) := by
      intro p hp
      rcases List.mem_append.mp hp with hp | hp
      · exact ⟨hx _ _ (N p hp).2.1 (hne p hp) (N p hp).1, (N p hp).2⟩
      · rcases List.mem_singleton.mp hp with rfl
        exact ⟨hs₂.extBut _ _ (Nat.ne_of_gt hLit) hoi, Nat.ne_of_gt hLit, Heap.get?_none_of_le (Nat.le_of_lt hbit)⟩
    refine wpAny_mono (turn i vs[i] m ns h₂ _ g [(it, oi)] _ (by simp [hi]) hI hB F₂ N₂ (fun p hp b hb => by rcases List.mem_singleton.mp hp with rfl; exact Nat.ne_of_gt (hlt b hb))) (fun f s₃ hf => ?_) fun _ _ e => e
    have nx : ListNext h₀ L [(it, oi)] BP s (I (i + 1)) s₃ → ∃ k', k' < k + 1 ∧ ∃ i m ns h tk g, i + k' = vs.size ∧ I i m ns ∧ BP g ∧ Fr h₀ L h m ∧ News h₀ L h ns ∧ h.IsListIter it l i ∧ s₃ = { s with heap := h, toks := tk, gens := g } := by
      rintro ⟨h', tk', g', m', ns', rfl, hB', F', N', hI'⟩
      exact ⟨k, by omega, i + 1, m', ns', h', tk', g', by omega, hI', hB', F', fun p hp => N' p (List.mem_append_left _ hp), ⟨oi, (N' (it, oi) (List.mem_append_right _ (List.mem_singleton_self _))).1, hir⟩, rfl⟩
    cases f with
    | next => exact nx hf
    | cont => exact nx hf
    | brk => exact hf
    | ret v => exact hf
end

end Mine
namespace Mine
section
variable {w : World} {dp un : Nat} {gd : Option (List Code)} {cn : Str} {cs : Scope} {a : Addr} {ccd : Value} {cl : List (Str × Addr)} {outer : List Env} {A₀ : Around} {base h₀ : Heap} {L : Addr} {m : Str → Option Value} {news : List (Addr × Obj)} {s : Shared} {loose : List Str} {mean : ExcName → Option Value} {mg mb : Str → Option Value} {Q E : Value → Shared → Prop}

/-- what _pre_parse_validation puts for a text -/
noncomputable def keptOf (x : Str) : Str := if chk 0 x.cps.toList then x else Str.ofString "('', '')"
theorem pre_next {own : List (Addr × Obj)} {BP : Array GenState → Prop} {h' : Heap} {tk' : Nat} {g' : Array GenState} {m' : Str → Option Value} {r : Addr} {acc ll : List (Str × Tok)} {y : Str} {t : Tok} {n7 i : Nat}
    (F : Fr h₀ L h' m') (N : News h₀ L h' ((r, listOf (strValues acc ++ [Value.str y t]).toArray n7) :: (news ++ own))) (hB : BP g') (hm : m' (Str.ofString "accepted_values") = some (.ref r))
    (hI : (acc ++ [(y, t)]).map (·.1) = (ll.take (i + 1)).map (fun p => keptOf p.1)) :
    ListNext h₀ L own BP s (fun m ns => ∃ acc n', m (Str.ofString "accepted_values") = some (.ref r) ∧ ns = (r, listOf (strValues acc).toArray n') :: news ∧ acc.map (·.1) = (ll.take (i + 1)).map (fun p => keptOf p.1)) { s with heap := h', toks := tk', gens := g' } := by
  refine ListNext.intro (ns' := (r, listOf (strValues (acc ++ [(y, t)])).toArray n7) :: news) F N hB ?_ (fun p hp => .tail _ (List.mem_append_right news hp)) ⟨acc ++ [(y, t)], n7, hm, rfl, hI⟩
  intro p hp
  rcases List.mem_cons.mp hp with rfl | hp
  · simp only [strValues, List.map_append, List.map_cons, List.map_nil]; exact .head _
  · exact .tail _ (List.mem_append_left own hp)
set_option maxRecDepth 100000 in
set_option maxHeartbeats 8000000 in
theorem pre_call {l : Addr} {ll : List (Str × Tok)} {n : Nat}
    (C : Cx w 4 dp un cs A₀ base outer h₀ L m news loose mean mg mb s.heap) (hl : (l, listOf (strValues ll).toArray n) ∈ news) (hlen : ll.length ≤ 10)
    (hx : ∀ p ∈ ll, ∀ c ∈ p.1.cps.toList, c = 40 ∨ c = 41) (hB : ∀ y ∈ s.gens, y.bare = true)
    (hret : ∀ r ll' n' h' tk' g', (∀ y ∈ g', y.bare = true) → ll'.map (·.1) = ll.map (fun p => keptOf p.1) → Fr h₀ L h' m → News h₀ L h' ((r, listOf (strValues ll').toArray n') :: news) → Q (.ref r) {s with heap := h', toks := tk', gens := g'}) :
    wpAny (model PySem.Challenge.rw_wu0073_01.row.prog w) (ktrTop dp un gd cn cs L a ccd cl outer) (call (.ref 69) [.ref l]) Q E s := by
  obtain ⟨B, F, X, N, T, hk, hdp, hu⟩ := C
  revert X; k_fill; intro X
  ((refine wpAny_call ?_; k_dflt (refine' code_def ?k1q213 ?k2q213 ?k3q213 ?k4q213 ?k5q213 ?kAq213 ?kFq213 ?kKq213 ?k6q213 ?k7q213 ?k8q213 ?k9q213 ?kBq213 ?_ ?c2q213 ?c3q213 ?c4q213 ?c5q213; (case kAq213 => exact rfl); (case kFq213 => exact rfl); (case kKq213 => first | exact rfl | assumption); (case k1q213 => k_asm); (case k2q213 => k_asm); (case k3q213 => k_asm); (case k4q213 => k_asm); (case k5q213 => k_asm); (case k6q213 => k_is); (case k7q213 => k_is); (case k8q213 => ktr_room); (case k9q213 => first | exact BindsTo.of_eq rfl | exact binds_K (by k_in) rfl (by k_is) rfl rfl rfl | (refine' kp_binds ?kxq213 ?keq213; (case kxq213 => k_in); (case keq213 => exact fun _ => rfl))); (case c5q213 => decide); (case kBq213 => exact locs rfl); (case c2q213 => exact rfl); (case c3q213 => exact rfl); (case c4q213 => exact rfl); k_whole; intro _ _ _ _ _ _ _ _ _; (try dsimp only); (try k_fold))))
  (repeat' ((fail_if_success ((with_reducible first | show wpAny _ _ (exec (PySem.Stmt.While _ _ _ _) _) _ _ _ | show wpAny _ _ (exec (PySem.Stmt.For _ _ _ _ _) _) _ _ _ | show wpAny _ _ (call (Value.ref _) _ _) _ _ _ | show wpAny _ _ (compareOp CmpOp.Lt (Value.ref _) _) _ _ _ | show wpAny _ _ (compareOp CmpOp.Lt _ (Value.ref _)) _ _ _ | show wpAny _ _ (compareOp CmpOp.Lt (Prod.fst _) _) _ _ _ | show wpAny _ _ (compareOp CmpOp.Lt _ (Prod.fst _)) _ _ _ | show wpAny _ _ (compareOp CmpOp.Eq (Value.ref _) _) _ _ _ | show wpAny _ _ (pyIter _) (fun it s₂ => LoopAtV _ _ _ _ _ _ _ _ _ it s₂) _ _ | show wpAny _ _ (call (Value.builtin "str.split") _ _) _ _ _ | show wpAny _ _ (newList _) _ _ _ | show wpAny _ _ (call (Value.builtin "str.join") _ _) _ _ _ | show wpAny _ _ (call (Value.builtin "list.append") _ _) _ _ _ | show wpAny _ _ (exec (PySem.Stmt.Assign _ (PySem.Expr.ListComp _ _ _ _) _) _) _ _ _ | show wpAny _ _ (eval (PySem.Expr.ListComp _ _ _ _) _) _ _ _ | show wpAny _ _ (binaryOp Operator.Mult (Value.ref _) _) _ _ _ | show wpAny _ _ (subscriptTail _ _ (Value.ref _) (Value.int _ _)) _ _ _ | show wpAny _ _ (getItem (Value.ref _) (Value.int _ _)) _ _ _ | show wpAny _ _ (setItem (Value.ref _) (Value.int _ _) _) _ _ _ | show wpAny _ _ (binaryOp Operator.Add (Value.str _ _) (Value.str _ _)) _ _ _ | show wpAny _ _ (inplaceOp Operator.Add (Value.str _ _) (Value.str _ _)) _ _ _ | show wpAny _ _ (subscriptTail _ (PySem.Expr.Slice _ _ _ _) (Value.ref _) (Value.ref _)) _ _ _ | show wpAny _ _ (call (Value.builtin "sum") _ _) _ _ _ | show wpAny _ _ (binaryOp Operator.Mult (Value.str _ _) _) _ _ _ | show wpAny _ _ (compareOp CmpOp.NotIn (Value.str _ _) (Value.str _ _)) _ _ _ | show wpAny _ _ (call (Value.type "str") _ _) _ _ _ | show wpAny _ _ (call (Value.type "builtins.str") _ _) _ _ _ | show wpAny _ _ (binaryOp Operator.Mod (Value.str _ _) _) _ _ _ | show wpAny _ _ (compareOp CmpOp.NotEq (Value.ref _) (Value.ref _)) _ _ _ | show wpAny _ _ (compareOp CmpOp.NotEq (Value.str _ _) (Value.str _ _)) _ _ _))); (first | (k_unfold; (try dsimp only)) | (k_end; wrow_close) | walk1 | (dsimp only; walk1) | (leave1; walk_say "STEP leave1"; try dsimp only) | fail "no step")))
  refine newList_K (by k_asm) (by k_asm) ?_
  intro r h2 F2 N2 hne2
  (repeat' ((fail_if_success ((with_reducible first | show wpAny _ _ (exec (PySem.Stmt.While _ _ _ _) _) _ _ _ | show wpAny _ _ (exec (PySem.Stmt.For _ _ _ _ _) _) _ _ _ | show wpAny _ _ (call (Value.ref _) _ _) _ _ _ | show wpAny _ _ (compareOp CmpOp.Lt (Value.ref _) _) _ _ _ | show wpAny _ _ (compareOp CmpOp.Lt _ (Value.ref _)) _ _ _ | show wpAny _ _ (compareOp CmpOp.Lt (Prod.fst _) _) _ _ _ | show wpAny _ _ (compareOp CmpOp.Lt _ (Prod.fst _)) _ _ _ | show wpAny _ _ (compareOp CmpOp.Eq (Value.ref _) _) _ _ _ | show wpAny _ _ (pyIter _) (fun it s₂ => LoopAtV _ _ _ _ _ _ _ _ _ it s₂) _ _ | show wpAny _ _ (call (Value.builtin "str.split") _ _) _ _ _ | show wpAny _ _ (newList _) _ _ _ | show wpAny _ _ (call (Value.builtin "str.join") _ _) _ _ _ | show wpAny _ _ (call (Value.builtin "list.append") _ _) _ _ _ | show wpAny _ _ (exec (PySem.Stmt.Assign _ (PySem.Expr.ListComp _ _ _ _) _) _) _ _ _ | show wpAny _ _ (eval (PySem.Expr.ListComp _ _ _ _) _) _ _ _ | show wpAny _ _ (binaryOp Operator.Mult (Value.ref _) _) _ _ _ | show wpAny _ _ (subscriptTail _ _ (Value.ref _) (Value.int _ _)) _ _ _ | show wpAny _ _ (getItem (Value.ref _) (Value.int _ _)) _ _ _ | show wpAny _ _ (setItem (Value.ref _) (Value.int _ _) _) _ _ _ | show wpAny _ _ (binaryOp Operator.Add (Value.str _ _) (Value.str _ _)) _ _ _ | show wpAny _ _ (inplaceOp Operator.Add (Value.str _ _) (Value.str _ _)) _ _ _ | show wpAny _ _ (subscriptTail _ (PySem.Expr.Slice _ _ _ _) (Value.ref _) (Value.ref _)) _ _ _ | show wpAny _ _ (call (Value.builtin "sum") _ _) _ _ _ | show wpAny _ _ (binaryOp Operator.Mult (Value.str _ _) _) _ _ _ | show wpAny _ _ (compareOp CmpOp.NotIn (Value.str _ _) (Value.str _ _)) _ _ _ | show wpAny _ _ (call (Value.type "str") _ _) _ _ _ | show wpAny _ _ (call (Value.type "builtins.str") _ _) _ _ _ | show wpAny _ _ (binaryOp Operator.Mod (Value.str _ _) _) _ _ _ | show wpAny _ _ (compareOp CmpOp.NotEq (Value.ref _) (Value.ref _)) _ _ _ | show wpAny _ _ (compareOp CmpOp.NotEq (Value.str _ _) (Value.str _ _)) _ _ _))); (first | (k_unfold; (try dsimp only)) | (k_end; wrow_close) | walk1 | (dsimp only; walk1) | (leave1; walk_say "STEP leave1"; try dsimp only) | fail "no step")))
  refine wpAny_For ?_
  (repeat' ((fail_if_success ((with_reducible first | show wpAny _ _ (exec (PySem.Stmt.While _ _ _ _) _) _ _ _ | show wpAny _ _ (exec (PySem.Stmt.For _ _ _ _ _) _) _ _ _ | show wpAny _ _ (call (Value.ref _) _ _) _ _ _ | show wpAny _ _ (compareOp CmpOp.Lt (Value.ref _) _) _ _ _ | show wpAny _ _ (compareOp CmpOp.Lt _ (Value.ref _)) _ _ _ | show wpAny _ _ (compareOp CmpOp.Lt (Prod.fst _) _) _ _ _ | show wpAny _ _ (compareOp CmpOp.Lt _ (Prod.fst _)) _ _ _ | show wpAny _ _ (compareOp CmpOp.Eq (Value.ref _) _) _ _ _ | show wpAny _ _ (pyIter _) (fun it s₂ => LoopAtV _ _ _ _ _ _ _ _ _ it s₂) _ _ | show wpAny _ _ (call (Value.builtin "str.split") _ _) _ _ _ | show wpAny _ _ (newList _) _ _ _ | show wpAny _ _ (call (Value.builtin "str.join") _ _) _ _ _ | show wpAny _ _ (call (Value.builtin "list.append") _ _) _ _ _ | show wpAny _ _ (exec (PySem.Stmt.Assign _ (PySem.Expr.ListComp _ _ _ _) _) _) _ _ _ | show wpAny _ _ (eval (PySem.Expr.ListComp _ _ _ _) _) _ _ _ | show wpAny _ _ (binaryOp Operator.Mult (Value.ref _) _) _ _ _ | show wpAny _ _ (subscriptTail _ _ (Value.ref _) (Value.int _ _)) _ _ _ | show wpAny _ _ (getItem (Value.ref _) (Value.int _ _)) _ _ _ | show wpAny _ _ (setItem (Value.ref _) (Value.int _ _) _) _ _ _ | show wpAny _ _ (binaryOp Operator.Add (Value.str _ _) (Value.str _ _)) _ _ _ | show wpAny _ _ (inplaceOp Operator.Add (Value.str _ _) (Value.str _ _)) _ _ _ | show wpAny _ _ (subscriptTail _ (PySem.Expr.Slice _ _ _ _) (Value.ref _) (Value.ref _)) _ _ _ | show wpAny _ _ (call (Value.builtin "sum") _ _) _ _ _ | show wpAny _ _ (binaryOp Operator.Mult (Value.str _ _) _) _ _ _ | show wpAny _ _ (compareOp CmpOp.NotIn (Value.str _ _) (Value.str _ _)) _ _ _ | show wpAny _ _ (call (Value.type "str") _ _) _ _ _ | show wpAny _ _ (call (Value.type "builtins.str") _ _) _ _ _ | show wpAny _ _ (binaryOp Operator.Mod (Value.str _ _) _) _ _ _ | show wpAny _ _ (compareOp CmpOp.NotEq (Value.ref _) (Value.ref _)) _ _ _ | show wpAny _ _ (compareOp CmpOp.NotEq (Value.str _ _) (Value.str _ _)) _ _ _))); (first | (k_unfold; (try dsimp only)) | (k_end; wrow_close) | walk1 | (dsimp only; walk1) | (leave1; walk_say "STEP leave1"; try dsimp only) | fail "no step")))
  refine forListG (vs := (strValues ll).toArray) (as := r :: news.map (·.1)) (BP := fun g => ∀ y ∈ g, y.bare = true) rfl rfl rfl rfl
    (fun i m ns => ∃ acc n', m (Str.ofString "accepted_values") = some (.ref r) ∧ ns = (r, listOf (strValues acc).toArray n') :: news ∧ acc.map (·.1) = (ll.take i).map (fun p => keptOf p.1)) ?hIl ?turn ?done ?h0 hB (by k_asm) (by k_asm)
  case hIl =>
    rintro i m ns ⟨acc, n', _, rfl, _⟩
    exact ⟨rfl, n, .tail _ hl⟩
  case h0 => exact ⟨[], 0, rfl, rfl, rfl⟩
  case turn =>
    rintro i v m ns h tk g own E' hv ⟨acc, n', hm, rfl, hI⟩ hB F N hown
    obtain ⟨⟨y, ty⟩, hy, rfl⟩ := strs_at (by simpa using hv)
    obtain ⟨hi, _⟩ := List.getElem?_eq_some_iff.mp hy
    have hacc : acc.length ≤ 10 := by have := congrArg List.length hI; simp only [List.length_map, List.length_take] at this; omega
    have hy' := hx _ (List.mem_of_getElem? hy)
    rw [m_eq1 hm] at F
    dsimp only [envOf] at F N
    have hne : ∀ p ∈ news ++ own, p.1 ≠ r := fun p hp => (List.mem_append.mp hp).elim (fun h => Nat.ne_of_lt (hne2 p h)) (fun h => hown p h r (List.mem_cons_self ..))
    have hI' : ∀ t : Tok, (acc ++ [(keptOf y, t)]).map (·.1) = (ll.take (i + 1)).map (fun p => keptOf p.1) := by
      intro t
      rw [List.take_add_one, hy, List.map_append, List.map_append, hI]; rfl
    clear hv hx hI hm hret
    (repeat' ((fail_if_success ((with_reducible first | show wpAny _ _ (exec (PySem.Stmt.While _ _ _ _) _) _ _ _ | show wpAny _ _ (exec (PySem.Stmt.For _ _ _ _ _) _) _ _ _ | show wpAny _ _ (call (Value.ref _) _ _) _ _ _ | show wpAny _ _ (compareOp CmpOp.Lt (Value.ref _) _) _ _ _ | show wpAny _ _ (compareOp CmpOp.Lt _ (Value.ref _)) _ _ _ | show wpAny _ _ (compareOp CmpOp.Lt (Prod.fst _) _) _ _ _ | show wpAny _ _ (compareOp CmpOp.Lt _ (Prod.fst _)) _ _ _ | show wpAny _ _ (compareOp CmpOp.Eq (Value.ref _) _) _ _ _ | show wpAny _ _ (pyIter _) (fun it s₂ => LoopAtV _ _ _ _ _ _ _ _ _ it s₂) _ _ | show wpAny _ _ (call (Value.builtin "str.split") _ _) _ _ _ | show wpAny _ _ (newList _) _ _ _ | show wpAny _ _ (call (Value.builtin "str.join") _ _) _ _ _ | show wpAny _ _ (call (Value.builtin "list.append") _ _) _ _ _ | show wpAny _ _ (exec (PySem.Stmt.Assign _ (PySem.Expr.ListComp _ _ _ _) _) _) _ _ _ | show wpAny _ _ (eval (PySem.Expr.ListComp _ _ _ _) _) _ _ _ | show wpAny _ _ (binaryOp Operator.Mult (Value.ref _) _) _ _ _ | show wpAny _ _ (subscriptTail _ _ (Value.ref _) (Value.int _ _)) _ _ _ | show wpAny _ _ (getItem (Value.ref _) (Value.int _ _)) _ _ _ | show wpAny _ _ (setItem (Value.ref _) (Value.int _ _) _) _ _ _ | show wpAny _ _ (binaryOp Operator.Add (Value.str _ _) (Value.str _ _)) _ _ _ | show wpAny _ _ (inplaceOp Operator.Add (Value.str _ _) (Value.str _ _)) _ _ _ | show wpAny _ _ (subscriptTail _ (PySem.Expr.Slice _ _ _ _) (Value.ref _) (Value.ref _)) _ _ _ | show wpAny _ _ (call (Value.builtin "sum") _ _) _ _ _ | show wpAny _ _ (binaryOp Operator.Mult (Value.str _ _) _) _ _ _ | show wpAny _ _ (compareOp CmpOp.NotIn (Value.str _ _) (Value.str _ _)) _ _ _ | show wpAny _ _ (call (Value.type "str") _ _) _ _ _ | show wpAny _ _ (call (Value.type "builtins.str") _ _) _ _ _ | show wpAny _ _ (binaryOp Operator.Mod (Value.str _ _) _) _ _ _ | show wpAny _ _ (compareOp CmpOp.NotEq (Value.ref _) (Value.ref _)) _ _ _ | show wpAny _ _ (compareOp CmpOp.NotEq (Value.str _ _) (Value.str _ _)) _ _ _))); (first | (k_unfold; (try dsimp only)) | (k_end; wrow_close) | walk1 | (dsimp only; walk1) | (leave1; walk_say "STEP leave1"; try dsimp only) | fail "no step")))
    refine check_call (by ((refine' Mine.Cx.mk ?cBq222 ?cFq222 ?cXq222 ?cNq222 ?cTq222 ?ckq222 ?cdq222 ?cuq222; (case cBq222 => k_asm); (case cFq222 => k_asm); (case cXq222 => k_asm); (case cNq222 => k_asm); (case cTq222 => k_asm); (case ckq222 => first | exact rfl | assumption); (case cdq222 => ktr_room); (case cuq222 => ktr_units)))) hy' ?_
    intro h3 tk3 gs hgs F3 N3
    have hB3 : ∀ z ∈ g.push gs, z.bare = true := by
      intro z hz
      rcases Array.mem_push.mp hz with hz | rfl
      · exact hB z hz
      · exact hgs
    cases hc : chk 0 y.cps.toList with
    | true =>
      have hk : keptOf y = y := by unfold keptOf; rw [hc]; rfl
      rw [hk] at hI'
      (repeat' ((fail_if_success ((with_reducible first | show wpAny _ _ (exec (PySem.Stmt.While _ _ _ _) _) _ _ _ | show wpAny _ _ (exec (PySem.Stmt.For _ _ _ _ _) _) _ _ _ | show wpAny _ _ (call (Value.ref _) _ _) _ _ _ | show wpAny _ _ (compareOp CmpOp.Lt (Value.ref _) _) _ _ _ | show wpAny _ _ (compareOp CmpOp.Lt _ (Value.ref _)) _ _ _ | show wpAny _ _ (compareOp CmpOp.Lt (Prod.fst _) _) _ _ _ | show wpAny _ _ (compareOp CmpOp.Lt _ (Prod.fst _)) _ _ _ | show wpAny _ _ (compareOp CmpOp.Eq (Value.ref _) _) _ _ _ | show wpAny _ _ (pyIter _) (fun it s₂ => LoopAtV _ _ _ _ _ _ _ _ _ it s₂) _ _ | show wpAny _ _ (call (Value.builtin "str.split") _ _) _ _ _ | show wpAny _ _ (newList _) _ _ _ | show wpAny _ _ (call (Value.builtin "str.join") _ _) _ _ _ | show wpAny _ _ (call (Value.builtin "list.append") _ _) _ _ _ | show wpAny _ _ (exec (PySem.Stmt.Assign _ (PySem.Expr.ListComp _ _ _ _) _) _) _ _ _ | show wpAny _ _ (eval (PySem.Expr.ListComp _ _ _ _) _) _ _ _ | show wpAny _ _ (binaryOp Operator.Mult (Value.ref _) _) _ _ _ | show wpAny _ _ (subscriptTail _ _ (Value.ref _) (Value.int _ _)) _ _ _ | show wpAny _ _ (getItem (Value.ref _) (Value.int _ _)) _ _ _ | show wpAny _ _ (setItem (Value.ref _) (Value.int _ _) _) _ _ _ | show wpAny _ _ (binaryOp Operator.Add (Value.str _ _) (Value.str _ _)) _ _ _ | show wpAny _ _ (inplaceOp Operator.Add (Value.str _ _) (Value.str _ _)) _ _ _ | show wpAny _ _ (subscriptTail _ (PySem.Expr.Slice _ _ _ _) (Value.ref _) (Value.ref _)) _ _ _ | show wpAny _ _ (call (Value.builtin "sum") _ _) _ _ _ | show wpAny _ _ (binaryOp Operator.Mult (Value.str _ _) _) _ _ _ | show wpAny _ _ (compareOp CmpOp.NotIn (Value.str _ _) (Value.str _ _)) _ _ _ | show wpAny _ _ (call (Value.type "str") _ _) _ _ _ | show wpAny _ _ (call (Value.type "builtins.str") _ _) _ _ _ | show wpAny _ _ (binaryOp Operator.Mod (Value.str _ _) _) _ _ _ | show wpAny _ _ (compareOp CmpOp.NotEq (Value.ref _) (Value.ref _)) _ _ _ | show wpAny _ _ (compareOp CmpOp.NotEq (Value.str _ _) (Value.str _ _)) _ _ _))); (first | (k_unfold; (try dsimp only)) | (k_end; wrow_close) | walk1 | (dsimp only; walk1) | (leave1; walk_say "STEP leave1"; try dsimp only) | fail "no step")))
      refine append_K (by k_asm) (by k_asm) (.head hne) ?_ (by rw [List.size_toArray, strs_len]; have := sizeLine_eq; omega)
      intro h7 F7 N7
      rw [List.push_toArray] at N7
      k_steps
      exact pre_next (by k_asm) (by k_asm) hB3 rfl (hI' _)
    | false =>
      have hk : keptOf y = Str.ofString "('', '')" := by unfold keptOf; rw [hc]; rfl
      rw [hk] at hI'
      (repeat' ((fail_if_success ((with_reducible first | show wpAny _ _ (exec (PySem.Stmt.While _ _ _ _) _) _ _ _ | show wpAny _ _ (exec (PySem.Stmt.For _ _ _ _ _) _) _ _ _ | show wpAny _ _ (call (Value.ref _) _ _) _ _ _ | show wpAny _ _ (compareOp CmpOp.Lt (Value.ref _) _) _ _ _ | show wpAny _ _ (compareOp CmpOp.Lt _ (Value.ref _)) _ _ _ | show wpAny _ _ (compareOp CmpOp.Lt (Prod.fst _) _) _ _ _ | show wpAny _ _ (compareOp CmpOp.Lt _ (Prod.fst _)) _ _ _ | show wpAny _ _ (compareOp CmpOp.Eq (Value.ref _) _) _ _ _ | show wpAny _ _ (pyIter _) (fun it s₂ => LoopAtV _ _ _ _ _ _ _ _ _ it s₂) _ _ | show wpAny _ _ (call (Value.builtin "str.split") _ _) _ _ _ | show wpAny _ _ (newList _) _ _ _ | show wpAny _ _ (call (Value.builtin "str.join") _ _) _ _ _ | show wpAny _ _ (call (Value.builtin "list.append") _ _) _ _ _ | show wpAny _ _ (exec (PySem.Stmt.Assign _ (PySem.Expr.ListComp _ _ _ _) _) _) _ _ _ | show wpAny _ _ (eval (PySem.Expr.ListComp _ _ _ _) _) _ _ _ | show wpAny _ _ (binaryOp Operator.Mult (Value.ref _) _) _ _ _ | show wpAny _ _ (subscriptTail _ _ (Value.ref _) (Value.int _ _)) _ _ _ | show wpAny _ _ (getItem (Value.ref _) (Value.int _ _)) _ _ _ | show wpAny _ _ (setItem (Value.ref _) (Value.int _ _) _) _ _ _ | show wpAny _ _ (binaryOp Operator.Add (Value.str _ _) (Value.str _ _)) _ _ _ | show wpAny _ _ (inplaceOp Operator.Add (Value.str _ _) (Value.str _ _)) _ _ _ | show wpAny _ _ (subscriptTail _ (PySem.Expr.Slice _ _ _ _) (Value.ref _) (Value.ref _)) _ _ _ | show wpAny _ _ (call (Value.builtin "sum") _ _) _ _ _ | show wpAny _ _ (binaryOp Operator.Mult (Value.str _ _) _) _ _ _ | show wpAny _ _ (compareOp CmpOp.NotIn (Value.str _ _) (Value.str _ _)) _ _ _ | show wpAny _ _ (call (Value.type "str") _ _) _ _ _ | show wpAny _ _ (call (Value.type "builtins.str") _ _) _ _ _ | show wpAny _ _ (binaryOp Operator.Mod (Value.str _ _) _) _ _ _ | show wpAny _ _ (compareOp CmpOp.NotEq (Value.ref _) (Value.ref _)) _ _ _ | show wpAny _ _ (compareOp CmpOp.NotEq (Value.str _ _) (Value.str _ _)) _ _ _))); (first | (k_unfold; (try dsimp only)) | (k_end; wrow_close) | walk1 | (dsimp only; walk1) | (leave1; walk_say "STEP leave1"; try dsimp only) | fail "no step")))
      refine append_K (by k_asm) (by k_asm) (.head hne) ?_ (by rw [List.size_toArray, strs_len]; have := sizeLine_eq; omega)
      intro h7 F7 N7
      rw [List.push_toArray] at N7
      k_steps
      exact pre_next (by k_asm) (by k_asm) hB3 rfl (hI' _)
  case done =>
    rintro m ns h tk g ⟨acc, n', hm, rfl, hI⟩ hB F N
    rw [m_eq1 hm] at F
    dsimp only [envOf] at F N
    dsimp only
    clear hm
    k_steps
    refine hret _ _ _ _ _ _ hB ?_ (by assumption) (by assumption)
    rw [hI, List.take_of_length_le (by simp [strValues])]

end
end Mine
namespace Mine
--PLAIN
noncomputable def qText (d c : Nat) : Str := ⟨#[123, 48 + d, 125, c]⟩
/-- the law's own loop: the rows of brackets, with what it counts -/
structure LS where
  itsS : List (Value × Str)
  nS : Nat
  itsB : List (Value × Str)
  nB : Nat
  qs : List (Addr × Obj)
  d : Int
  td : Tok
  p : Int
  tp : Tok
noncomputable def LS.led (lb ls : Addr) (cell : Addr × Obj) (c : LS) : List (Addr × Obj) :=
  (lb, listOf (c.itsB.map (·.1)).toArray c.nB) :: (ls, listOf (c.itsS.map (·.1)).toArray c.nS) :: cell :: c.qs
noncomputable def cnt (l : List Nat) : Nat := (l.filter (· = 40)).length
structure LSOk (lb ls : Addr) (pre : List Nat) (c : LS) : Prop where
  hS : c.itsS.map (·.2) = (run pre).steps.map fun q => qText q.1 q.2
  hB : c.itsB.map (·.2) = (run pre).begun.map fun d => qText d 40
  qS : QsAre c.qs c.itsS
  qB : QsAre c.qs c.itsB
  hd : c.d = ((run pre).depth : Nat)
  hp : c.p = (run pre).pairs
  ne : ∀ p ∈ c.qs, p.1 ≠ lb ∧ p.1 ≠ ls
theorem run_snoc (pre : List Nat) (c : Nat) : run (pre ++ [c]) = Mine.turn (run pre) c := by
  unfold run; rw [List.foldl_append]; rfl
theorem mem_insertAt {α : Type} {i : Nat} {x y : α} {l : List α} (h : y ∈ insertAt i x l) : y = x ∨ y ∈ l := by
  unfold insertAt at h
  rcases List.mem_append.mp h with h | h
  · exact .inr (List.mem_of_mem_take h)
  · rcases List.mem_cons.mp h with h | h
    · exact .inl h
    · exact .inr (List.mem_of_mem_drop h)
theorem insertAt_length {α : Type} (i : Nat) (x : α) (l : List α) : (insertAt i x l).length = l.length + 1 := by
  unfold insertAt
  rw [List.length_append, List.length_cons, List.length_take, List.length_drop]; omega
theorem insertAt_map {α β : Type} (f : α → β) (i : Nat) (x : α) (l : List α) : (insertAt i x l).map f = insertAt i (f x) (l.map f) := by
  unfold insertAt
  rw [List.map_append, List.map_cons, List.map_take, List.map_drop]
theorem cnt_snoc (pre : List Nat) (c : Nat) : cnt (pre ++ [c]) = cnt pre + (if c = 40 then 1 else 0) := by
  unfold cnt
  rw [List.filter_append, List.length_append]
  by_cases h : c = 40 <;> simp [h]
theorem revInd {P : List Nat → Prop} (h0 : P []) (h1 : ∀ l c, P l → P (l ++ [c])) : ∀ l, P l := by
  intro l
  rw [← List.reverse_reverse l]
  induction l.reverse with
  | nil => exact h0
  | cons a r ih => rw [List.reverse_cons]; exact h1 _ _ ih
theorem run_bound : ∀ pre, (run pre).depth ≤ cnt pre ∧ (∀ q ∈ (run pre).steps, q.1 ≤ cnt pre) ∧ (∀ d ∈ (run pre).begun, d ≤ cnt pre) ∧ (run pre).steps.length = pre.length ∧ (run pre).begun.length ≤ pre.length := by
  refine revInd ?_ ?_
  · refine ⟨Nat.zero_le _, ?_, ?_, rfl, Nat.le_refl _⟩ <;> · intro q hq; cases hq
  · rintro pre c ⟨h1, h2, h3, h4, h5⟩
    rw [run_snoc, cnt_snoc, List.length_append, List.length_singleton]
    unfold Mine.turn
    dsimp only
    by_cases hc : c = 40
    · rw [if_pos hc, if_pos hc]
      dsimp only
      refine ⟨by omega, fun q hq => ?_, fun d hd => ?_, by rw [insertAt_length, h4], by rw [insertAt_length]; omega⟩
      · rcases mem_insertAt hq with rfl | hq
        · exact Nat.le_succ_of_le h1
        · exact Nat.le_succ_of_le (h2 q hq)
      · rcases mem_insertAt hd with rfl | hd
        · exact Nat.le_succ_of_le h1
        · exact Nat.le_succ_of_le (h3 d hd)
    · rw [if_neg hc, if_neg hc]
      dsimp only
      refine ⟨by omega, fun q hq => ?_, fun d hd => h3 d hd, by rw [insertAt_length, h4], by omega⟩
      rcases mem_insertAt hq with rfl | hq
      · exact h1
      · exact h2 q hq
theorem chk_run : ∀ pre, (∀ c ∈ pre, c = 40 ∨ c = 41) → ∀ post, chk 0 (pre ++ post) = true → chk ((run pre).depth : Int) post = true := by
  refine revInd (fun _ _ h => h) ?_
  intro pre c ih hc post h
  rw [List.append_assoc] at h
  have h1 := ih (fun z hz => hc z (List.mem_append_left _ hz)) _ h
  rw [run_snoc]
  unfold Mine.turn
  dsimp only
  rcases hc c (List.mem_append_right _ (List.mem_singleton_self _)) with rfl | rfl
  · rw [if_pos rfl]; simpa [chk] using h1
  · rw [if_neg (by decide)]
    dsimp only
    rw [List.singleton_append, chk, if_neg (by decide), if_pos rfl] at h1
    by_cases h0 : ((run pre).depth : Int) - 1 < 0
    · rw [if_pos h0] at h1; cases h1
    · rw [if_neg h0] at h1
      have : (((run pre).depth - 1 : Nat) : Int) = ((run pre).depth : Int) - 1 := by omega
      rw [this]; exact h1
theorem chk_close {pre post : List Nat} (hp : ∀ c ∈ pre, c = 40 ∨ c = 41) (h : chk 0 (pre ++ 41 :: post) = true) : 1 ≤ (run pre).depth := by
  have h1 := chk_run pre hp _ h
  rw [chk, if_neg (by decide), if_pos rfl] at h1
  by_cases h0 : ((run pre).depth : Int) - 1 < 0
  · rw [if_pos h0] at h1; cases h1
  · omega
noncomputable def pageOk (l : List Nat) : Bool := decide (l.length ≤ 14) && l.all (fun c => c == 40 || c == 41) && decide (cnt l ≤ 7) && decide (2 ≤ l.length)
set_option maxRecDepth 100000 in
theorem pagesOk : ((pagesOf 4 ++ pagesOf 5 ++ pagesOf 6).all pageOk) = true := by decide +kernel
theorem page_ok {l : List Nat} {i : Nat} (h : l ∈ pagesOf i) (hi : i = 4 ∨ i = 5 ∨ i = 6) : l.length ≤ 14 ∧ (∀ c ∈ l, c = 40 ∨ c = 41) ∧ cnt l ≤ 7 ∧ 2 ≤ l.length := by
  have h1 : pageOk l = true := List.all_eq_true.mp pagesOk l (by
    rcases hi with rfl | rfl | rfl
    · exact List.mem_append_left _ (List.mem_append_left _ h)
    · exact List.mem_append_left _ (List.mem_append_right _ h)
    · exact List.mem_append_right _ h)
  unfold pageOk at h1
  simp only [Bool.and_eq_true, decide_eq_true_eq, List.all_eq_true, Bool.or_eq_true, beq_iff_eq] at h1
  exact ⟨h1.1.1.1, h1.1.1.2, h1.1.2, h1.2⟩
theorem page_good {l : List Nat} {i : Nat} (h : l ∈ pagesOf i) (hi : i = 4 ∨ i = 5 ∨ i = 6) : good l = true := by
  rcases hi with rfl | rfl | rfl
  · exact List.all_eq_true.mp good4 l h
  · exact List.all_eq_true.mp good5 l h
  · exact List.all_eq_true.mp good6 l h

end Mine
namespace Mine
section
variable {w : World} {dp un : Nat} {gd : Option (List Code)} {cn : Str} {cs : Scope} {a : Addr} {ccd : Value} {cl : List (Str × Addr)} {outer : List Env} {A₀ : Around} {base h₀ : Heap} {L : Addr} {m : Str → Option Value} {news : List (Addr × Obj)} {s : Shared} {loose : List Str} {mean : ExcName → Option Value} {mg mb : Str → Option Value} {Q E : Value → Shared → Prop}

theorem str_dig {prog : Program} {A : Around} {n : Nat} {t : Tok} (hn : n ≤ 9) (h : ∀ t' tk, Q (.str ⟨#[48 + n]⟩ t') { s with toks := tk }) : wpAny (model prog w) A (call (.type "str") [.int (n : Int) t]) Q E s := by
  refine str_of_int_fit (N := 100) (by split <;> omega) (by decide) fun _ => ?_
  have e : (Str.ofString (toString (n : Int))) = (⟨#[48 + n]⟩ : Str) := by
    have h10 : n = 0 ∨ n = 1 ∨ n = 2 ∨ n = 3 ∨ n = 4 ∨ n = 5 ∨ n = 6 ∨ n = 7 ∨ n = 8 ∨ n = 9 := by omega
    rcases h10 with rfl | rfl | rfl | rfl | rfl | rfl | rfl | rfl | rfl | rfl <;> decide +kernel
  show Q (.str (Str.ofString (toString (n : Int))) _) _
  rw [e]
  exact h _ _

end
end Mine
namespace Mine
section
variable {w : World} {dp un : Nat} {gd : Option (List Code)} {cn : Str} {cs : Scope} {a : Addr} {ccd : Value} {cl : List (Str × Addr)} {outer : List Env} {A₀ : Around} {base h₀ : Heap} {L : Addr} {m : Str → Option Value} {news : List (Addr × Obj)} {s : Shared} {loose : List Str} {mean : ExcName → Option Value} {mg mb : Str → Option Value} {Q E : Value → Shared → Prop}

theorem qText_is {n c : Nat} : Str.ofString "{" ++ (⟨#[48 + n]⟩ : Str) ++ Str.ofString "}" ++ (⟨#[c]⟩ : Str) = qText n c := by
  have h1 : Str.ofString "{" = (⟨#[123]⟩ : Str) := by decide +kernel
  have h2 : Str.ofString "}" = (⟨#[125]⟩ : Str) := by decide +kernel
  rw [h1, h2]; rfl
set_option maxRecDepth 100000 in
set_option maxHeartbeats 8000000 in
theorem qname_call {n c : Nat} {ty tb : Tok}
    (C : Cx w 3 dp un cs A₀ base outer h₀ L m news loose mean mg mb s.heap) 
    (hret : ∀ x d hsh kt tk h' tk', (∀ p ∈ news, p.1 < d) → d < x → Fr h₀ L h' m → News h₀ L h' ((x, instObj 157 d) :: (d, dictOf [⟨hsh, .str (Str.ofString "text") kt, .str (qText n c) tk⟩] 1) :: news) → Q (.ref x) {s with heap := h', toks := tk'}) :
    wpAny (model PySem.Challenge.rw_wu0073_01.row.prog w) (ktrTop dp un gd cn cs L a ccd cl outer) (call (.ref 157) [.str ⟨#[48 + n]⟩ ty, .str ⟨#[c]⟩ tb]) Q E s := by
  obtain ⟨B, F, X, N, T, hk, hdp, hu⟩ := C
  revert X; k_fill; intro X
  k_dflt (refine' call_cls ?k1 ?k2 ?k3 ?k4 ?k5 ?k6 ?_; (case k1 => k_asm); (case k2 => k_asm); (case k3 => k_asm); (case k4 => k_is); (case k5 => k_is); (case k6 => k_is); k_whole; intro x' d' h' F' N' l1 l2)
  ((k_dflt (refine' code_def ?k1q227 ?k2q227 ?k3q227 ?k4q227 ?k5q227 ?kAq227 ?kFq227 ?kKq227 ?k6q227 ?k7q227 ?k8q227 ?k9q227 ?kBq227 ?_ ?c2q227 ?c3q227 ?c4q227 ?c5q227; (case kAq227 => exact rfl); (case kFq227 => exact rfl); (case kKq227 => first | exact rfl | assumption); (case k1q227 => k_asm); (case k2q227 => k_asm); (case k3q227 => k_asm); (case k4q227 => k_asm); (case k5q227 => k_asm); (case k6q227 => k_is); (case k7q227 => k_is); (case k8q227 => ktr_room); (case k9q227 => first | exact BindsTo.of_eq rfl | exact binds_K (by k_in) rfl (by k_is) rfl rfl rfl | (refine' kp_binds ?kxq227 ?keq227; (case kxq227 => k_in); (case keq227 => exact fun _ => rfl))); (case c5q227 => decide); (case kBq227 => exact locs rfl); (case c2q227 => exact rfl); (case c3q227 => exact rfl); (case c4q227 => exact rfl); k_whole; intro _ _ _ _ _ _ _ _ _; (try dsimp only); (try k_fold))))
  iterate 6 walk1
  rw [if_pos (show (((⟨#[c]⟩ : Str).length : Int) != 0) = true from rfl)]
  (repeat' ((fail_if_success ((with_reducible first | show wpAny _ _ (exec (PySem.Stmt.While _ _ _ _) _) _ _ _ | show wpAny _ _ (exec (PySem.Stmt.For _ _ _ _ _) _) _ _ _ | show wpAny _ _ (call (Value.ref _) _ _) _ _ _ | show wpAny _ _ (compareOp CmpOp.Lt (Value.ref _) _) _ _ _ | show wpAny _ _ (compareOp CmpOp.Lt _ (Value.ref _)) _ _ _ | show wpAny _ _ (compareOp CmpOp.Lt (Prod.fst _) _) _ _ _ | show wpAny _ _ (compareOp CmpOp.Lt _ (Prod.fst _)) _ _ _ | show wpAny _ _ (compareOp CmpOp.Eq (Value.ref _) _) _ _ _ | show wpAny _ _ (pyIter _) (fun it s₂ => LoopAtV _ _ _ _ _ _ _ _ _ it s₂) _ _ | show wpAny _ _ (call (Value.builtin "str.split") _ _) _ _ _ | show wpAny _ _ (newList _) _ _ _ | show wpAny _ _ (call (Value.builtin "str.join") _ _) _ _ _ | show wpAny _ _ (call (Value.builtin "list.append") _ _) _ _ _ | show wpAny _ _ (exec (PySem.Stmt.Assign _ (PySem.Expr.ListComp _ _ _ _) _) _) _ _ _ | show wpAny _ _ (eval (PySem.Expr.ListComp _ _ _ _) _) _ _ _ | show wpAny _ _ (binaryOp Operator.Mult (Value.ref _) _) _ _ _ | show wpAny _ _ (subscriptTail _ _ (Value.ref _) (Value.int _ _)) _ _ _ | show wpAny _ _ (getItem (Value.ref _) (Value.int _ _)) _ _ _ | show wpAny _ _ (setItem (Value.ref _) (Value.int _ _) _) _ _ _ | show wpAny _ _ (binaryOp Operator.Add (Value.str _ _) (Value.str _ _)) _ _ _ | show wpAny _ _ (inplaceOp Operator.Add (Value.str _ _) (Value.str _ _)) _ _ _ | show wpAny _ _ (subscriptTail _ (PySem.Expr.Slice _ _ _ _) (Value.ref _) (Value.ref _)) _ _ _ | show wpAny _ _ (call (Value.builtin "sum") _ _) _ _ _ | show wpAny _ _ (binaryOp Operator.Mult (Value.str _ _) _) _ _ _ | show wpAny _ _ (compareOp CmpOp.NotIn (Value.str _ _) (Value.str _ _)) _ _ _ | show wpAny _ _ (call (Value.type "str") _ _) _ _ _ | show wpAny _ _ (call (Value.type "builtins.str") _ _) _ _ _ | show wpAny _ _ (binaryOp Operator.Mod (Value.str _ _) _) _ _ _ | show wpAny _ _ (compareOp CmpOp.NotEq (Value.ref _) (Value.ref _)) _ _ _ | show wpAny _ _ (compareOp CmpOp.NotEq (Value.str _ _) (Value.str _ _)) _ _ _))); (first | (k_unfold; (try dsimp only)) | (k_end; wrow_close) | walk1 | (dsimp only; walk1) | (leave1; walk_say "STEP leave1"; try dsimp only) | fail "no step")))
  rw [qText_is]
  have l2c := id l2
  have l1c := id l1
  (try k_lt l1); (try k_lt2 l2)
  k_steps
  exact hret _ _ _ _ _ _ _ l1c l2c (by assumption) (by assumption)

end
end Mine
namespace Mine
section
variable {w : World} {dp un : Nat} {gd : Option (List Code)} {cn : Str} {cs : Scope} {a : Addr} {ccd : Value} {cl : List (Str × Addr)} {outer : List Env} {A₀ : Around} {base h₀ : Heap} {L : Addr} {m : Str → Option Value} {news : List (Addr × Obj)} {s : Shared} {loose : List Str} {mean : ExcName → Option Value} {mg mb : Str → Option Value} {Q E : Value → Shared → Prop}

noncomputable def dText (k : Int) : Str := if k < 0 then ⟨#[123, 45, 49, 125, 40]⟩ else qText k.toNat 40
theorem item_q (a c : Nat) : (Txt.item (qText a c) 1).cps.toList = [48 + a] := by rfl
theorem lt_one (a b : Nat) : decide (([48 + a] : List Nat) < [48 + b]) = decide (a < b) := by
  apply decide_eq_decide.mpr
  rw [List.cons_lt_cons_iff]
  simp
theorem lt_q (a b : Nat) : decide ((qText a 40).cps.toList < (qText b 40).cps.toList) = decide (a < b) := by
  apply decide_eq_decide.mpr
  show ([123, 48 + a, 125, 40] : List Nat) < [123, 48 + b, 125, 40] ↔ _
  simp only [List.cons_lt_cons_iff]
  constructor
  · intro h; simp at h; omega
  · intro h; simp; omega
theorem lt_d (a d : Nat) : decide ((qText a 40).cps.toList < (dText ((d : Int) - 1)).cps.toList) = decide (a + 1 < d) := by
  apply decide_eq_decide.mpr
  unfold dText
  by_cases h : (d : Int) - 1 < 0
  · rw [if_pos h]
    show ([123, 48 + a, 125, 40] : List Nat) < [123, 45, 49, 125, 40] ↔ _
    simp only [List.cons_lt_cons_iff]
    constructor
    · intro h; simp at h; omega
    · intro h; omega
  · rw [if_neg h]
    have e : ((d : Int) - 1).toNat = d - 1 := by omega
    rw [e]
    show ([123, 48 + a, 125, 40] : List Nat) < [123, 48 + (d - 1), 125, 40] ↔ _
    simp only [List.cons_lt_cons_iff]
    constructor
    · intro h; simp at h; omega
    · intro h; simp; omega
theorem map_snd {α β γ : Type} (its : List (α × β)) (f : β → γ) : (its.map fun p => f p.2) = (its.map (·.2)).map f := by rw [List.map_map]; rfl
theorem key_rows {its : List (Value × Str)} {steps : List (Nat × Nat)} {n c : Nat} (h : its.map (·.2) = steps.map fun q => qText q.1 q.2) :
    (its.map fun p => decide ((Txt.item p.2 1).cps.toList < (Txt.item (qText n c) 1).cps.toList)) = steps.map fun q => decide (q.1 < n) := by
  rw [map_snd its fun y => decide ((Txt.item y 1).cps.toList < (Txt.item (qText n c) 1).cps.toList), h, List.map_map]
  refine List.map_congr_left fun q _ => ?_
  show decide ((Txt.item (qText q.1 q.2) 1).cps.toList < _) = _
  rw [item_q, item_q, lt_one]
theorem right_rows {its : List (Value × Str)} {begun : List Nat} {n : Nat} (h : its.map (·.2) = begun.map fun d => qText d 40) :
    (its.map fun p => !decide ((qText n 40).cps.toList < p.2.cps.toList)) = begun.map fun d => !decide (n < d) := by
  rw [map_snd its fun y => !decide ((qText n 40).cps.toList < y.cps.toList), h, List.map_map]
  refine List.map_congr_left fun q _ => ?_
  show (!decide ((qText n 40).cps.toList < (qText q 40).cps.toList)) = _
  rw [lt_q]
theorem left_rows {its : List (Value × Str)} {begun : List Nat} {n : Nat} (h : its.map (·.2) = begun.map fun d => qText d 40) :
    (its.map fun p => decide (p.2.cps.toList < (qText n 40).cps.toList)) = begun.map fun d => decide (d < n) := by
  rw [map_snd its fun y => decide (y.cps.toList < (qText n 40).cps.toList), h, List.map_map]
  refine List.map_congr_left fun q _ => ?_
  show decide ((qText q 40).cps.toList < (qText n 40).cps.toList) = _
  rw [lt_q]
theorem deep_rows {its : List (Value × Str)} {begun : List Nat} {n : Nat} (h : its.map (·.2) = begun.map fun d => qText d 40) :
    (its.map fun p => decide (p.2.cps.toList < (dText ((n : Int) - 1)).cps.toList)) = begun.map fun d => decide (d + 1 < n) := by
  rw [map_snd its fun y => decide (y.cps.toList < (dText ((n : Int) - 1)).cps.toList), h, List.map_map]
  refine List.map_congr_left fun q _ => ?_
  show decide ((qText q 40).cps.toList < _) = _
  rw [lt_d]
theorem deep_text {k : Int} (h1 : 0 ≤ k) (h2 : k ≤ 7) : dText k = Str.ofString "{" ++ Str.ofString (toString k) ++ Str.ofString "}(" := by
  have hc : k = 0 ∨ k = 1 ∨ k = 2 ∨ k = 3 ∨ k = 4 ∨ k = 5 ∨ k = 6 ∨ k = 7 := by omega
  rcases hc with rfl | rfl | rfl | rfl | rfl | rfl | rfl | rfl <;> decide +kernel
set_option maxRecDepth 100000 in
set_option maxHeartbeats 8000000 in
theorem mod_deep {prog : Program} {A : Around} {k : Int} {t u : Tok} (h1 : -1 ≤ k) (h2 : k ≤ 7) (h : ∀ t' tk, Q (.str (dText k) t') { s with toks := tk }) : wpAny (model prog w) A (binaryOp .Mod (.str (Str.ofString "{%d}(") u) (.int k t)) Q E s := by
  by_cases hk : 0 ≤ k
  · refine' KPc.mod_int ?kpcF ?kpcl ?kpch ?kpcm ?_
    case kpcF => kpc_eq
    case kpcl => exact hk
    case kpch => omega
    case kpcm => k_dflt kpc_run
    intro t' tk'
    have this := h t' tk'
    rw [deep_text hk h2] at this
    exact this
  · obtain rfl : k = -1 := by omega
    refine' KPc.mod_lit ?kpcF ?kpcd ?kpcm ?_
    case kpcF => kpc_eq
    case kpcd => decide +kernel
    case kpcm => k_dflt kpc_run
    intro t' tk'
    have this := h t' tk'
    refine Eq.mp (congrArg (fun y => Q (Value.str y t') _) ?_) this
    decide +kernel

end
end Mine
namespace Mine
section
variable {w : World} {dp un : Nat} {gd : Option (List Code)} {cn : Str} {cs : Scope} {a : Addr} {ccd : Value} {cl : List (Str × Addr)} {outer : List Env} {A₀ : Around} {base h₀ : Heap} {L : Addr} {m : Str → Option Value} {news : List (Addr × Obj)} {s : Shared} {loose : List Str} {mean : ExcName → Option Value} {mg mb : Str → Option Value} {Q E : Value → Shared → Prop}

theorem qsare_ins {qs' : List (Addr × Obj)} {its : List (Value × Str)} {i n c : Nat} {xv : Value} (hq : IsQ qs' xv (qText n c)) (h : QsAre qs' its) : QsAre qs' (insertAt i (xv, qText n c) its) := by
  intro p hp
  rcases mem_insertAt hp with rfl | hp
  · exact ⟨hq, show 4 ≤ 100 by decide, show 2 ≤ 4 by decide⟩
  · exact h p hp
theorem lsok_open {lb ls : Addr} {xv : Value} {pre : List Nat} {itsS itsB : List (Value × Str)} {qs' : List (Addr × Obj)} {nd nS' nB' : Nat} {pp : Int} {td tp : Tok}
    (hS : itsS.map (·.2) = (run pre).steps.map fun q => qText q.1 q.2) (hB : itsB.map (·.2) = (run pre).begun.map fun d => qText d 40) (hnd : (run pre).depth = nd) (hnp : (run pre).pairs = pp)
    (hqx : IsQ qs' xv (qText nd 40)) (qS : QsAre qs' itsS) (qB : QsAre qs' itsB) (hne : ∀ p ∈ qs', p.1 ≠ lb ∧ p.1 ≠ ls) :
    LSOk lb ls (pre ++ [40]) ⟨insertAt (bisN (itsS.map fun p => decide ((Txt.item p.2 1).cps.toList < (Txt.item (qText nd 40) 1).cps.toList))) (xv, qText nd 40) itsS, nS',
      insertAt (bisN (itsB.map fun p => decide (p.2.cps.toList < (qText nd 40).cps.toList))) (xv, qText nd 40) itsB, nB', qs', (nd : Int) + 1, td,
      pp + (((bisN (itsB.map fun p => !decide ((qText nd 40).cps.toList < p.2.cps.toList)) : Nat) : Int) - ((bisN (itsB.map fun p => decide (p.2.cps.toList < (dText ((nd : Int) - 1)).cps.toList)) : Nat) : Int) - if (1 : Int) < (nd : Int) then 1 else (nd : Int)), tp⟩ := by
  have e : run (pre ++ [40]) = Mine.turn (run pre) 40 := run_snoc pre 40
  rw [key_rows hS, left_rows hB, right_rows hB, deep_rows hB]
  unfold Mine.turn at e
  rw [if_pos rfl, hnd, hnp] at e
  refine ⟨?_, ?_, qsare_ins hqx qS, qsare_ins hqx qB, ?_, ?_, hne⟩
  · rw [e]; dsimp only; rw [insertAt_map, insertAt_map, hS]
  · rw [e]; dsimp only; rw [insertAt_map, insertAt_map, hB]
  · rw [e]; dsimp only; omega
  · rw [e]; dsimp only
    have h1 : (if (1 : Int) < (nd : Int) then (1 : Int) else (nd : Int)) = if nd = 0 then 0 else 1 := by split <;> split <;> omega
    rw [h1]; omega
theorem lsok_close {lb ls : Addr} {xv : Value} {pre : List Nat} {itsS itsB : List (Value × Str)} {qs' : List (Addr × Obj)} {nd nS' nB' : Nat} {pp : Int} {td tp : Tok}
    (hS : itsS.map (·.2) = (run pre).steps.map fun q => qText q.1 q.2) (hB : itsB.map (·.2) = (run pre).begun.map fun d => qText d 40) (hnd : (run pre).depth = nd) (hnp : (run pre).pairs = pp) (h1 : 1 ≤ nd)
    (hqx : IsQ qs' xv (qText nd 41)) (qS : QsAre qs' itsS) (qB : QsAre qs' itsB) (hne : ∀ p ∈ qs', p.1 ≠ lb ∧ p.1 ≠ ls) :
    LSOk lb ls (pre ++ [41]) ⟨insertAt (bisN (itsS.map fun p => decide ((Txt.item p.2 1).cps.toList < (Txt.item (qText nd 41) 1).cps.toList))) (xv, qText nd 41) itsS, nS',
      itsB, nB', qs', (nd : Int) - 1, td, pp, tp⟩ := by
  have e : run (pre ++ [41]) = Mine.turn (run pre) 41 := run_snoc pre 41
  rw [key_rows hS]
  unfold Mine.turn at e
  rw [if_neg (by decide), hnd] at e
  refine ⟨?_, ?_, qsare_ins hqx qS, qB, ?_, ?_, hne⟩
  · rw [e]; dsimp only; rw [insertAt_map, insertAt_map, hS]
  · rw [e]; dsimp only; exact hB
  · rw [e]; dsimp only; omega
  · rw [e]; dsimp only; exact hnp.symm
theorem led_sub {a b c : Addr × Obj} {q1 q2 : Addr × Obj} {qs own : List (Addr × Obj)} : ∀ p ∈ a :: b :: c :: q1 :: q2 :: qs, p ∈ q1 :: q2 :: a :: b :: c :: (qs ++ own) := by
  intro p hp
  simp only [List.mem_cons, List.mem_append] at hp ⊢
  rcases hp with h | h | h | h | h | h <;> simp [h]
theorem own_sub {a b c : Addr × Obj} {q1 q2 : Addr × Obj} {qs own : List (Addr × Obj)} : ∀ p ∈ own, p ∈ q1 :: q2 :: a :: b :: c :: (qs ++ own) := by
  intro p hp
  simp only [List.mem_cons, List.mem_append]
  simp [hp]
theorem led_ne {I : Addr} {a b c : Addr × Obj} {qs' : List (Addr × Obj)} (h1 : a.1 ≠ I ∧ b.1 ≠ I ∧ c.1 ≠ I) (h2 : ∀ p ∈ qs', p.1 ≠ I) : ∀ p ∈ a :: b :: c :: qs', p.1 ≠ I := by
  intro p hp
  simp only [List.mem_cons] at hp
  rcases hp with rfl | rfl | rfl | h
  · exact h1.1
  · exact h1.2.1
  · exact h1.2.2
  · exact h2 p h
theorem strs_of : ∀ {vs : List Value} {cs : List Nat}, vs.length = cs.length → (∀ i y, vs[i]? = some y → ∃ t, y = Value.str ⟨#[cs.getD i 0]⟩ t) → ∃ ll : List (Str × Tok), vs = strValues ll ∧ ll.map (·.1) = cs.map fun c => (⟨#[c]⟩ : Str)
  | [], [], _, _ => ⟨[], rfl, rfl⟩
  | v :: vs, c :: cs, hl, h => by
    obtain ⟨t, ht⟩ := h 0 v rfl
    obtain ⟨ll, h1, h2⟩ := strs_of (vs := vs) (cs := cs) (by simpa using hl) fun i y hy => by
      obtain ⟨t, ht⟩ := h (i + 1) y (by simpa using hy)
      exact ⟨t, by simpa using ht⟩
    refine ⟨(⟨#[c]⟩, t) :: ll, ?_, by rw [List.map_cons, List.map_cons, h2]⟩
    rw [h1]
    simp only [strValues, List.map_cons]
    rw [ht]; rfl
theorem join_ones {ll : List (Str × Tok)} {cs : List Nat} (h : ll.map (·.1) = cs.map fun c => (⟨#[c]⟩ : Str)) : (Str.join ⟨#[]⟩ (ll.map (·.1))).cps.toList = cs := by
  rw [join0_cps, h, List.map_map]
  induction cs generalizing ll with
  | nil => rfl
  | cons c r ih => 
    simp only [List.map_cons, List.flatten_cons]
    have := ih (ll := r.map fun c => ((⟨#[c]⟩ : Str), 0)) (by rw [List.map_map]; rfl)
    rw [this]; rfl
theorem sweep_at {itsS : List (Value × Str)} {steps : List (Nat × Nat)} {i : Nat} {p : Value × Str} (hS : itsS.map (·.2) = steps.map fun q => qText q.1 q.2) (hp : itsS[i]? = some p) :
    Txt.item p.2 (-1) = ⟨#[(steps.map (·.2)).getD i 0]⟩ := by
  have h1 : (steps.map fun q => qText q.1 q.2)[i]? = some p.2 := by rw [← hS, List.getElem?_map, hp]; rfl
  rw [List.getElem?_map] at h1
  obtain ⟨q, hq, e⟩ := Option.map_eq_some_iff.mp h1
  rw [List.getD_eq_getElem?_getD, List.getElem?_map, hq, ← e]
  rfl
theorem slice1 {x : Str} (h : 1 ≤ x.length) : (Txt.slice x (some 1) none).cps.toList = x.cps.toList.drop 1 := by
  rw [slice_from_eq (b := x.length) (by decide) (by omega) rfl]
  show ((x.cps.toList.drop 1).take ((x.length : Int) - 1).toNat) = _
  rw [List.take_of_length_le]
  rw [List.length_drop, show x.cps.toList.length = x.length from Array.length_toList]
  omega
theorem sliceM1 {x : Str} (h : 1 ≤ x.length) : (Txt.slice x none (some (-1))).cps.toList = x.cps.toList.dropLast := by
  rw [beq_iff_eq.mp (slice_closes_to_neg (k := (x.length : Int) - 1) (by decide) (by omega) (by omega))]
  show ((x.cps.toList.drop 0).take ((x.length : Int) - 1 - 0).toNat) = _
  rw [List.drop_zero, List.dropLast_eq_take, show x.cps.toList.length = x.length from Array.length_toList]
  congr 1
  omega
theorem run_chars : ∀ pre : List Nat, (∀ c ∈ pre, c = 40 ∨ c = 41) → ∀ q ∈ (run pre).steps, q.2 = 40 ∨ q.2 = 41 := by
  refine revInd (fun _ q hq => nomatch hq) ?_
  intro pre c ih hc q hq
  rw [run_snoc] at hq
  have h1 : (Mine.turn (run pre) c).steps = insertAt (bisN ((run pre).steps.map fun q => decide (q.1 < (run pre).depth))) ((run pre).depth, c) (run pre).steps := by
    unfold Mine.turn; dsimp only; split <;> rfl
  rw [h1] at hq
  rcases mem_insertAt hq with rfl | hq
  · exact hc c (List.mem_append_right _ (List.mem_singleton_self _))
  · exact ih (fun z hz => hc z (List.mem_append_left _ hz)) q hq
theorem good_parts {l : List Nat} (h : good l = true) : chk 0 l = true ∧ chk 0 ((run l).steps.map (·.2)) = true ∧ chk 0 (((run l).steps.map (·.2)).drop 1 ++ [40]) = false ∧ chk 0 ((run l).steps.map (·.2)).dropLast = false ∧
    toldOf ((run l).steps.map (·.2)) = l ∧ bouncesGo (runsOf ((run l).steps.map (·.2))) (l.length / 2) 0 = (List.range (l.length / 2)).map (fun d => ((((run l).steps.filter fun q => q.1 == d && q.2 == 40).length : Nat) : Int)) ∧
    depthsIn 0 0 ((run l).steps.map (·.2)) = (run l).pairs := by
  unfold good at h
  simp only [Bool.and_eq_true, Bool.not_eq_true', beq_iff_eq] at h
  obtain ⟨⟨⟨⟨⟨⟨h1, h2⟩, h3⟩, h4⟩, h5⟩, h6⟩, h7⟩ := h
  exact ⟨h1, h2, h3, h4, h5, h6, h7⟩

end
end Mine
namespace Mine
section
variable {w : World} {dp un : Nat} {gd : Option (List Code)} {cn : Str} {cs : Scope} {a : Addr} {ccd : Value} {cl : List (Str × Addr)} {outer : List Env} {A₀ : Around} {base h₀ : Heap} {L : Addr} {m : Str → Option Value} {news : List (Addr × Obj)} {s : Shared} {loose : List Str} {mean : ExcName → Option Value} {mg mb : Str → Option Value} {Q E : Value → Shared → Prop}

theorem ne_strs {prog : Program} {A : Around} {a b : Addr} {l1 l2 : List (Str × Tok)} {n1 n2 : Nat} (N : News h₀ L s.heap news) (ma : (a, listOf (strValues l1).toArray n1) ∈ news) (mb : (b, listOf (strValues l2).toArray n2) ∈ news)
    (he : l1.map (·.1) = l2.map (·.1)) (hok : ∀ p ∈ l1, PyData.strOk p.1 = true) (hok2 : ∀ p ∈ l2, PyData.strOk p.1 = true) (hu : A.units + 64 < cLine) (h : Q (.bool false) s) : wpAny (model prog w) A (compareOp .NotEq (.ref a) (.ref b)) Q E s := by
  have D : ∀ l : List (Str × Tok), DatAll [] (strValues l) ((l.map (·.1)).map Dat.str) := by
    intro l
    induction l with
    | nil => constructor
    | cons p r ih => 
      show DatAll [] (Value.str p.1 p.2 :: strValues r) (Dat.str p.1 :: (r.map (·.1)).map Dat.str)
      constructor
      · constructor
      · exact ih
  refine kqd_ne (n₁ := []) (n₂ := []) N ma rfl rfl (D l1) (fun _ hp => nomatch hp) mb rfl rfl (D l2) (fun _ hp => nomatch hp) ?_ ?_ hu ?_
  · intro d hd
    obtain ⟨x, hx, rfl⟩ := List.mem_map.mp hd
    obtain ⟨p, hp, rfl⟩ := List.mem_map.mp hx
    exact hok p hp
  · intro d hd
    obtain ⟨x, hx, rfl⟩ := List.mem_map.mp hd
    obtain ⟨p, hp, rfl⟩ := List.mem_map.mp hx
    exact hok2 p hp
  · rw [he]; simpa using h
theorem strOk_of {x : Str} (h : ∀ c ∈ x.cps.toList, c = 40 ∨ c = 41) : PyData.strOk x = true := by
  unfold PyData.strOk
  rw [Array.all_eq_true']
  intro c hc
  rcases h c (by simpa using hc) with rfl | rfl <;> rfl

end
end Mine
namespace Mine
--PLAIN
theorem runs_c40 (l : List Nat) : (runsOf (40 :: l)).sum = (runsOf l).sum + 1 ∧ (runsOf (40 :: l)).length = (runsOf l).length := by
  have h := runs_ne l
  show (match runsOf l with | [] => [] | w :: r => if 40 = 41 then 0 :: w :: r else (w + 1) :: r).sum = _ ∧ (match runsOf l with | [] => [] | w :: r => if 40 = 41 then 0 :: w :: r else (w + 1) :: r).length = _
  cases hr : runsOf l with
  | nil => exact absurd hr h
  | cons w r => simp; omega
theorem runs_c41 (l : List Nat) : (runsOf (41 :: l)).sum = (runsOf l).sum ∧ (runsOf (41 :: l)).length = (runsOf l).length + 1 := by
  have h := runs_ne l
  show (match runsOf l with | [] => [] | w :: r => if 41 = 41 then 0 :: w :: r else (w + 1) :: r).sum = _ ∧ (match runsOf l with | [] => [] | w :: r => if 41 = 41 then 0 :: w :: r else (w + 1) :: r).length = _
  cases hr : runsOf l with
  | nil => exact absurd hr h
  | cons w r => simp
theorem chk_runs : ∀ (l : List Nat) (o : Int), (∀ c ∈ l, c = 40 ∨ c = 41) → chk o l = true → o + ((runsOf l).sum : Int) + 1 = ((runsOf l).length : Int)
  | [], o, _, h => by
    have : o = 0 := by simpa [chk] using h
    subst this; rfl
  | c :: r, o, hc, h => by
    have hr := fun z hz => hc z (List.mem_cons_of_mem c hz)
    rcases hc c (List.mem_cons_self ..) with rfl | rfl
    · rw [chk, if_pos rfl] at h
      have := chk_runs r _ hr h
      obtain ⟨h1, h2⟩ := runs_c40 r
      rw [h1, h2]; omega
    · rw [chk, if_neg (by decide), if_pos rfl] at h
      by_cases h0 : o - 1 < 0
      · rw [if_pos h0] at h; cases h
      · rw [if_neg h0] at h
        have := chk_runs r _ hr h
        obtain ⟨h1, h2⟩ := runs_c41 r
        rw [h1, h2]; omega

end Mine
namespace Mine
--PLAIN
theorem qText_eq {a c d : Nat} : (qText a c == qText d 40) = (a == d && c == 40) := by
  rw [Bool.eq_iff_iff]
  simp only [beq_iff_eq, Bool.and_eq_true]
  unfold qText
  constructor
  · intro h
    have h1 := congrArg (fun s : Str => s.cps.toList) h
    simp at h1
    exact ⟨by omega, h1.2⟩
  · rintro ⟨rfl, rfl⟩; rfl
theorem dText_nat (d : Nat) : dText ((d : Nat) : Int) = qText d 40 := by
  unfold dText
  rw [if_neg (by omega), Int.toNat_natCast]
theorem cnt_rows {its : List (Value × Str)} {steps : List (Nat × Nat)} {d : Nat} (h : its.map (·.2) = steps.map fun q => qText q.1 q.2) :
    cntQ (dText (d : Int)) its = ((steps.filter fun q => q.1 == d && q.2 == 40).length : Nat) := by
  unfold cntQ
  rw [dText_nat]
  have h1 : (its.filter fun p => p.2 == qText d 40).length = ((its.map (·.2)).filter fun y => y == qText d 40).length := by
    rw [List.filter_map, List.length_map]; rfl
  rw [h1, h, List.filter_map, List.length_map]
  congr 2
  refine List.filter_congr fun q _ => ?_
  exact qText_eq
theorem counts_of {cs : List Value} {k : Nat} {its : List (Value × Str)} (hl : cs.length = k) (h : ∀ i y, cs[i]? = some y → ∃ t, y = Value.int (cntQ (dText ((i : Nat) : Int)) its) t) :
    IntsAre cs ((List.range k).map fun d => cntQ (dText ((d : Nat) : Int)) its) := by
  refine ints_of (by rw [hl, List.length_map, List.length_range]) fun i y n hy hn => ?_
  obtain ⟨t, rfl⟩ := h i y hy
  rw [List.getElem?_map] at hn
  obtain ⟨c, hc, rfl⟩ := Option.map_eq_some_iff.mp hn
  have : c = i := by
    obtain ⟨h1, h2⟩ := List.getElem?_eq_some_iff.mp hc
    rw [← h2, List.getElem_range]
  subst this
  exact ⟨t, rfl⟩

end Mine
namespace Mine
section
variable {w : World} {dp un : Nat} {gd : Option (List Code)} {cn : Str} {cs : Scope} {a : Addr} {ccd : Value} {cl : List (Str × Addr)} {outer : List Env} {A₀ : Around} {base h₀ : Heap} {L : Addr} {m : Str → Option Value} {news : List (Addr × Obj)} {s : Shared} {loose : List Str} {mean : ExcName → Option Value} {mg mb : Str → Option Value} {Q E : Value → Shared → Prop}

set_option maxRecDepth 100000 in
set_option maxHeartbeats 80000000 in
theorem law_holds : PySem.Challenge.rw_wu0073_01.Holds := hd (by
  k_fill
  intro w s₀ s₁ mg mb G Y fa o pm cd doc dV kV ho hd1 hcd hD hmg hg args vals as hpre hlay hrd hwl hlo
  have KX := kIn_of Y
  have X := (Ground.X G).1
  have V := (Ground.X G).2
  try w_nolog (first | (have GL := glob_more (Ground.glob G (by first | k_qdec | decide +kernel) (by first | k_qdec | decide +kernel)) V) | (have GL := glob_more (Ground.glob G (by decide +kernel)) V))
  refine Ground.open G ?_
  intro T B D TE TW
  try (refine guard_noD D (by decide +kernel) ?_; clear D)
  obtain ⟨_, _, M⟩ := bmod_of_top T
  have TA := at_of_top T
  try (obtain ⟨_, _, he, B0⟩ := based_of_top T rfl hmg ho hd1; have he' : cd = _ := he; subst he'; clear he)
  clear hmg
  wrow_args hpre hlay hrd hwl hlo
  (first | refine callC_kw (enter_call ?_) | refine enter_call ?_ | refine callC_kw (enter_callW ?_) | refine enter_callW ?_ | w_how)
  w_top on
  have K0 := below_caller (Top.heap T)
  w_call any ho hd1 hcd hD T F
  clear hd1 TA
  k_drop
  (all_goals try k_fold)
  (repeat' ((fail_if_success ((with_reducible first | show wpAny _ _ (exec (PySem.Stmt.While _ _ _ _) _) _ _ _ | show wpAny _ _ (exec (PySem.Stmt.For _ _ _ _ _) _) _ _ _ | show wpAny _ _ (call (Value.ref _) _ _) _ _ _ | show wpAny _ _ (compareOp CmpOp.Lt (Value.ref _) _) _ _ _ | show wpAny _ _ (compareOp CmpOp.Lt _ (Value.ref _)) _ _ _ | show wpAny _ _ (compareOp CmpOp.Lt (Prod.fst _) _) _ _ _ | show wpAny _ _ (compareOp CmpOp.Lt _ (Prod.fst _)) _ _ _ | show wpAny _ _ (compareOp CmpOp.Eq (Value.ref _) _) _ _ _ | show wpAny _ _ (pyIter _) (fun it s₂ => LoopAtV _ _ _ _ _ _ _ _ _ it s₂) _ _ | show wpAny _ _ (call (Value.builtin "str.split") _ _) _ _ _ | show wpAny _ _ (newList _) _ _ _ | show wpAny _ _ (call (Value.builtin "str.join") _ _) _ _ _ | show wpAny _ _ (call (Value.builtin "list.append") _ _) _ _ _ | show wpAny _ _ (exec (PySem.Stmt.Assign _ (PySem.Expr.ListComp _ _ _ _) _) _) _ _ _ | show wpAny _ _ (eval (PySem.Expr.ListComp _ _ _ _) _) _ _ _ | show wpAny _ _ (binaryOp Operator.Mult (Value.ref _) _) _ _ _ | show wpAny _ _ (subscriptTail _ _ (Value.ref _) (Value.int _ _)) _ _ _ | show wpAny _ _ (getItem (Value.ref _) (Value.int _ _)) _ _ _ | show wpAny _ _ (setItem (Value.ref _) (Value.int _ _) _) _ _ _ | show wpAny _ _ (binaryOp Operator.Add (Value.str _ _) (Value.str _ _)) _ _ _ | show wpAny _ _ (inplaceOp Operator.Add (Value.str _ _) (Value.str _ _)) _ _ _ | show wpAny _ _ (subscriptTail _ (PySem.Expr.Slice _ _ _ _) (Value.ref _) (Value.ref _)) _ _ _ | show wpAny _ _ (call (Value.builtin "sum") _ _) _ _ _ | show wpAny _ _ (binaryOp Operator.Mult (Value.str _ _) _) _ _ _ | show wpAny _ _ (compareOp CmpOp.NotIn (Value.str _ _) (Value.str _ _)) _ _ _ | show wpAny _ _ (call (Value.type "str") _ _) _ _ _ | show wpAny _ _ (call (Value.type "builtins.str") _ _) _ _ _ | show wpAny _ _ (binaryOp Operator.Mod (Value.str _ _) _) _ _ _ | show wpAny _ _ (compareOp CmpOp.NotEq (Value.ref _) (Value.ref _)) _ _ _ | show wpAny _ _ (compareOp CmpOp.NotEq (Value.str _ _) (Value.str _ _)) _ _ _))); (first | (k_unfold; (try dsimp only)) | (k_end; wrow_close) | walk1 | (dsimp only; walk1) | (leave1; walk_say "STEP leave1"; try dsimp only) | fail "no step")))
  rename Heap.IsList _ _ _ => hL
  rename IntsAre _ _ => hI
  refine page_call (by ((refine' Mine.Cx.mk ?cBq232 ?cFq232 ?cXq232 ?cNq232 ?cTq232 ?ckq232 ?cdq232 ?cuq232; (case cBq232 => k_asm); (case cFq232 => k_asm); (case cXq232 => k_asm); (case cNq232 => k_asm); (case cTq232 => k_asm); (case ckq232 => first | exact rfl | assumption); (case cdq232 => ktr_room); (case cuq232 => ktr_units)))) hL hI (by omega) ?_
  intro page i tp h1 tk1 hpg hi F1 N1
  (repeat' ((fail_if_success ((with_reducible first | show wpAny _ _ (exec (PySem.Stmt.While _ _ _ _) _) _ _ _ | show wpAny _ _ (exec (PySem.Stmt.For _ _ _ _ _) _) _ _ _ | show wpAny _ _ (call (Value.ref _) _ _) _ _ _ | show wpAny _ _ (compareOp CmpOp.Lt (Value.ref _) _) _ _ _ | show wpAny _ _ (compareOp CmpOp.Lt _ (Value.ref _)) _ _ _ | show wpAny _ _ (compareOp CmpOp.Lt (Prod.fst _) _) _ _ _ | show wpAny _ _ (compareOp CmpOp.Lt _ (Prod.fst _)) _ _ _ | show wpAny _ _ (compareOp CmpOp.Eq (Value.ref _) _) _ _ _ | show wpAny _ _ (pyIter _) (fun it s₂ => LoopAtV _ _ _ _ _ _ _ _ _ it s₂) _ _ | show wpAny _ _ (call (Value.builtin "str.split") _ _) _ _ _ | show wpAny _ _ (newList _) _ _ _ | show wpAny _ _ (call (Value.builtin "str.join") _ _) _ _ _ | show wpAny _ _ (call (Value.builtin "list.append") _ _) _ _ _ | show wpAny _ _ (exec (PySem.Stmt.Assign _ (PySem.Expr.ListComp _ _ _ _) _) _) _ _ _ | show wpAny _ _ (eval (PySem.Expr.ListComp _ _ _ _) _) _ _ _ | show wpAny _ _ (binaryOp Operator.Mult (Value.ref _) _) _ _ _ | show wpAny _ _ (subscriptTail _ _ (Value.ref _) (Value.int _ _)) _ _ _ | show wpAny _ _ (getItem (Value.ref _) (Value.int _ _)) _ _ _ | show wpAny _ _ (setItem (Value.ref _) (Value.int _ _) _) _ _ _ | show wpAny _ _ (binaryOp Operator.Add (Value.str _ _) (Value.str _ _)) _ _ _ | show wpAny _ _ (inplaceOp Operator.Add (Value.str _ _) (Value.str _ _)) _ _ _ | show wpAny _ _ (subscriptTail _ (PySem.Expr.Slice _ _ _ _) (Value.ref _) (Value.ref _)) _ _ _ | show wpAny _ _ (call (Value.builtin "sum") _ _) _ _ _ | show wpAny _ _ (binaryOp Operator.Mult (Value.str _ _) _) _ _ _ | show wpAny _ _ (compareOp CmpOp.NotIn (Value.str _ _) (Value.str _ _)) _ _ _ | show wpAny _ _ (call (Value.type "str") _ _) _ _ _ | show wpAny _ _ (call (Value.type "builtins.str") _ _) _ _ _ | show wpAny _ _ (binaryOp Operator.Mod (Value.str _ _) _) _ _ _ | show wpAny _ _ (compareOp CmpOp.NotEq (Value.ref _) (Value.ref _)) _ _ _ | show wpAny _ _ (compareOp CmpOp.NotEq (Value.str _ _) (Value.str _ _)) _ _ _))); (first | (k_unfold; (try dsimp only)) | (k_end; wrow_close) | walk1 | (dsimp only; walk1) | (leave1; walk_say "STEP leave1"; try dsimp only) | fail "no step")))
  refine newList_K (by k_asm) (by k_asm) ?_
  intro ls h2 F2 N2 hne2
  (repeat' ((fail_if_success ((with_reducible first | show wpAny _ _ (exec (PySem.Stmt.While _ _ _ _) _) _ _ _ | show wpAny _ _ (exec (PySem.Stmt.For _ _ _ _ _) _) _ _ _ | show wpAny _ _ (call (Value.ref _) _ _) _ _ _ | show wpAny _ _ (compareOp CmpOp.Lt (Value.ref _) _) _ _ _ | show wpAny _ _ (compareOp CmpOp.Lt _ (Value.ref _)) _ _ _ | show wpAny _ _ (compareOp CmpOp.Lt (Prod.fst _) _) _ _ _ | show wpAny _ _ (compareOp CmpOp.Lt _ (Prod.fst _)) _ _ _ | show wpAny _ _ (compareOp CmpOp.Eq (Value.ref _) _) _ _ _ | show wpAny _ _ (pyIter _) (fun it s₂ => LoopAtV _ _ _ _ _ _ _ _ _ it s₂) _ _ | show wpAny _ _ (call (Value.builtin "str.split") _ _) _ _ _ | show wpAny _ _ (newList _) _ _ _ | show wpAny _ _ (call (Value.builtin "str.join") _ _) _ _ _ | show wpAny _ _ (call (Value.builtin "list.append") _ _) _ _ _ | show wpAny _ _ (exec (PySem.Stmt.Assign _ (PySem.Expr.ListComp _ _ _ _) _) _) _ _ _ | show wpAny _ _ (eval (PySem.Expr.ListComp _ _ _ _) _) _ _ _ | show wpAny _ _ (binaryOp Operator.Mult (Value.ref _) _) _ _ _ | show wpAny _ _ (subscriptTail _ _ (Value.ref _) (Value.int _ _)) _ _ _ | show wpAny _ _ (getItem (Value.ref _) (Value.int _ _)) _ _ _ | show wpAny _ _ (setItem (Value.ref _) (Value.int _ _) _) _ _ _ | show wpAny _ _ (binaryOp Operator.Add (Value.str _ _) (Value.str _ _)) _ _ _ | show wpAny _ _ (inplaceOp Operator.Add (Value.str _ _) (Value.str _ _)) _ _ _ | show wpAny _ _ (subscriptTail _ (PySem.Expr.Slice _ _ _ _) (Value.ref _) (Value.ref _)) _ _ _ | show wpAny _ _ (call (Value.builtin "sum") _ _) _ _ _ | show wpAny _ _ (binaryOp Operator.Mult (Value.str _ _) _) _ _ _ | show wpAny _ _ (compareOp CmpOp.NotIn (Value.str _ _) (Value.str _ _)) _ _ _ | show wpAny _ _ (call (Value.type "str") _ _) _ _ _ | show wpAny _ _ (call (Value.type "builtins.str") _ _) _ _ _ | show wpAny _ _ (binaryOp Operator.Mod (Value.str _ _) _) _ _ _ | show wpAny _ _ (compareOp CmpOp.NotEq (Value.ref _) (Value.ref _)) _ _ _ | show wpAny _ _ (compareOp CmpOp.NotEq (Value.str _ _) (Value.str _ _)) _ _ _))); (first | (k_unfold; (try dsimp only)) | (k_end; wrow_close) | walk1 | (dsimp only; walk1) | (leave1; walk_say "STEP leave1"; try dsimp only) | fail "no step")))
  refine newList_K (by k_asm) (by k_asm) ?_
  intro lb h3 F3 N3 hne3
  (repeat' ((fail_if_success ((with_reducible first | show wpAny _ _ (exec (PySem.Stmt.While _ _ _ _) _) _ _ _ | show wpAny _ _ (exec (PySem.Stmt.For _ _ _ _ _) _) _ _ _ | show wpAny _ _ (call (Value.ref _) _ _) _ _ _ | show wpAny _ _ (compareOp CmpOp.Lt (Value.ref _) _) _ _ _ | show wpAny _ _ (compareOp CmpOp.Lt _ (Value.ref _)) _ _ _ | show wpAny _ _ (compareOp CmpOp.Lt (Prod.fst _) _) _ _ _ | show wpAny _ _ (compareOp CmpOp.Lt _ (Prod.fst _)) _ _ _ | show wpAny _ _ (compareOp CmpOp.Eq (Value.ref _) _) _ _ _ | show wpAny _ _ (pyIter _) (fun it s₂ => LoopAtV _ _ _ _ _ _ _ _ _ it s₂) _ _ | show wpAny _ _ (call (Value.builtin "str.split") _ _) _ _ _ | show wpAny _ _ (newList _) _ _ _ | show wpAny _ _ (call (Value.builtin "str.join") _ _) _ _ _ | show wpAny _ _ (call (Value.builtin "list.append") _ _) _ _ _ | show wpAny _ _ (exec (PySem.Stmt.Assign _ (PySem.Expr.ListComp _ _ _ _) _) _) _ _ _ | show wpAny _ _ (eval (PySem.Expr.ListComp _ _ _ _) _) _ _ _ | show wpAny _ _ (binaryOp Operator.Mult (Value.ref _) _) _ _ _ | show wpAny _ _ (subscriptTail _ _ (Value.ref _) (Value.int _ _)) _ _ _ | show wpAny _ _ (getItem (Value.ref _) (Value.int _ _)) _ _ _ | show wpAny _ _ (setItem (Value.ref _) (Value.int _ _) _) _ _ _ | show wpAny _ _ (binaryOp Operator.Add (Value.str _ _) (Value.str _ _)) _ _ _ | show wpAny _ _ (inplaceOp Operator.Add (Value.str _ _) (Value.str _ _)) _ _ _ | show wpAny _ _ (subscriptTail _ (PySem.Expr.Slice _ _ _ _) (Value.ref _) (Value.ref _)) _ _ _ | show wpAny _ _ (call (Value.builtin "sum") _ _) _ _ _ | show wpAny _ _ (binaryOp Operator.Mult (Value.str _ _) _) _ _ _ | show wpAny _ _ (compareOp CmpOp.NotIn (Value.str _ _) (Value.str _ _)) _ _ _ | show wpAny _ _ (call (Value.type "str") _ _) _ _ _ | show wpAny _ _ (call (Value.type "builtins.str") _ _) _ _ _ | show wpAny _ _ (binaryOp Operator.Mod (Value.str _ _) _) _ _ _ | show wpAny _ _ (compareOp CmpOp.NotEq (Value.ref _) (Value.ref _)) _ _ _ | show wpAny _ _ (compareOp CmpOp.NotEq (Value.str _ _) (Value.str _ _)) _ _ _))); (first | (k_unfold; (try dsimp only)) | (k_end; wrow_close) | walk1 | (dsimp only; walk1) | (leave1; walk_say "STEP leave1"; try dsimp only) | fail "no step")))
  ((k_here; (rename Fr _ _ _ _ => lF239); (with_unfolding_all refine' For_invVF lF239 ?k1q239 ?k2q239 ?_; (case k1q239 => exact rfl); (case k2q239 => exact rfl); k_whole)))
  (repeat' ((fail_if_success ((with_reducible first | show wpAny _ _ (exec (PySem.Stmt.While _ _ _ _) _) _ _ _ | show wpAny _ _ (exec (PySem.Stmt.For _ _ _ _ _) _) _ _ _ | show wpAny _ _ (call (Value.ref _) _ _) _ _ _ | show wpAny _ _ (compareOp CmpOp.Lt (Value.ref _) _) _ _ _ | show wpAny _ _ (compareOp CmpOp.Lt _ (Value.ref _)) _ _ _ | show wpAny _ _ (compareOp CmpOp.Lt (Prod.fst _) _) _ _ _ | show wpAny _ _ (compareOp CmpOp.Lt _ (Prod.fst _)) _ _ _ | show wpAny _ _ (compareOp CmpOp.Eq (Value.ref _) _) _ _ _ | show wpAny _ _ (pyIter _) (fun it s₂ => LoopAtV _ _ _ _ _ _ _ _ _ it s₂) _ _ | show wpAny _ _ (call (Value.builtin "str.split") _ _) _ _ _ | show wpAny _ _ (newList _) _ _ _ | show wpAny _ _ (call (Value.builtin "str.join") _ _) _ _ _ | show wpAny _ _ (call (Value.builtin "list.append") _ _) _ _ _ | show wpAny _ _ (exec (PySem.Stmt.Assign _ (PySem.Expr.ListComp _ _ _ _) _) _) _ _ _ | show wpAny _ _ (eval (PySem.Expr.ListComp _ _ _ _) _) _ _ _ | show wpAny _ _ (binaryOp Operator.Mult (Value.ref _) _) _ _ _ | show wpAny _ _ (subscriptTail _ _ (Value.ref _) (Value.int _ _)) _ _ _ | show wpAny _ _ (getItem (Value.ref _) (Value.int _ _)) _ _ _ | show wpAny _ _ (setItem (Value.ref _) (Value.int _ _) _) _ _ _ | show wpAny _ _ (binaryOp Operator.Add (Value.str _ _) (Value.str _ _)) _ _ _ | show wpAny _ _ (inplaceOp Operator.Add (Value.str _ _) (Value.str _ _)) _ _ _ | show wpAny _ _ (subscriptTail _ (PySem.Expr.Slice _ _ _ _) (Value.ref _) (Value.ref _)) _ _ _ | show wpAny _ _ (call (Value.builtin "sum") _ _) _ _ _ | show wpAny _ _ (binaryOp Operator.Mult (Value.str _ _) _) _ _ _ | show wpAny _ _ (compareOp CmpOp.NotIn (Value.str _ _) (Value.str _ _)) _ _ _ | show wpAny _ _ (call (Value.type "str") _ _) _ _ _ | show wpAny _ _ (call (Value.type "builtins.str") _ _) _ _ _ | show wpAny _ _ (binaryOp Operator.Mod (Value.str _ _) _) _ _ _ | show wpAny _ _ (compareOp CmpOp.NotEq (Value.ref _) (Value.ref _)) _ _ _ | show wpAny _ _ (compareOp CmpOp.NotEq (Value.str _ _) (Value.str _ _)) _ _ _))); (first | (k_unfold; (try dsimp only)) | (k_end; wrow_close) | walk1 | (dsimp only; walk1) | (leave1; walk_say "STEP leave1"; try dsimp only) | fail "no step")))
  have hok := page_ok hpg hi
  have hgood := page_good hpg hi
  rename News _ _ _ (_ :: _) => N4
  rename Obj => ocell
  refine loop_text (fun c : LS => LS.led lb ls (s₁.heap.objs.size + 1, ocell) c) (fun c => [(Str.ofString "depth", .int c.d c.td), (Str.ofString "pairs", .int c.p c.tp)]) [Str.ofString "bracket", Str.ofString "step"]
    (fun pre c => LSOk lb ls pre c) ⟨[], 0, [], 0, [], 0, _, 0, _⟩ (by rfl) (by k_asm) N4 (by kst_all) ?_ ?_ ?_
  · exact ⟨rfl, rfl, fun _ h => (nomatch h), fun _ h => (nomatch h), rfl, rfl, fun _ h => (nomatch h)⟩
  · rintro ⟨itsS, nS, itsB, nB, qs, dd, td, pp, tp'⟩ pre post ch t u h tk own I hpre hR _ hown hne F5 N5
    dsimp only [kstB, LS.led] at F5 N5 hne
    obtain ⟨hn7, hcc, hch1, hpl⟩ : (run pre).depth ≤ 7 ∧ (ch = 40 ∨ ch = 41) ∧ (ch = 41 → 1 ≤ (run pre).depth) ∧ pre.length ≤ 14 := by
      have hall := hok.2.1
      rw [hpre] at hall
      have hcp : ∀ c ∈ pre, c = 40 ∨ c = 41 := fun c hc => hall c (List.mem_append_left _ hc)
      refine ⟨?_, hall ch (List.mem_append_right _ (List.mem_cons_self ..)), ?_, ?_⟩
      · have h1 := (run_bound pre).1
        have h2 : cnt pre ≤ cnt page.cps.toList := by rw [hpre]; unfold cnt; rw [List.filter_append, List.length_append]; omega
        exact Nat.le_trans h1 (Nat.le_trans h2 hok.2.2.1)
      · rintro rfl
        refine chk_close (post := post) hcp ?_
        rw [← hpre]
        unfold good at hgood
        simp only [Bool.and_eq_true] at hgood
        exact hgood.1.1.1.1.1.1
      · have h1 := hok.1
        rw [hpre, List.length_append] at h1
        omega
    obtain ⟨hS, hB, qS, qB, hd', hp', hqs⟩ := hR
    dsimp only at hS hB qS qB hd' hp' hqs
    generalize hnd : (run pre).depth = nd at *
    generalize hnp : (run pre).pairs = np at *
    subst hd' hp'
    clear hgood hok hpre
    (((try dsimp only); (try k_fold)))
    (repeat' ((fail_if_success ((with_reducible first | show wpAny _ _ (exec (PySem.Stmt.While _ _ _ _) _) _ _ _ | show wpAny _ _ (exec (PySem.Stmt.For _ _ _ _ _) _) _ _ _ | show wpAny _ _ (call (Value.ref _) _ _) _ _ _ | show wpAny _ _ (compareOp CmpOp.Lt (Value.ref _) _) _ _ _ | show wpAny _ _ (compareOp CmpOp.Lt _ (Value.ref _)) _ _ _ | show wpAny _ _ (compareOp CmpOp.Lt (Prod.fst _) _) _ _ _ | show wpAny _ _ (compareOp CmpOp.Lt _ (Prod.fst _)) _ _ _ | show wpAny _ _ (compareOp CmpOp.Eq (Value.ref _) _) _ _ _ | show wpAny _ _ (pyIter _) (fun it s₂ => LoopAtV _ _ _ _ _ _ _ _ _ it s₂) _ _ | show wpAny _ _ (call (Value.builtin "str.split") _ _) _ _ _ | show wpAny _ _ (newList _) _ _ _ | show wpAny _ _ (call (Value.builtin "str.join") _ _) _ _ _ | show wpAny _ _ (call (Value.builtin "list.append") _ _) _ _ _ | show wpAny _ _ (exec (PySem.Stmt.Assign _ (PySem.Expr.ListComp _ _ _ _) _) _) _ _ _ | show wpAny _ _ (eval (PySem.Expr.ListComp _ _ _ _) _) _ _ _ | show wpAny _ _ (binaryOp Operator.Mult (Value.ref _) _) _ _ _ | show wpAny _ _ (subscriptTail _ _ (Value.ref _) (Value.int _ _)) _ _ _ | show wpAny _ _ (getItem (Value.ref _) (Value.int _ _)) _ _ _ | show wpAny _ _ (setItem (Value.ref _) (Value.int _ _) _) _ _ _ | show wpAny _ _ (binaryOp Operator.Add (Value.str _ _) (Value.str _ _)) _ _ _ | show wpAny _ _ (inplaceOp Operator.Add (Value.str _ _) (Value.str _ _)) _ _ _ | show wpAny _ _ (subscriptTail _ (PySem.Expr.Slice _ _ _ _) (Value.ref _) (Value.ref _)) _ _ _ | show wpAny _ _ (call (Value.builtin "sum") _ _) _ _ _ | show wpAny _ _ (binaryOp Operator.Mult (Value.str _ _) _) _ _ _ | show wpAny _ _ (compareOp CmpOp.NotIn (Value.str _ _) (Value.str _ _)) _ _ _ | show wpAny _ _ (call (Value.type "str") _ _) _ _ _ | show wpAny _ _ (call (Value.type "builtins.str") _ _) _ _ _ | show wpAny _ _ (binaryOp Operator.Mod (Value.str _ _) _) _ _ _ | show wpAny _ _ (compareOp CmpOp.NotEq (Value.ref _) (Value.ref _)) _ _ _ | show wpAny _ _ (compareOp CmpOp.NotEq (Value.str _ _) (Value.str _ _)) _ _ _))); (first | (k_unfold; (try dsimp only)) | (k_end; wrow_close) | walk1 | (dsimp only; walk1) | (leave1; walk_say "STEP leave1"; try dsimp only) | fail "no step")))
    refine str_dig (by omega) ?_
    intro t3 tk3
    (repeat' ((fail_if_success ((with_reducible first | show wpAny _ _ (exec (PySem.Stmt.While _ _ _ _) _) _ _ _ | show wpAny _ _ (exec (PySem.Stmt.For _ _ _ _ _) _) _ _ _ | show wpAny _ _ (call (Value.ref _) _ _) _ _ _ | show wpAny _ _ (compareOp CmpOp.Lt (Value.ref _) _) _ _ _ | show wpAny _ _ (compareOp CmpOp.Lt _ (Value.ref _)) _ _ _ | show wpAny _ _ (compareOp CmpOp.Lt (Prod.fst _) _) _ _ _ | show wpAny _ _ (compareOp CmpOp.Lt _ (Prod.fst _)) _ _ _ | show wpAny _ _ (compareOp CmpOp.Eq (Value.ref _) _) _ _ _ | show wpAny _ _ (pyIter _) (fun it s₂ => LoopAtV _ _ _ _ _ _ _ _ _ it s₂) _ _ | show wpAny _ _ (call (Value.builtin "str.split") _ _) _ _ _ | show wpAny _ _ (newList _) _ _ _ | show wpAny _ _ (call (Value.builtin "str.join") _ _) _ _ _ | show wpAny _ _ (call (Value.builtin "list.append") _ _) _ _ _ | show wpAny _ _ (exec (PySem.Stmt.Assign _ (PySem.Expr.ListComp _ _ _ _) _) _) _ _ _ | show wpAny _ _ (eval (PySem.Expr.ListComp _ _ _ _) _) _ _ _ | show wpAny _ _ (binaryOp Operator.Mult (Value.ref _) _) _ _ _ | show wpAny _ _ (subscriptTail _ _ (Value.ref _) (Value.int _ _)) _ _ _ | show wpAny _ _ (getItem (Value.ref _) (Value.int _ _)) _ _ _ | show wpAny _ _ (setItem (Value.ref _) (Value.int _ _) _) _ _ _ | show wpAny _ _ (binaryOp Operator.Add (Value.str _ _) (Value.str _ _)) _ _ _ | show wpAny _ _ (inplaceOp Operator.Add (Value.str _ _) (Value.str _ _)) _ _ _ | show wpAny _ _ (subscriptTail _ (PySem.Expr.Slice _ _ _ _) (Value.ref _) (Value.ref _)) _ _ _ | show wpAny _ _ (call (Value.builtin "sum") _ _) _ _ _ | show wpAny _ _ (binaryOp Operator.Mult (Value.str _ _) _) _ _ _ | show wpAny _ _ (compareOp CmpOp.NotIn (Value.str _ _) (Value.str _ _)) _ _ _ | show wpAny _ _ (call (Value.type "str") _ _) _ _ _ | show wpAny _ _ (call (Value.type "builtins.str") _ _) _ _ _ | show wpAny _ _ (binaryOp Operator.Mod (Value.str _ _) _) _ _ _ | show wpAny _ _ (compareOp CmpOp.NotEq (Value.ref _) (Value.ref _)) _ _ _ | show wpAny _ _ (compareOp CmpOp.NotEq (Value.str _ _) (Value.str _ _)) _ _ _))); (first | (k_unfold; (try dsimp only)) | (k_end; wrow_close) | walk1 | (dsimp only; walk1) | (leave1; walk_say "STEP leave1"; try dsimp only) | fail "no step")))
    refine qname_call (n := nd) (c := ch) (by ((refine' Mine.Cx.mk ?cBq247 ?cFq247 ?cXq247 ?cNq247 ?cTq247 ?ckq247 ?cdq247 ?cuq247; (case cBq247 => k_asm); (case cFq247 => k_asm); (case cXq247 => k_asm); (case cNq247 => k_asm); (case cTq247 => k_asm); (case ckq247 => first | exact rfl | assumption); (case cdq247 => ktr_room); (case cuq247 => ktr_units)))) ?_
    intro x dx hsh kt tkq h6 tk6 lx1 lx2 F6 N6
    (repeat' ((fail_if_success ((with_reducible first | show wpAny _ _ (exec (PySem.Stmt.While _ _ _ _) _) _ _ _ | show wpAny _ _ (exec (PySem.Stmt.For _ _ _ _ _) _) _ _ _ | show wpAny _ _ (call (Value.ref _) _ _) _ _ _ | show wpAny _ _ (compareOp CmpOp.Lt (Value.ref _) _) _ _ _ | show wpAny _ _ (compareOp CmpOp.Lt _ (Value.ref _)) _ _ _ | show wpAny _ _ (compareOp CmpOp.Lt (Prod.fst _) _) _ _ _ | show wpAny _ _ (compareOp CmpOp.Lt _ (Prod.fst _)) _ _ _ | show wpAny _ _ (compareOp CmpOp.Eq (Value.ref _) _) _ _ _ | show wpAny _ _ (pyIter _) (fun it s₂ => LoopAtV _ _ _ _ _ _ _ _ _ it s₂) _ _ | show wpAny _ _ (call (Value.builtin "str.split") _ _) _ _ _ | show wpAny _ _ (newList _) _ _ _ | show wpAny _ _ (call (Value.builtin "str.join") _ _) _ _ _ | show wpAny _ _ (call (Value.builtin "list.append") _ _) _ _ _ | show wpAny _ _ (exec (PySem.Stmt.Assign _ (PySem.Expr.ListComp _ _ _ _) _) _) _ _ _ | show wpAny _ _ (eval (PySem.Expr.ListComp _ _ _ _) _) _ _ _ | show wpAny _ _ (binaryOp Operator.Mult (Value.ref _) _) _ _ _ | show wpAny _ _ (subscriptTail _ _ (Value.ref _) (Value.int _ _)) _ _ _ | show wpAny _ _ (getItem (Value.ref _) (Value.int _ _)) _ _ _ | show wpAny _ _ (setItem (Value.ref _) (Value.int _ _) _) _ _ _ | show wpAny _ _ (binaryOp Operator.Add (Value.str _ _) (Value.str _ _)) _ _ _ | show wpAny _ _ (inplaceOp Operator.Add (Value.str _ _) (Value.str _ _)) _ _ _ | show wpAny _ _ (subscriptTail _ (PySem.Expr.Slice _ _ _ _) (Value.ref _) (Value.ref _)) _ _ _ | show wpAny _ _ (call (Value.builtin "sum") _ _) _ _ _ | show wpAny _ _ (binaryOp Operator.Mult (Value.str _ _) _) _ _ _ | show wpAny _ _ (compareOp CmpOp.NotIn (Value.str _ _) (Value.str _ _)) _ _ _ | show wpAny _ _ (call (Value.type "str") _ _) _ _ _ | show wpAny _ _ (call (Value.type "builtins.str") _ _) _ _ _ | show wpAny _ _ (binaryOp Operator.Mod (Value.str _ _) _) _ _ _ | show wpAny _ _ (compareOp CmpOp.NotEq (Value.ref _) (Value.ref _)) _ _ _ | show wpAny _ _ (compareOp CmpOp.NotEq (Value.str _ _) (Value.str _ _)) _ _ _))); (first | (k_unfold; (try dsimp only)) | (k_end; wrow_close) | walk1 | (dsimp only; walk1) | (leave1; walk_say "STEP leave1"; try dsimp only) | fail "no step")))
    have hlenS : itsS.length = pre.length := by
      have := congrArg List.length hS
      rw [List.length_map, List.length_map] at this
      rw [this]; exact (run_bound pre).2.2.2.1
    have hlenB : itsB.length ≤ pre.length := by
      have := congrArg List.length hB
      rw [List.length_map, List.length_map] at this
      rw [this]; exact (run_bound pre).2.2.2.2
    have hq6 : IsQ ((x, instObj 157 dx) :: (dx, dictOf [⟨hsh, .str (Str.ofString "text") kt, .str (qText nd ch) tkq⟩] 1) :: qs) (.ref x) (qText nd ch) := ⟨x, dx, hsh, kt, tkq, rfl, .head _, .tail _ (.head _)⟩
    have hls : ls < dx := lx1 _ (.tail _ (.head _))
    have hlb : lb < dx := lx1 _ (.head _)
    have hlsb : ls < lb := hne3 _ (.head _)
    have hcl : s₁.heap.objs.size + 1 < ls := hne2 _ (.head _)
    have hown1 : ∀ p ∈ own, p.1 ≠ ls := fun p hp => by rw [hown p hp]; exact fun e => hne _ (.tail _ (.head _)) e.symm
    have hown2 : ∀ p ∈ own, p.1 ≠ lb := fun p hp => by rw [hown p hp]; exact fun e => hne _ (.head _) e.symm
    have hsub : ∀ (o1 o2 o3 : Obj) p, p ∈ ((x, instObj 157 dx) :: (dx, dictOf [⟨hsh, .str (Str.ofString "text") kt, .str (qText nd ch) tkq⟩] 1) :: qs) →
        p ∈ ((x, instObj 157 dx) :: (dx, dictOf [⟨hsh, .str (Str.ofString "text") kt, .str (qText nd ch) tkq⟩] 1) :: (lb, o1) :: (ls, o2) :: (s₁.heap.objs.size + 1, o3) :: (qs ++ own)) := by
      intro o1 o2 o3 p hp
      rcases List.mem_cons.mp hp with rfl | hp
      · exact .head _
      rcases List.mem_cons.mp hp with rfl | hp
      · exact .tail _ (.head _)
      exact .tail _ (.tail _ (.tail _ (.tail _ (.tail _ (List.mem_append_left _ hp)))))
    have hqs1 : ∀ (o3 : Obj), ∀ p ∈ (s₁.heap.objs.size + 1, o3) :: (qs ++ own), p.1 ≠ ls := by
      intro o3 p hp
      rcases List.mem_cons.mp hp with rfl | hp
      · exact Nat.ne_of_lt hcl
      rcases List.mem_append.mp hp with hp | hp
      · exact (hqs p hp).2
      · exact hown1 p hp
    have hqs2 : ∀ (o2 o3 : Obj), ∀ p ∈ (ls, o2) :: (s₁.heap.objs.size + 1, o3) :: (qs ++ own), p.1 ≠ lb := by
      intro o2 o3 p hp
      rcases List.mem_cons.mp hp with rfl | hp
      · exact Nat.ne_of_lt hlsb
      rcases List.mem_cons.mp hp with rfl | hp
      · exact Nat.ne_of_lt (Nat.lt_trans hcl hlsb)
      rcases List.mem_append.mp hp with hp | hp
      · exact (hqs p hp).1
      · exact hown2 p hp
    have qS6 : QsAre _ itsS := qS.mono fun p hp => List.mem_cons_of_mem (x, instObj 157 dx) (List.mem_cons_of_mem (dx, dictOf [⟨hsh, .str (Str.ofString "text") kt, .str (qText nd ch) tkq⟩] 1) hp)
    have qB6 : QsAre _ itsB := qB.mono fun p hp => List.mem_cons_of_mem (x, instObj 157 dx) (List.mem_cons_of_mem (dx, dictOf [⟨hsh, .str (Str.ofString "text") kt, .str (qText nd ch) tkq⟩] 1) hp)
    have hqs6 : ∀ p ∈ ((x, instObj 157 dx) :: (dx, dictOf [⟨hsh, .str (Str.ofString "text") kt, .str (qText nd ch) tkq⟩] 1) :: qs), p.1 ≠ lb ∧ p.1 ≠ ls := by
      intro p hp
      rcases List.mem_cons.mp hp with rfl | hp
      · exact ⟨Nat.ne_of_gt (Nat.lt_trans hlb lx2), Nat.ne_of_gt (Nat.lt_trans hls lx2)⟩
      rcases List.mem_cons.mp hp with rfl | hp
      · exact ⟨Nat.ne_of_gt hlb, Nat.ne_of_gt hls⟩
      exact hqs p hp
    have hI6 : ∀ p ∈ ((x, instObj 157 dx) :: (dx, dictOf [⟨hsh, .str (Str.ofString "text") kt, .str (qText nd ch) tkq⟩] 1) :: qs), p.1 ≠ I := by
      obtain ⟨oI, hoI⟩ := ‹∃ o, (I, o) ∈ own›
      have hIdx : I < dx := lx1 (I, oI) (.tail _ (.tail _ (.tail _ (List.mem_append_right qs hoI))))
      intro p hp
      rcases List.mem_cons.mp hp with rfl | hp
      · exact Nat.ne_of_gt (Nat.lt_trans hIdx lx2)
      rcases List.mem_cons.mp hp with rfl | hp
      · exact Nat.ne_of_gt hIdx
      exact hne p (.tail _ (.tail _ (.tail _ hp)))
    have hI7 : lb ≠ I ∧ ls ≠ I ∧ s₁.heap.objs.size + 1 ≠ I := ⟨hne _ (.head _), hne _ (.tail _ (.head _)), hne _ (.tail _ (.tail _ (.head _)))⟩
    clear N4 hne2 hne3 hne lx1 N5 hpg hi
    rcases hcc with rfl | rfl
    · refine insort_key_call (its := itsS) (n := nS) (x := qText nd 40) (xv := .ref x) (by ((refine' Mine.Cx.mk ?cBq250 ?cFq250 ?cXq250 ?cNq250 ?cTq250 ?ckq250 ?cdq250 ?cuq250; (case cBq250 => k_asm); (case cFq250 => k_asm); (case cXq250 => k_asm); (case cNq250 => k_asm); (case cTq250 => k_asm); (case ckq250 => first | exact rfl | assumption); (case cdq250 => ktr_room); (case cuq250 => ktr_units)))) (qS6.mono (hsub _ _ _)) (by omega) (hq6.mono (hsub _ _ _)) (show 4 ≤ 100 by decide) (show 2 ≤ 4 by decide)
        (.tail (Nat.ne_of_gt (Nat.lt_trans hls lx2)) (.tail (Nat.ne_of_gt hls) (.tail (Nat.ne_of_gt hlsb) (.head (hqs1 _))))) ?_
      intro h7 tk7 F7 N7
      (repeat' ((fail_if_success ((with_reducible first | show wpAny _ _ (exec (PySem.Stmt.While _ _ _ _) _) _ _ _ | show wpAny _ _ (exec (PySem.Stmt.For _ _ _ _ _) _) _ _ _ | show wpAny _ _ (call (Value.ref _) _ _) _ _ _ | show wpAny _ _ (compareOp CmpOp.Lt (Value.ref _) _) _ _ _ | show wpAny _ _ (compareOp CmpOp.Lt _ (Value.ref _)) _ _ _ | show wpAny _ _ (compareOp CmpOp.Lt (Prod.fst _) _) _ _ _ | show wpAny _ _ (compareOp CmpOp.Lt _ (Prod.fst _)) _ _ _ | show wpAny _ _ (compareOp CmpOp.Eq (Value.ref _) _) _ _ _ | show wpAny _ _ (pyIter _) (fun it s₂ => LoopAtV _ _ _ _ _ _ _ _ _ it s₂) _ _ | show wpAny _ _ (call (Value.builtin "str.split") _ _) _ _ _ | show wpAny _ _ (newList _) _ _ _ | show wpAny _ _ (call (Value.builtin "str.join") _ _) _ _ _ | show wpAny _ _ (call (Value.builtin "list.append") _ _) _ _ _ | show wpAny _ _ (exec (PySem.Stmt.Assign _ (PySem.Expr.ListComp _ _ _ _) _) _) _ _ _ | show wpAny _ _ (eval (PySem.Expr.ListComp _ _ _ _) _) _ _ _ | show wpAny _ _ (binaryOp Operator.Mult (Value.ref _) _) _ _ _ | show wpAny _ _ (subscriptTail _ _ (Value.ref _) (Value.int _ _)) _ _ _ | show wpAny _ _ (getItem (Value.ref _) (Value.int _ _)) _ _ _ | show wpAny _ _ (setItem (Value.ref _) (Value.int _ _) _) _ _ _ | show wpAny _ _ (binaryOp Operator.Add (Value.str _ _) (Value.str _ _)) _ _ _ | show wpAny _ _ (inplaceOp Operator.Add (Value.str _ _) (Value.str _ _)) _ _ _ | show wpAny _ _ (subscriptTail _ (PySem.Expr.Slice _ _ _ _) (Value.ref _) (Value.ref _)) _ _ _ | show wpAny _ _ (call (Value.builtin "sum") _ _) _ _ _ | show wpAny _ _ (binaryOp Operator.Mult (Value.str _ _) _) _ _ _ | show wpAny _ _ (compareOp CmpOp.NotIn (Value.str _ _) (Value.str _ _)) _ _ _ | show wpAny _ _ (call (Value.type "str") _ _) _ _ _ | show wpAny _ _ (call (Value.type "builtins.str") _ _) _ _ _ | show wpAny _ _ (binaryOp Operator.Mod (Value.str _ _) _) _ _ _ | show wpAny _ _ (compareOp CmpOp.NotEq (Value.ref _) (Value.ref _)) _ _ _ | show wpAny _ _ (compareOp CmpOp.NotEq (Value.str _ _) (Value.str _ _)) _ _ _))); (first | (k_unfold; (try dsimp only)) | (k_end; wrow_close) | walk1 | (dsimp only; walk1) | (leave1; walk_say "STEP leave1"; try dsimp only) | fail "no step")))
      refine bisect_right_q_call (its := itsB) (n := nB) (x := qText nd 40) (by ((refine' Mine.Cx.mk ?cBq253 ?cFq253 ?cXq253 ?cNq253 ?cTq253 ?ckq253 ?cdq253 ?cuq253; (case cBq253 => k_asm); (case cFq253 => k_asm); (case cXq253 => k_asm); (case cNq253 => k_asm); (case cTq253 => k_asm); (case ckq253 => first | exact rfl | assumption); (case cdq253 => ktr_room); (case cuq253 => ktr_units)))) (.tail _ (.tail _ (.head _))) (qB6.mono (hsub _ _ _)) (by omega) (hq6.mono (hsub _ _ _)) ?_
      intro t8 h8 tk8 F8 N8
      (repeat' ((fail_if_success ((with_reducible first | show wpAny _ _ (exec (PySem.Stmt.While _ _ _ _) _) _ _ _ | show wpAny _ _ (exec (PySem.Stmt.For _ _ _ _ _) _) _ _ _ | show wpAny _ _ (call (Value.ref _) _ _) _ _ _ | show wpAny _ _ (compareOp CmpOp.Lt (Value.ref _) _) _ _ _ | show wpAny _ _ (compareOp CmpOp.Lt _ (Value.ref _)) _ _ _ | show wpAny _ _ (compareOp CmpOp.Lt (Prod.fst _) _) _ _ _ | show wpAny _ _ (compareOp CmpOp.Lt _ (Prod.fst _)) _ _ _ | show wpAny _ _ (compareOp CmpOp.Eq (Value.ref _) _) _ _ _ | show wpAny _ _ (pyIter _) (fun it s₂ => LoopAtV _ _ _ _ _ _ _ _ _ it s₂) _ _ | show wpAny _ _ (call (Value.builtin "str.split") _ _) _ _ _ | show wpAny _ _ (newList _) _ _ _ | show wpAny _ _ (call (Value.builtin "str.join") _ _) _ _ _ | show wpAny _ _ (call (Value.builtin "list.append") _ _) _ _ _ | show wpAny _ _ (exec (PySem.Stmt.Assign _ (PySem.Expr.ListComp _ _ _ _) _) _) _ _ _ | show wpAny _ _ (eval (PySem.Expr.ListComp _ _ _ _) _) _ _ _ | show wpAny _ _ (binaryOp Operator.Mult (Value.ref _) _) _ _ _ | show wpAny _ _ (subscriptTail _ _ (Value.ref _) (Value.int _ _)) _ _ _ | show wpAny _ _ (getItem (Value.ref _) (Value.int _ _)) _ _ _ | show wpAny _ _ (setItem (Value.ref _) (Value.int _ _) _) _ _ _ | show wpAny _ _ (binaryOp Operator.Add (Value.str _ _) (Value.str _ _)) _ _ _ | show wpAny _ _ (inplaceOp Operator.Add (Value.str _ _) (Value.str _ _)) _ _ _ | show wpAny _ _ (subscriptTail _ (PySem.Expr.Slice _ _ _ _) (Value.ref _) (Value.ref _)) _ _ _ | show wpAny _ _ (call (Value.builtin "sum") _ _) _ _ _ | show wpAny _ _ (binaryOp Operator.Mult (Value.str _ _) _) _ _ _ | show wpAny _ _ (compareOp CmpOp.NotIn (Value.str _ _) (Value.str _ _)) _ _ _ | show wpAny _ _ (call (Value.type "str") _ _) _ _ _ | show wpAny _ _ (call (Value.type "builtins.str") _ _) _ _ _ | show wpAny _ _ (binaryOp Operator.Mod (Value.str _ _) _) _ _ _ | show wpAny _ _ (compareOp CmpOp.NotEq (Value.ref _) (Value.ref _)) _ _ _ | show wpAny _ _ (compareOp CmpOp.NotEq (Value.str _ _) (Value.str _ _)) _ _ _))); (first | (k_unfold; (try dsimp only)) | (k_end; wrow_close) | walk1 | (dsimp only; walk1) | (leave1; walk_say "STEP leave1"; try dsimp only) | fail "no step")))
      refine mod_deep (by omega) (by omega) ?_
      intro t9 tk9
      (repeat' ((fail_if_success ((with_reducible first | show wpAny _ _ (exec (PySem.Stmt.While _ _ _ _) _) _ _ _ | show wpAny _ _ (exec (PySem.Stmt.For _ _ _ _ _) _) _ _ _ | show wpAny _ _ (call (Value.ref _) _ _) _ _ _ | show wpAny _ _ (compareOp CmpOp.Lt (Value.ref _) _) _ _ _ | show wpAny _ _ (compareOp CmpOp.Lt _ (Value.ref _)) _ _ _ | show wpAny _ _ (compareOp CmpOp.Lt (Prod.fst _) _) _ _ _ | show wpAny _ _ (compareOp CmpOp.Lt _ (Prod.fst _)) _ _ _ | show wpAny _ _ (compareOp CmpOp.Eq (Value.ref _) _) _ _ _ | show wpAny _ _ (pyIter _) (fun it s₂ => LoopAtV _ _ _ _ _ _ _ _ _ it s₂) _ _ | show wpAny _ _ (call (Value.builtin "str.split") _ _) _ _ _ | show wpAny _ _ (newList _) _ _ _ | show wpAny _ _ (call (Value.builtin "str.join") _ _) _ _ _ | show wpAny _ _ (call (Value.builtin "list.append") _ _) _ _ _ | show wpAny _ _ (exec (PySem.Stmt.Assign _ (PySem.Expr.ListComp _ _ _ _) _) _) _ _ _ | show wpAny _ _ (eval (PySem.Expr.ListComp _ _ _ _) _) _ _ _ | show wpAny _ _ (binaryOp Operator.Mult (Value.ref _) _) _ _ _ | show wpAny _ _ (subscriptTail _ _ (Value.ref _) (Value.int _ _)) _ _ _ | show wpAny _ _ (getItem (Value.ref _) (Value.int _ _)) _ _ _ | show wpAny _ _ (setItem (Value.ref _) (Value.int _ _) _) _ _ _ | show wpAny _ _ (binaryOp Operator.Add (Value.str _ _) (Value.str _ _)) _ _ _ | show wpAny _ _ (inplaceOp Operator.Add (Value.str _ _) (Value.str _ _)) _ _ _ | show wpAny _ _ (subscriptTail _ (PySem.Expr.Slice _ _ _ _) (Value.ref _) (Value.ref _)) _ _ _ | show wpAny _ _ (call (Value.builtin "sum") _ _) _ _ _ | show wpAny _ _ (binaryOp Operator.Mult (Value.str _ _) _) _ _ _ | show wpAny _ _ (compareOp CmpOp.NotIn (Value.str _ _) (Value.str _ _)) _ _ _ | show wpAny _ _ (call (Value.type "str") _ _) _ _ _ | show wpAny _ _ (call (Value.type "builtins.str") _ _) _ _ _ | show wpAny _ _ (binaryOp Operator.Mod (Value.str _ _) _) _ _ _ | show wpAny _ _ (compareOp CmpOp.NotEq (Value.ref _) (Value.ref _)) _ _ _ | show wpAny _ _ (compareOp CmpOp.NotEq (Value.str _ _) (Value.str _ _)) _ _ _))); (first | (k_unfold; (try dsimp only)) | (k_end; wrow_close) | walk1 | (dsimp only; walk1) | (leave1; walk_say "STEP leave1"; try dsimp only) | fail "no step")))
      refine bisect_left_s_call (its := itsB) (n := nB) (by ((refine' Mine.Cx.mk ?cBq258 ?cFq258 ?cXq258 ?cNq258 ?cTq258 ?ckq258 ?cdq258 ?cuq258; (case cBq258 => k_asm); (case cFq258 => k_asm); (case cXq258 => k_asm); (case cNq258 => k_asm); (case cTq258 => k_asm); (case ckq258 => first | exact rfl | assumption); (case cdq258 => ktr_room); (case cuq258 => ktr_units)))) (.tail _ (.tail _ (.head _))) (qB6.mono (hsub _ _ _)) (by omega) ?_
      intro t10 h10 tk10 F10 N10
      (repeat' ((fail_if_success ((with_reducible first | show wpAny _ _ (exec (PySem.Stmt.While _ _ _ _) _) _ _ _ | show wpAny _ _ (exec (PySem.Stmt.For _ _ _ _ _) _) _ _ _ | show wpAny _ _ (call (Value.ref _) _ _) _ _ _ | show wpAny _ _ (compareOp CmpOp.Lt (Value.ref _) _) _ _ _ | show wpAny _ _ (compareOp CmpOp.Lt _ (Value.ref _)) _ _ _ | show wpAny _ _ (compareOp CmpOp.Lt (Prod.fst _) _) _ _ _ | show wpAny _ _ (compareOp CmpOp.Lt _ (Prod.fst _)) _ _ _ | show wpAny _ _ (compareOp CmpOp.Eq (Value.ref _) _) _ _ _ | show wpAny _ _ (pyIter _) (fun it s₂ => LoopAtV _ _ _ _ _ _ _ _ _ it s₂) _ _ | show wpAny _ _ (call (Value.builtin "str.split") _ _) _ _ _ | show wpAny _ _ (newList _) _ _ _ | show wpAny _ _ (call (Value.builtin "str.join") _ _) _ _ _ | show wpAny _ _ (call (Value.builtin "list.append") _ _) _ _ _ | show wpAny _ _ (exec (PySem.Stmt.Assign _ (PySem.Expr.ListComp _ _ _ _) _) _) _ _ _ | show wpAny _ _ (eval (PySem.Expr.ListComp _ _ _ _) _) _ _ _ | show wpAny _ _ (binaryOp Operator.Mult (Value.ref _) _) _ _ _ | show wpAny _ _ (subscriptTail _ _ (Value.ref _) (Value.int _ _)) _ _ _ | show wpAny _ _ (getItem (Value.ref _) (Value.int _ _)) _ _ _ | show wpAny _ _ (setItem (Value.ref _) (Value.int _ _) _) _ _ _ | show wpAny _ _ (binaryOp Operator.Add (Value.str _ _) (Value.str _ _)) _ _ _ | show wpAny _ _ (inplaceOp Operator.Add (Value.str _ _) (Value.str _ _)) _ _ _ | show wpAny _ _ (subscriptTail _ (PySem.Expr.Slice _ _ _ _) (Value.ref _) (Value.ref _)) _ _ _ | show wpAny _ _ (call (Value.builtin "sum") _ _) _ _ _ | show wpAny _ _ (binaryOp Operator.Mult (Value.str _ _) _) _ _ _ | show wpAny _ _ (compareOp CmpOp.NotIn (Value.str _ _) (Value.str _ _)) _ _ _ | show wpAny _ _ (call (Value.type "str") _ _) _ _ _ | show wpAny _ _ (call (Value.type "builtins.str") _ _) _ _ _ | show wpAny _ _ (binaryOp Operator.Mod (Value.str _ _) _) _ _ _ | show wpAny _ _ (compareOp CmpOp.NotEq (Value.ref _) (Value.ref _)) _ _ _ | show wpAny _ _ (compareOp CmpOp.NotEq (Value.str _ _) (Value.str _ _)) _ _ _))); (first | (k_unfold; (try dsimp only)) | (k_end; wrow_close) | walk1 | (dsimp only; walk1) | (leave1; walk_say "STEP leave1"; try dsimp only) | fail "no step")))
      refine insort_call (its := itsB) (n := nB) (x := qText nd 40) (xv := .ref x) (by ((refine' Mine.Cx.mk ?cBq261 ?cFq261 ?cXq261 ?cNq261 ?cTq261 ?ckq261 ?cdq261 ?cuq261; (case cBq261 => k_asm); (case cFq261 => k_asm); (case cXq261 => k_asm); (case cNq261 => k_asm); (case cTq261 => k_asm); (case ckq261 => first | exact rfl | assumption); (case cdq261 => ktr_room); (case cuq261 => ktr_units)))) (qB6.mono (hsub _ _ _)) (by omega) (hq6.mono (hsub _ _ _))
        (.tail (Nat.ne_of_gt (Nat.lt_trans hlb lx2)) (.tail (Nat.ne_of_gt hlb) (.head (hqs2 _ _)))) ?_
      intro h11 tk11 F11 N11
      (repeat' ((fail_if_success ((with_reducible first | show wpAny _ _ (exec (PySem.Stmt.While _ _ _ _) _) _ _ _ | show wpAny _ _ (exec (PySem.Stmt.For _ _ _ _ _) _) _ _ _ | show wpAny _ _ (call (Value.ref _) _ _) _ _ _ | show wpAny _ _ (compareOp CmpOp.Lt (Value.ref _) _) _ _ _ | show wpAny _ _ (compareOp CmpOp.Lt _ (Value.ref _)) _ _ _ | show wpAny _ _ (compareOp CmpOp.Lt (Prod.fst _) _) _ _ _ | show wpAny _ _ (compareOp CmpOp.Lt _ (Prod.fst _)) _ _ _ | show wpAny _ _ (compareOp CmpOp.Eq (Value.ref _) _) _ _ _ | show wpAny _ _ (pyIter _) (fun it s₂ => LoopAtV _ _ _ _ _ _ _ _ _ it s₂) _ _ | show wpAny _ _ (call (Value.builtin "str.split") _ _) _ _ _ | show wpAny _ _ (newList _) _ _ _ | show wpAny _ _ (call (Value.builtin "str.join") _ _) _ _ _ | show wpAny _ _ (call (Value.builtin "list.append") _ _) _ _ _ | show wpAny _ _ (exec (PySem.Stmt.Assign _ (PySem.Expr.ListComp _ _ _ _) _) _) _ _ _ | show wpAny _ _ (eval (PySem.Expr.ListComp _ _ _ _) _) _ _ _ | show wpAny _ _ (binaryOp Operator.Mult (Value.ref _) _) _ _ _ | show wpAny _ _ (subscriptTail _ _ (Value.ref _) (Value.int _ _)) _ _ _ | show wpAny _ _ (getItem (Value.ref _) (Value.int _ _)) _ _ _ | show wpAny _ _ (setItem (Value.ref _) (Value.int _ _) _) _ _ _ | show wpAny _ _ (binaryOp Operator.Add (Value.str _ _) (Value.str _ _)) _ _ _ | show wpAny _ _ (inplaceOp Operator.Add (Value.str _ _) (Value.str _ _)) _ _ _ | show wpAny _ _ (subscriptTail _ (PySem.Expr.Slice _ _ _ _) (Value.ref _) (Value.ref _)) _ _ _ | show wpAny _ _ (call (Value.builtin "sum") _ _) _ _ _ | show wpAny _ _ (binaryOp Operator.Mult (Value.str _ _) _) _ _ _ | show wpAny _ _ (compareOp CmpOp.NotIn (Value.str _ _) (Value.str _ _)) _ _ _ | show wpAny _ _ (call (Value.type "str") _ _) _ _ _ | show wpAny _ _ (call (Value.type "builtins.str") _ _) _ _ _ | show wpAny _ _ (binaryOp Operator.Mod (Value.str _ _) _) _ _ _ | show wpAny _ _ (compareOp CmpOp.NotEq (Value.ref _) (Value.ref _)) _ _ _ | show wpAny _ _ (compareOp CmpOp.NotEq (Value.str _ _) (Value.str _ _)) _ _ _))); (first | (k_unfold; (try dsimp only)) | (k_end; wrow_close) | walk1 | (dsimp only; walk1) | (leave1; walk_say "STEP leave1"; try dsimp only) | fail "no step")))
      refine ld_end ⟨_, nS + 1, _, nB + 1, _, _, _, _, _⟩ (by k_asm) (by k_asm) led_sub own_sub (led_ne hI7 hI6) (by kst_all) (by ksw_same) (lsok_open hS hB hnd hnp hq6 qS6 qB6 hqs6)
    · refine insort_key_call (its := itsS) (n := nS) (x := qText nd 41) (xv := .ref x) (by ((refine' Mine.Cx.mk ?cBq264 ?cFq264 ?cXq264 ?cNq264 ?cTq264 ?ckq264 ?cdq264 ?cuq264; (case cBq264 => k_asm); (case cFq264 => k_asm); (case cXq264 => k_asm); (case cNq264 => k_asm); (case cTq264 => k_asm); (case ckq264 => first | exact rfl | assumption); (case cdq264 => ktr_room); (case cuq264 => ktr_units)))) (qS6.mono (hsub _ _ _)) (by omega) (hq6.mono (hsub _ _ _)) (show 4 ≤ 100 by decide) (show 2 ≤ 4 by decide)
        (.tail (Nat.ne_of_gt (Nat.lt_trans hls lx2)) (.tail (Nat.ne_of_gt hls) (.tail (Nat.ne_of_gt hlsb) (.head (hqs1 _))))) ?_
      intro h7 tk7 F7 N7
      (repeat' ((fail_if_success ((with_reducible first | show wpAny _ _ (exec (PySem.Stmt.While _ _ _ _) _) _ _ _ | show wpAny _ _ (exec (PySem.Stmt.For _ _ _ _ _) _) _ _ _ | show wpAny _ _ (call (Value.ref _) _ _) _ _ _ | show wpAny _ _ (compareOp CmpOp.Lt (Value.ref _) _) _ _ _ | show wpAny _ _ (compareOp CmpOp.Lt _ (Value.ref _)) _ _ _ | show wpAny _ _ (compareOp CmpOp.Lt (Prod.fst _) _) _ _ _ | show wpAny _ _ (compareOp CmpOp.Lt _ (Prod.fst _)) _ _ _ | show wpAny _ _ (compareOp CmpOp.Eq (Value.ref _) _) _ _ _ | show wpAny _ _ (pyIter _) (fun it s₂ => LoopAtV _ _ _ _ _ _ _ _ _ it s₂) _ _ | show wpAny _ _ (call (Value.builtin "str.split") _ _) _ _ _ | show wpAny _ _ (newList _) _ _ _ | show wpAny _ _ (call (Value.builtin "str.join") _ _) _ _ _ | show wpAny _ _ (call (Value.builtin "list.append") _ _) _ _ _ | show wpAny _ _ (exec (PySem.Stmt.Assign _ (PySem.Expr.ListComp _ _ _ _) _) _) _ _ _ | show wpAny _ _ (eval (PySem.Expr.ListComp _ _ _ _) _) _ _ _ | show wpAny _ _ (binaryOp Operator.Mult (Value.ref _) _) _ _ _ | show wpAny _ _ (subscriptTail _ _ (Value.ref _) (Value.int _ _)) _ _ _ | show wpAny _ _ (getItem (Value.ref _) (Value.int _ _)) _ _ _ | show wpAny _ _ (setItem (Value.ref _) (Value.int _ _) _) _ _ _ | show wpAny _ _ (binaryOp Operator.Add (Value.str _ _) (Value.str _ _)) _ _ _ | show wpAny _ _ (inplaceOp Operator.Add (Value.str _ _) (Value.str _ _)) _ _ _ | show wpAny _ _ (subscriptTail _ (PySem.Expr.Slice _ _ _ _) (Value.ref _) (Value.ref _)) _ _ _ | show wpAny _ _ (call (Value.builtin "sum") _ _) _ _ _ | show wpAny _ _ (binaryOp Operator.Mult (Value.str _ _) _) _ _ _ | show wpAny _ _ (compareOp CmpOp.NotIn (Value.str _ _) (Value.str _ _)) _ _ _ | show wpAny _ _ (call (Value.type "str") _ _) _ _ _ | show wpAny _ _ (call (Value.type "builtins.str") _ _) _ _ _ | show wpAny _ _ (binaryOp Operator.Mod (Value.str _ _) _) _ _ _ | show wpAny _ _ (compareOp CmpOp.NotEq (Value.ref _) (Value.ref _)) _ _ _ | show wpAny _ _ (compareOp CmpOp.NotEq (Value.str _ _) (Value.str _ _)) _ _ _))); (first | (k_unfold; (try dsimp only)) | (k_end; wrow_close) | walk1 | (dsimp only; walk1) | (leave1; walk_say "STEP leave1"; try dsimp only) | fail "no step")))
      refine ld_end ⟨_, nS + 1, _, nB, _, _, _, _, _⟩ (by k_asm) (by k_asm) led_sub own_sub (led_ne hI7 hI6) (by kst_all) (by ksw_same) (lsok_close hS hB hnd hnp (hch1 rfl) hq6 qS6 qB6 hqs6)
  · rintro ⟨itsS, nS, itsB, nB, qs, dd, td, pp, tp'⟩ u h tk hR F5 N5
    dsimp only [kstB, LS.led] at F5 N5
    obtain ⟨hS, hB, qS, qB, hd', hp', hqs⟩ := hR
    dsimp only at hS hB qS qB hd' hp' hqs
    (((try dsimp only); (try k_fold)))
    (repeat' ((fail_if_success ((with_reducible first | show wpAny _ _ (exec (PySem.Stmt.While _ _ _ _) _) _ _ _ | show wpAny _ _ (exec (PySem.Stmt.For _ _ _ _ _) _) _ _ _ | show wpAny _ _ (call (Value.ref _) _ _) _ _ _ | show wpAny _ _ (compareOp CmpOp.Lt (Value.ref _) _) _ _ _ | show wpAny _ _ (compareOp CmpOp.Lt _ (Value.ref _)) _ _ _ | show wpAny _ _ (compareOp CmpOp.Lt (Prod.fst _) _) _ _ _ | show wpAny _ _ (compareOp CmpOp.Lt _ (Prod.fst _)) _ _ _ | show wpAny _ _ (compareOp CmpOp.Eq (Value.ref _) _) _ _ _ | show wpAny _ _ (pyIter _) (fun it s₂ => LoopAtV _ _ _ _ _ _ _ _ _ it s₂) _ _ | show wpAny _ _ (call (Value.builtin "str.split") _ _) _ _ _ | show wpAny _ _ (newList _) _ _ _ | show wpAny _ _ (call (Value.builtin "str.join") _ _) _ _ _ | show wpAny _ _ (call (Value.builtin "list.append") _ _) _ _ _ | show wpAny _ _ (exec (PySem.Stmt.Assign _ (PySem.Expr.ListComp _ _ _ _) _) _) _ _ _ | show wpAny _ _ (eval (PySem.Expr.ListComp _ _ _ _) _) _ _ _ | show wpAny _ _ (binaryOp Operator.Mult (Value.ref _) _) _ _ _ | show wpAny _ _ (subscriptTail _ _ (Value.ref _) (Value.int _ _)) _ _ _ | show wpAny _ _ (getItem (Value.ref _) (Value.int _ _)) _ _ _ | show wpAny _ _ (setItem (Value.ref _) (Value.int _ _) _) _ _ _ | show wpAny _ _ (binaryOp Operator.Add (Value.str _ _) (Value.str _ _)) _ _ _ | show wpAny _ _ (inplaceOp Operator.Add (Value.str _ _) (Value.str _ _)) _ _ _ | show wpAny _ _ (subscriptTail _ (PySem.Expr.Slice _ _ _ _) (Value.ref _) (Value.ref _)) _ _ _ | show wpAny _ _ (call (Value.builtin "sum") _ _) _ _ _ | show wpAny _ _ (binaryOp Operator.Mult (Value.str _ _) _) _ _ _ | show wpAny _ _ (compareOp CmpOp.NotIn (Value.str _ _) (Value.str _ _)) _ _ _ | show wpAny _ _ (call (Value.type "str") _ _) _ _ _ | show wpAny _ _ (call (Value.type "builtins.str") _ _) _ _ _ | show wpAny _ _ (binaryOp Operator.Mod (Value.str _ _) _) _ _ _ | show wpAny _ _ (compareOp CmpOp.NotEq (Value.ref _) (Value.ref _)) _ _ _ | show wpAny _ _ (compareOp CmpOp.NotEq (Value.str _ _) (Value.str _ _)) _ _ _))); (first | (k_unfold; (try dsimp only)) | (k_end; wrow_close) | walk1 | (dsimp only; walk1) | (leave1; walk_say "STEP leave1"; try dsimp only) | fail "no step")))
    ((k_dflt (refine LCg.ListComp_U (F₀ := by k_asm) (by with_unfolding_all rfl) (by decide) (by rfl) (by decide) (by rfl) ?_)))
    (repeat' ((fail_if_success ((with_reducible first | show wpAny _ _ (exec (PySem.Stmt.While _ _ _ _) _) _ _ _ | show wpAny _ _ (exec (PySem.Stmt.For _ _ _ _ _) _) _ _ _ | show wpAny _ _ (call (Value.ref _) _ _) _ _ _ | show wpAny _ _ (compareOp CmpOp.Lt (Value.ref _) _) _ _ _ | show wpAny _ _ (compareOp CmpOp.Lt _ (Value.ref _)) _ _ _ | show wpAny _ _ (compareOp CmpOp.Lt (Prod.fst _) _) _ _ _ | show wpAny _ _ (compareOp CmpOp.Lt _ (Prod.fst _)) _ _ _ | show wpAny _ _ (compareOp CmpOp.Eq (Value.ref _) _) _ _ _ | show wpAny _ _ (pyIter _) (fun it s₂ => LoopAtV _ _ _ _ _ _ _ _ _ it s₂) _ _ | show wpAny _ _ (call (Value.builtin "str.split") _ _) _ _ _ | show wpAny _ _ (newList _) _ _ _ | show wpAny _ _ (call (Value.builtin "str.join") _ _) _ _ _ | show wpAny _ _ (call (Value.builtin "list.append") _ _) _ _ _ | show wpAny _ _ (exec (PySem.Stmt.Assign _ (PySem.Expr.ListComp _ _ _ _) _) _) _ _ _ | show wpAny _ _ (eval (PySem.Expr.ListComp _ _ _ _) _) _ _ _ | show wpAny _ _ (binaryOp Operator.Mult (Value.ref _) _) _ _ _ | show wpAny _ _ (subscriptTail _ _ (Value.ref _) (Value.int _ _)) _ _ _ | show wpAny _ _ (getItem (Value.ref _) (Value.int _ _)) _ _ _ | show wpAny _ _ (setItem (Value.ref _) (Value.int _ _) _) _ _ _ | show wpAny _ _ (binaryOp Operator.Add (Value.str _ _) (Value.str _ _)) _ _ _ | show wpAny _ _ (inplaceOp Operator.Add (Value.str _ _) (Value.str _ _)) _ _ _ | show wpAny _ _ (subscriptTail _ (PySem.Expr.Slice _ _ _ _) (Value.ref _) (Value.ref _)) _ _ _ | show wpAny _ _ (call (Value.builtin "sum") _ _) _ _ _ | show wpAny _ _ (binaryOp Operator.Mult (Value.str _ _) _) _ _ _ | show wpAny _ _ (compareOp CmpOp.NotIn (Value.str _ _) (Value.str _ _)) _ _ _ | show wpAny _ _ (call (Value.type "str") _ _) _ _ _ | show wpAny _ _ (call (Value.type "builtins.str") _ _) _ _ _ | show wpAny _ _ (binaryOp Operator.Mod (Value.str _ _) _) _ _ _ | show wpAny _ _ (compareOp CmpOp.NotEq (Value.ref _) (Value.ref _)) _ _ _ | show wpAny _ _ (compareOp CmpOp.NotEq (Value.str _ _) (Value.str _ _)) _ _ _))); (first | (k_unfold; (try dsimp only)) | (k_end; wrow_close) | walk1 | (dsimp only; walk1) | (leave1; walk_say "STEP leave1"; try dsimp only) | fail "no step")))
    have hlenS : itsS.length = page.cps.toList.length := by
      have := congrArg List.length hS
      rw [List.length_map, List.length_map] at this
      rw [this]; exact (run_bound _).2.2.2.1
    have hsz : (itsS.map (·.1)).toArray.size = itsS.length := by simp
    refine LCg.CompSrc.ledger (by rfl) (by k_asm) (by k_asm) (.tail _ (.head _)) (by rw [hsz]; have := sizeLine_eq; omega) ?_
    intro g
    refine comp_rest (fun i y => ∃ t, y = .str ⟨#[(((run page.cps.toList).steps.map (·.2)).getD i 0)]⟩ t) ?_ ?_
    · intro i v I oI C oC D m2 ys h tk E' hi hv hC hx2 F2 N2 off ne
      rw [List.getElem?_toArray, List.getElem?_map] at hv
      obtain ⟨p, hp, rfl⟩ := Option.map_eq_some_iff.mp hv
      have hpm := List.mem_of_getElem? hp
      obtain ⟨⟨px, pd, ph, pkt, ptk, hpe, pm1, pm2⟩, hp100, hp2⟩ := qS p hpm
      rw [hpe] at hx2
      have pn1 := List.mem_cons_of_mem (I, oI) (List.mem_cons_of_mem (C, oC) (List.mem_cons_of_mem (D, LCg.lst ys) (List.mem_cons_of_mem (lb, listOf (itsB.map (·.1)).toArray nB) (List.mem_cons_of_mem (ls, listOf (itsS.map (·.1)).toArray nS) (List.mem_cons_of_mem (s₁.heap.objs.size + 1, ocell) pm1)))))
      have pn2 := List.mem_cons_of_mem (I, oI) (List.mem_cons_of_mem (C, oC) (List.mem_cons_of_mem (D, LCg.lst ys) (List.mem_cons_of_mem (lb, listOf (itsB.map (·.1)).toArray nB) (List.mem_cons_of_mem (ls, listOf (itsS.map (·.1)).toArray nS) (List.mem_cons_of_mem (s₁.heap.objs.size + 1, ocell) pm2)))))
      (repeat' ((fail_if_success ((with_reducible first | show wpAny _ _ (exec (PySem.Stmt.While _ _ _ _) _) _ _ _ | show wpAny _ _ (exec (PySem.Stmt.For _ _ _ _ _) _) _ _ _ | show wpAny _ _ (call (Value.ref _) _ _) _ _ _ | show wpAny _ _ (compareOp CmpOp.Lt (Value.ref _) _) _ _ _ | show wpAny _ _ (compareOp CmpOp.Lt _ (Value.ref _)) _ _ _ | show wpAny _ _ (compareOp CmpOp.Lt (Prod.fst _) _) _ _ _ | show wpAny _ _ (compareOp CmpOp.Lt _ (Prod.fst _)) _ _ _ | show wpAny _ _ (compareOp CmpOp.Eq (Value.ref _) _) _ _ _ | show wpAny _ _ (pyIter _) (fun it s₂ => LoopAtV _ _ _ _ _ _ _ _ _ it s₂) _ _ | show wpAny _ _ (call (Value.builtin "str.split") _ _) _ _ _ | show wpAny _ _ (newList _) _ _ _ | show wpAny _ _ (call (Value.builtin "str.join") _ _) _ _ _ | show wpAny _ _ (call (Value.builtin "list.append") _ _) _ _ _ | show wpAny _ _ (exec (PySem.Stmt.Assign _ (PySem.Expr.ListComp _ _ _ _) _) _) _ _ _ | show wpAny _ _ (eval (PySem.Expr.ListComp _ _ _ _) _) _ _ _ | show wpAny _ _ (binaryOp Operator.Mult (Value.ref _) _) _ _ _ | show wpAny _ _ (subscriptTail _ _ (Value.ref _) (Value.int _ _)) _ _ _ | show wpAny _ _ (getItem (Value.ref _) (Value.int _ _)) _ _ _ | show wpAny _ _ (setItem (Value.ref _) (Value.int _ _) _) _ _ _ | show wpAny _ _ (binaryOp Operator.Add (Value.str _ _) (Value.str _ _)) _ _ _ | show wpAny _ _ (inplaceOp Operator.Add (Value.str _ _) (Value.str _ _)) _ _ _ | show wpAny _ _ (subscriptTail _ (PySem.Expr.Slice _ _ _ _) (Value.ref _) (Value.ref _)) _ _ _ | show wpAny _ _ (call (Value.builtin "sum") _ _) _ _ _ | show wpAny _ _ (binaryOp Operator.Mult (Value.str _ _) _) _ _ _ | show wpAny _ _ (compareOp CmpOp.NotIn (Value.str _ _) (Value.str _ _)) _ _ _ | show wpAny _ _ (call (Value.type "str") _ _) _ _ _ | show wpAny _ _ (call (Value.type "builtins.str") _ _) _ _ _ | show wpAny _ _ (binaryOp Operator.Mod (Value.str _ _) _) _ _ _ | show wpAny _ _ (compareOp CmpOp.NotEq (Value.ref _) (Value.ref _)) _ _ _ | show wpAny _ _ (compareOp CmpOp.NotEq (Value.str _ _) (Value.str _ _)) _ _ _))); (first | (k_unfold; (try dsimp only)) | (k_end; wrow_close) | walk1 | (dsimp only; walk1) | (leave1; walk_say "STEP leave1"; try dsimp only) | fail "no step")))
      refine getitem_call (by ((refine' Mine.Cx.mk ?cBq275 ?cFq275 ?cXq275 ?cNq275 ?cTq275 ?ckq275 ?cdq275 ?cuq275; (case cBq275 => k_asm); (case cFq275 => k_asm); (case cXq275 => k_asm); (case cNq275 => k_asm); (case cTq275 => k_asm); (case ckq275 => first | exact rfl | assumption); (case cdq275 => ktr_room); (case cuq275 => ktr_units)))) hp100 (by omega) (by omega) ?_
      intro t3 h3 tk3 F3 N3
      rw [sweep_at hS hp]
      (repeat' ((fail_if_success ((with_reducible first | show wpAny _ _ (exec (PySem.Stmt.While _ _ _ _) _) _ _ _ | show wpAny _ _ (exec (PySem.Stmt.For _ _ _ _ _) _) _ _ _ | show wpAny _ _ (call (Value.ref _) _ _) _ _ _ | show wpAny _ _ (compareOp CmpOp.Lt (Value.ref _) _) _ _ _ | show wpAny _ _ (compareOp CmpOp.Lt _ (Value.ref _)) _ _ _ | show wpAny _ _ (compareOp CmpOp.Lt (Prod.fst _) _) _ _ _ | show wpAny _ _ (compareOp CmpOp.Lt _ (Prod.fst _)) _ _ _ | show wpAny _ _ (compareOp CmpOp.Eq (Value.ref _) _) _ _ _ | show wpAny _ _ (pyIter _) (fun it s₂ => LoopAtV _ _ _ _ _ _ _ _ _ it s₂) _ _ | show wpAny _ _ (call (Value.builtin "str.split") _ _) _ _ _ | show wpAny _ _ (newList _) _ _ _ | show wpAny _ _ (call (Value.builtin "str.join") _ _) _ _ _ | show wpAny _ _ (call (Value.builtin "list.append") _ _) _ _ _ | show wpAny _ _ (exec (PySem.Stmt.Assign _ (PySem.Expr.ListComp _ _ _ _) _) _) _ _ _ | show wpAny _ _ (eval (PySem.Expr.ListComp _ _ _ _) _) _ _ _ | show wpAny _ _ (binaryOp Operator.Mult (Value.ref _) _) _ _ _ | show wpAny _ _ (subscriptTail _ _ (Value.ref _) (Value.int _ _)) _ _ _ | show wpAny _ _ (getItem (Value.ref _) (Value.int _ _)) _ _ _ | show wpAny _ _ (setItem (Value.ref _) (Value.int _ _) _) _ _ _ | show wpAny _ _ (binaryOp Operator.Add (Value.str _ _) (Value.str _ _)) _ _ _ | show wpAny _ _ (inplaceOp Operator.Add (Value.str _ _) (Value.str _ _)) _ _ _ | show wpAny _ _ (subscriptTail _ (PySem.Expr.Slice _ _ _ _) (Value.ref _) (Value.ref _)) _ _ _ | show wpAny _ _ (call (Value.builtin "sum") _ _) _ _ _ | show wpAny _ _ (binaryOp Operator.Mult (Value.str _ _) _) _ _ _ | show wpAny _ _ (compareOp CmpOp.NotIn (Value.str _ _) (Value.str _ _)) _ _ _ | show wpAny _ _ (call (Value.type "str") _ _) _ _ _ | show wpAny _ _ (call (Value.type "builtins.str") _ _) _ _ _ | show wpAny _ _ (binaryOp Operator.Mod (Value.str _ _) _) _ _ _ | show wpAny _ _ (compareOp CmpOp.NotEq (Value.ref _) (Value.ref _)) _ _ _ | show wpAny _ _ (compareOp CmpOp.NotEq (Value.str _ _) (Value.str _ _)) _ _ _))); (first | (k_unfold; (try dsimp only)) | (k_end; wrow_close) | walk1 | (dsimp only; walk1) | (leave1; walk_say "STEP leave1"; try dsimp only) | fail "no step")))
      exact LCg.CompEnd.intro (by k_asm) (by k_asm) _ (fun p hp => hp) off (.inr ⟨_, .tail _ (.head _), rfl, _, rfl⟩) ⟨rfl, _, rfl⟩
    · intro cs0 hyl hys
      rw [hsz] at hyl
      obtain ⟨ll, rfl, hll⟩ := strs_of (cs := (run page.cps.toList).steps.map (·.2)) (by rw [hyl, hlenS, List.length_map]; exact (run_bound _).2.2.2.1.symm) hys
      have hsw := join_ones hll
      have hlll : ll.length = page.cps.toList.length := by rw [← hlenS, ← hyl, strs_len]
      have hplen : page.length ≤ 14 := by have := hok.1; rw [Array.length_toList] at this; exact this
      unfold LCg.FinE
      intro lc h2 tk2 F2 N2 o2
      (((try dsimp only); (try k_fold)))
      (repeat' ((fail_if_success ((with_reducible first | show wpAny _ _ (exec (PySem.Stmt.While _ _ _ _) _) _ _ _ | show wpAny _ _ (exec (PySem.Stmt.For _ _ _ _ _) _) _ _ _ | show wpAny _ _ (call (Value.ref _) _ _) _ _ _ | show wpAny _ _ (compareOp CmpOp.Lt (Value.ref _) _) _ _ _ | show wpAny _ _ (compareOp CmpOp.Lt _ (Value.ref _)) _ _ _ | show wpAny _ _ (compareOp CmpOp.Lt (Prod.fst _) _) _ _ _ | show wpAny _ _ (compareOp CmpOp.Lt _ (Prod.fst _)) _ _ _ | show wpAny _ _ (compareOp CmpOp.Eq (Value.ref _) _) _ _ _ | show wpAny _ _ (pyIter _) (fun it s₂ => LoopAtV _ _ _ _ _ _ _ _ _ it s₂) _ _ | show wpAny _ _ (call (Value.builtin "str.split") _ _) _ _ _ | show wpAny _ _ (newList _) _ _ _ | show wpAny _ _ (call (Value.builtin "str.join") _ _) _ _ _ | show wpAny _ _ (call (Value.builtin "list.append") _ _) _ _ _ | show wpAny _ _ (exec (PySem.Stmt.Assign _ (PySem.Expr.ListComp _ _ _ _) _) _) _ _ _ | show wpAny _ _ (eval (PySem.Expr.ListComp _ _ _ _) _) _ _ _ | show wpAny _ _ (binaryOp Operator.Mult (Value.ref _) _) _ _ _ | show wpAny _ _ (subscriptTail _ _ (Value.ref _) (Value.int _ _)) _ _ _ | show wpAny _ _ (getItem (Value.ref _) (Value.int _ _)) _ _ _ | show wpAny _ _ (setItem (Value.ref _) (Value.int _ _) _) _ _ _ | show wpAny _ _ (binaryOp Operator.Add (Value.str _ _) (Value.str _ _)) _ _ _ | show wpAny _ _ (inplaceOp Operator.Add (Value.str _ _) (Value.str _ _)) _ _ _ | show wpAny _ _ (subscriptTail _ (PySem.Expr.Slice _ _ _ _) (Value.ref _) (Value.ref _)) _ _ _ | show wpAny _ _ (call (Value.builtin "sum") _ _) _ _ _ | show wpAny _ _ (binaryOp Operator.Mult (Value.str _ _) _) _ _ _ | show wpAny _ _ (compareOp CmpOp.NotIn (Value.str _ _) (Value.str _ _)) _ _ _ | show wpAny _ _ (call (Value.type "str") _ _) _ _ _ | show wpAny _ _ (call (Value.type "builtins.str") _ _) _ _ _ | show wpAny _ _ (binaryOp Operator.Mod (Value.str _ _) _) _ _ _ | show wpAny _ _ (compareOp CmpOp.NotEq (Value.ref _) (Value.ref _)) _ _ _ | show wpAny _ _ (compareOp CmpOp.NotEq (Value.str _ _) (Value.str _ _)) _ _ _))); (first | (k_unfold; (try dsimp only)) | (k_end; wrow_close) | walk1 | (dsimp only; walk1) | (leave1; walk_say "STEP leave1"; try dsimp only) | fail "no step")))
      refine join_strs (ll := ll) (by k_asm) (.head _) ?_ ?_
      · have e : ll.map (·.1.length) = (ll.map (·.1)).map (·.length) := by rw [List.map_map]; rfl
        have e2 : ∀ l : List Nat, ((l.map fun c => (⟨#[c]⟩ : Str)).map (·.length)).sum = l.length := by
          intro l
          induction l with
          | nil => rfl
          | cons c r ih => rw [List.map_cons, List.map_cons, List.sum_cons, ih, List.length_cons]; exact Nat.add_comm _ _
        rw [e, hll, e2, List.length_map, (run_bound _).2.2.2.1, hlll]
        have := hok.1
        omega
      generalize hswe : Str.join ⟨#[]⟩ (ll.map (·.1)) = swept at *
      intro t5 k5
      (repeat' ((fail_if_success ((with_reducible first | show wpAny _ _ (exec (PySem.Stmt.While _ _ _ _) _) _ _ _ | show wpAny _ _ (exec (PySem.Stmt.For _ _ _ _ _) _) _ _ _ | show wpAny _ _ (call (Value.ref _) _ _) _ _ _ | show wpAny _ _ (compareOp CmpOp.Lt (Value.ref _) _) _ _ _ | show wpAny _ _ (compareOp CmpOp.Lt _ (Value.ref _)) _ _ _ | show wpAny _ _ (compareOp CmpOp.Lt (Prod.fst _) _) _ _ _ | show wpAny _ _ (compareOp CmpOp.Lt _ (Prod.fst _)) _ _ _ | show wpAny _ _ (compareOp CmpOp.Eq (Value.ref _) _) _ _ _ | show wpAny _ _ (pyIter _) (fun it s₂ => LoopAtV _ _ _ _ _ _ _ _ _ it s₂) _ _ | show wpAny _ _ (call (Value.builtin "str.split") _ _) _ _ _ | show wpAny _ _ (newList _) _ _ _ | show wpAny _ _ (call (Value.builtin "str.join") _ _) _ _ _ | show wpAny _ _ (call (Value.builtin "list.append") _ _) _ _ _ | show wpAny _ _ (exec (PySem.Stmt.Assign _ (PySem.Expr.ListComp _ _ _ _) _) _) _ _ _ | show wpAny _ _ (eval (PySem.Expr.ListComp _ _ _ _) _) _ _ _ | show wpAny _ _ (binaryOp Operator.Mult (Value.ref _) _) _ _ _ | show wpAny _ _ (subscriptTail _ _ (Value.ref _) (Value.int _ _)) _ _ _ | show wpAny _ _ (getItem (Value.ref _) (Value.int _ _)) _ _ _ | show wpAny _ _ (setItem (Value.ref _) (Value.int _ _) _) _ _ _ | show wpAny _ _ (binaryOp Operator.Add (Value.str _ _) (Value.str _ _)) _ _ _ | show wpAny _ _ (inplaceOp Operator.Add (Value.str _ _) (Value.str _ _)) _ _ _ | show wpAny _ _ (subscriptTail _ (PySem.Expr.Slice _ _ _ _) (Value.ref _) (Value.ref _)) _ _ _ | show wpAny _ _ (call (Value.builtin "sum") _ _) _ _ _ | show wpAny _ _ (binaryOp Operator.Mult (Value.str _ _) _) _ _ _ | show wpAny _ _ (compareOp CmpOp.NotIn (Value.str _ _) (Value.str _ _)) _ _ _ | show wpAny _ _ (call (Value.type "str") _ _) _ _ _ | show wpAny _ _ (call (Value.type "builtins.str") _ _) _ _ _ | show wpAny _ _ (binaryOp Operator.Mod (Value.str _ _) _) _ _ _ | show wpAny _ _ (compareOp CmpOp.NotEq (Value.ref _) (Value.ref _)) _ _ _ | show wpAny _ _ (compareOp CmpOp.NotEq (Value.str _ _) (Value.str _ _)) _ _ _))); (first | (k_unfold; (try dsimp only)) | (k_end; wrow_close) | walk1 | (dsimp only; walk1) | (leave1; walk_say "STEP leave1"; try dsimp only) | fail "no step")))
      have hswl : swept.length ≤ 14 := by
        have h1 : swept.length = swept.cps.toList.length := Array.length_toList.symm
        rw [h1, hsw, List.length_map, (run_bound _).2.2.2.1]
        exact hok.1
      refine slice_strN_sn (hsz := Nat.le_trans hswl (by decide)) (s := ⟨_, _, _, _, _⟩) (by k_asm) (by k_asm) ?_
      intro h6 t6 k6 F6 N6
      (repeat' ((fail_if_success ((with_reducible first | show wpAny _ _ (exec (PySem.Stmt.While _ _ _ _) _) _ _ _ | show wpAny _ _ (exec (PySem.Stmt.For _ _ _ _ _) _) _ _ _ | show wpAny _ _ (call (Value.ref _) _ _) _ _ _ | show wpAny _ _ (compareOp CmpOp.Lt (Value.ref _) _) _ _ _ | show wpAny _ _ (compareOp CmpOp.Lt _ (Value.ref _)) _ _ _ | show wpAny _ _ (compareOp CmpOp.Lt (Prod.fst _) _) _ _ _ | show wpAny _ _ (compareOp CmpOp.Lt _ (Prod.fst _)) _ _ _ | show wpAny _ _ (compareOp CmpOp.Eq (Value.ref _) _) _ _ _ | show wpAny _ _ (pyIter _) (fun it s₂ => LoopAtV _ _ _ _ _ _ _ _ _ it s₂) _ _ | show wpAny _ _ (call (Value.builtin "str.split") _ _) _ _ _ | show wpAny _ _ (newList _) _ _ _ | show wpAny _ _ (call (Value.builtin "str.join") _ _) _ _ _ | show wpAny _ _ (call (Value.builtin "list.append") _ _) _ _ _ | show wpAny _ _ (exec (PySem.Stmt.Assign _ (PySem.Expr.ListComp _ _ _ _) _) _) _ _ _ | show wpAny _ _ (eval (PySem.Expr.ListComp _ _ _ _) _) _ _ _ | show wpAny _ _ (binaryOp Operator.Mult (Value.ref _) _) _ _ _ | show wpAny _ _ (subscriptTail _ _ (Value.ref _) (Value.int _ _)) _ _ _ | show wpAny _ _ (getItem (Value.ref _) (Value.int _ _)) _ _ _ | show wpAny _ _ (setItem (Value.ref _) (Value.int _ _) _) _ _ _ | show wpAny _ _ (binaryOp Operator.Add (Value.str _ _) (Value.str _ _)) _ _ _ | show wpAny _ _ (inplaceOp Operator.Add (Value.str _ _) (Value.str _ _)) _ _ _ | show wpAny _ _ (subscriptTail _ (PySem.Expr.Slice _ _ _ _) (Value.ref _) (Value.ref _)) _ _ _ | show wpAny _ _ (call (Value.builtin "sum") _ _) _ _ _ | show wpAny _ _ (binaryOp Operator.Mult (Value.str _ _) _) _ _ _ | show wpAny _ _ (compareOp CmpOp.NotIn (Value.str _ _) (Value.str _ _)) _ _ _ | show wpAny _ _ (call (Value.type "str") _ _) _ _ _ | show wpAny _ _ (call (Value.type "builtins.str") _ _) _ _ _ | show wpAny _ _ (binaryOp Operator.Mod (Value.str _ _) _) _ _ _ | show wpAny _ _ (compareOp CmpOp.NotEq (Value.ref _) (Value.ref _)) _ _ _ | show wpAny _ _ (compareOp CmpOp.NotEq (Value.str _ _) (Value.str _ _)) _ _ _))); (first | (k_unfold; (try dsimp only)) | (k_end; wrow_close) | walk1 | (dsimp only; walk1) | (leave1; walk_say "STEP leave1"; try dsimp only) | fail "no step")))
      generalize hy3 : Txt.slice swept (some 1) none = y3 at *
      have hy3l : y3.length ≤ 14 := by rw [← hy3]; exact Nat.le_trans (Txt.slice_le _ _ _) hswl
      refine add_own (by rw [open_len]; omega) ?_
      intro t7 k7
      (repeat' ((fail_if_success ((with_reducible first | show wpAny _ _ (exec (PySem.Stmt.While _ _ _ _) _) _ _ _ | show wpAny _ _ (exec (PySem.Stmt.For _ _ _ _ _) _) _ _ _ | show wpAny _ _ (call (Value.ref _) _ _) _ _ _ | show wpAny _ _ (compareOp CmpOp.Lt (Value.ref _) _) _ _ _ | show wpAny _ _ (compareOp CmpOp.Lt _ (Value.ref _)) _ _ _ | show wpAny _ _ (compareOp CmpOp.Lt (Prod.fst _) _) _ _ _ | show wpAny _ _ (compareOp CmpOp.Lt _ (Prod.fst _)) _ _ _ | show wpAny _ _ (compareOp CmpOp.Eq (Value.ref _) _) _ _ _ | show wpAny _ _ (pyIter _) (fun it s₂ => LoopAtV _ _ _ _ _ _ _ _ _ it s₂) _ _ | show wpAny _ _ (call (Value.builtin "str.split") _ _) _ _ _ | show wpAny _ _ (newList _) _ _ _ | show wpAny _ _ (call (Value.builtin "str.join") _ _) _ _ _ | show wpAny _ _ (call (Value.builtin "list.append") _ _) _ _ _ | show wpAny _ _ (exec (PySem.Stmt.Assign _ (PySem.Expr.ListComp _ _ _ _) _) _) _ _ _ | show wpAny _ _ (eval (PySem.Expr.ListComp _ _ _ _) _) _ _ _ | show wpAny _ _ (binaryOp Operator.Mult (Value.ref _) _) _ _ _ | show wpAny _ _ (subscriptTail _ _ (Value.ref _) (Value.int _ _)) _ _ _ | show wpAny _ _ (getItem (Value.ref _) (Value.int _ _)) _ _ _ | show wpAny _ _ (setItem (Value.ref _) (Value.int _ _) _) _ _ _ | show wpAny _ _ (binaryOp Operator.Add (Value.str _ _) (Value.str _ _)) _ _ _ | show wpAny _ _ (inplaceOp Operator.Add (Value.str _ _) (Value.str _ _)) _ _ _ | show wpAny _ _ (subscriptTail _ (PySem.Expr.Slice _ _ _ _) (Value.ref _) (Value.ref _)) _ _ _ | show wpAny _ _ (call (Value.builtin "sum") _ _) _ _ _ | show wpAny _ _ (binaryOp Operator.Mult (Value.str _ _) _) _ _ _ | show wpAny _ _ (compareOp CmpOp.NotIn (Value.str _ _) (Value.str _ _)) _ _ _ | show wpAny _ _ (call (Value.type "str") _ _) _ _ _ | show wpAny _ _ (call (Value.type "builtins.str") _ _) _ _ _ | show wpAny _ _ (binaryOp Operator.Mod (Value.str _ _) _) _ _ _ | show wpAny _ _ (compareOp CmpOp.NotEq (Value.ref _) (Value.ref _)) _ _ _ | show wpAny _ _ (compareOp CmpOp.NotEq (Value.str _ _) (Value.str _ _)) _ _ _))); (first | (k_unfold; (try dsimp only)) | (k_end; wrow_close) | walk1 | (dsimp only; walk1) | (leave1; walk_say "STEP leave1"; try dsimp only) | fail "no step")))
      generalize hy4 : Txt.slice swept none (some (-1)) = y4 at *
      refine newList_K (by k_asm) (by k_asm) ?_
      intro lk h9 F9 N9 hne9
      (repeat' ((fail_if_success ((with_reducible first | show wpAny _ _ (exec (PySem.Stmt.While _ _ _ _) _) _ _ _ | show wpAny _ _ (exec (PySem.Stmt.For _ _ _ _ _) _) _ _ _ | show wpAny _ _ (call (Value.ref _) _ _) _ _ _ | show wpAny _ _ (compareOp CmpOp.Lt (Value.ref _) _) _ _ _ | show wpAny _ _ (compareOp CmpOp.Lt _ (Value.ref _)) _ _ _ | show wpAny _ _ (compareOp CmpOp.Lt (Prod.fst _) _) _ _ _ | show wpAny _ _ (compareOp CmpOp.Lt _ (Prod.fst _)) _ _ _ | show wpAny _ _ (compareOp CmpOp.Eq (Value.ref _) _) _ _ _ | show wpAny _ _ (pyIter _) (fun it s₂ => LoopAtV _ _ _ _ _ _ _ _ _ it s₂) _ _ | show wpAny _ _ (call (Value.builtin "str.split") _ _) _ _ _ | show wpAny _ _ (newList _) _ _ _ | show wpAny _ _ (call (Value.builtin "str.join") _ _) _ _ _ | show wpAny _ _ (call (Value.builtin "list.append") _ _) _ _ _ | show wpAny _ _ (exec (PySem.Stmt.Assign _ (PySem.Expr.ListComp _ _ _ _) _) _) _ _ _ | show wpAny _ _ (eval (PySem.Expr.ListComp _ _ _ _) _) _ _ _ | show wpAny _ _ (binaryOp Operator.Mult (Value.ref _) _) _ _ _ | show wpAny _ _ (subscriptTail _ _ (Value.ref _) (Value.int _ _)) _ _ _ | show wpAny _ _ (getItem (Value.ref _) (Value.int _ _)) _ _ _ | show wpAny _ _ (setItem (Value.ref _) (Value.int _ _) _) _ _ _ | show wpAny _ _ (binaryOp Operator.Add (Value.str _ _) (Value.str _ _)) _ _ _ | show wpAny _ _ (inplaceOp Operator.Add (Value.str _ _) (Value.str _ _)) _ _ _ | show wpAny _ _ (subscriptTail _ (PySem.Expr.Slice _ _ _ _) (Value.ref _) (Value.ref _)) _ _ _ | show wpAny _ _ (call (Value.builtin "sum") _ _) _ _ _ | show wpAny _ _ (binaryOp Operator.Mult (Value.str _ _) _) _ _ _ | show wpAny _ _ (compareOp CmpOp.NotIn (Value.str _ _) (Value.str _ _)) _ _ _ | show wpAny _ _ (call (Value.type "str") _ _) _ _ _ | show wpAny _ _ (call (Value.type "builtins.str") _ _) _ _ _ | show wpAny _ _ (binaryOp Operator.Mod (Value.str _ _) _) _ _ _ | show wpAny _ _ (compareOp CmpOp.NotEq (Value.ref _) (Value.ref _)) _ _ _ | show wpAny _ _ (compareOp CmpOp.NotEq (Value.str _ _) (Value.str _ _)) _ _ _))); (first | (k_unfold; (try dsimp only)) | (k_end; wrow_close) | walk1 | (dsimp only; walk1) | (leave1; walk_say "STEP leave1"; try dsimp only) | fail "no step")))
      obtain ⟨g1, g2, g3, g4, g5, g6, g7⟩ := good_parts hgood
      rw [← hsw] at g2 g3 g4 g5 g6 g7
      have hsw1 : 1 ≤ swept.length := by
        rw [show swept.length = swept.cps.toList.length from Array.length_toList.symm, hsw, List.length_map, (run_bound _).2.2.2.1]
        have := hok.2.2.2
        omega
      have hswc : ∀ c ∈ swept.cps.toList, c = 40 ∨ c = 41 := by
        rw [hsw]
        intro c hc
        obtain ⟨q, hq, rfl⟩ := List.mem_map.mp hc
        exact run_chars _ hok.2.1 q hq
      have hy3c : (y3 ++ Str.ofString "(").cps.toList = swept.cps.toList.drop 1 ++ [40] := by
        rw [← slice1 hsw1, hy3, ← open_cps]; exact Array.toList_append
      have hy4c : y4.cps.toList = swept.cps.toList.dropLast := by rw [← sliceM1 hsw1, hy4]
      refine pre_call (ll := [(page, _), (swept, _), (y3 ++ Str.ofString "(", _), (y4, _)]) (by ((refine' Mine.Cx.mk ?cBq289 ?cFq289 ?cXq289 ?cNq289 ?cTq289 ?ckq289 ?cdq289 ?cuq289; (case cBq289 => k_asm); (case cFq289 => k_asm); (case cXq289 => k_asm); (case cNq289 => k_asm); (case cTq289 => k_asm); (case ckq289 => first | exact rfl | assumption); (case cdq289 => ktr_room); (case cuq289 => ktr_units)))) (.head _) (show 4 ≤ 10 by decide) ?_ ?_ ?_
      · intro p hp
        simp only [List.mem_cons, List.not_mem_nil, or_false] at hp
        rcases hp with rfl | rfl | rfl | rfl
        · exact hok.2.1
        · exact hswc
        · intro c hc
          rw [hy3c] at hc
          rcases List.mem_append.mp hc with hc | hc
          · exact hswc c (List.mem_of_mem_drop hc)
          · exact .inl (List.mem_singleton.mp hc)
        · intro c hc
          rw [hy4c] at hc
          exact hswc c (List.dropLast_subset _ hc)
      · intro y hy
        rw [show s₁.gens = #[] from hg] at hy
        simp at hy
      intro rk lk' nk h10 tk10 g' hbare hkept F10 N10
      have hkept' : lk'.map (·.1) = [page, swept, Str.ofString "('', '')", Str.ofString "('', '')"] := by
        rw [hkept]
        simp only [List.map_cons, List.map_nil, keptOf]
        rw [hy3c, hy4c, g1, g2, g3, g4]; rfl
      (repeat' ((fail_if_success ((with_reducible first | show wpAny _ _ (exec (PySem.Stmt.While _ _ _ _) _) _ _ _ | show wpAny _ _ (exec (PySem.Stmt.For _ _ _ _ _) _) _ _ _ | show wpAny _ _ (call (Value.ref _) _ _) _ _ _ | show wpAny _ _ (compareOp CmpOp.Lt (Value.ref _) _) _ _ _ | show wpAny _ _ (compareOp CmpOp.Lt _ (Value.ref _)) _ _ _ | show wpAny _ _ (compareOp CmpOp.Lt (Prod.fst _) _) _ _ _ | show wpAny _ _ (compareOp CmpOp.Lt _ (Prod.fst _)) _ _ _ | show wpAny _ _ (compareOp CmpOp.Eq (Value.ref _) _) _ _ _ | show wpAny _ _ (pyIter _) (fun it s₂ => LoopAtV _ _ _ _ _ _ _ _ _ it s₂) _ _ | show wpAny _ _ (call (Value.builtin "str.split") _ _) _ _ _ | show wpAny _ _ (newList _) _ _ _ | show wpAny _ _ (call (Value.builtin "str.join") _ _) _ _ _ | show wpAny _ _ (call (Value.builtin "list.append") _ _) _ _ _ | show wpAny _ _ (exec (PySem.Stmt.Assign _ (PySem.Expr.ListComp _ _ _ _) _) _) _ _ _ | show wpAny _ _ (eval (PySem.Expr.ListComp _ _ _ _) _) _ _ _ | show wpAny _ _ (binaryOp Operator.Mult (Value.ref _) _) _ _ _ | show wpAny _ _ (subscriptTail _ _ (Value.ref _) (Value.int _ _)) _ _ _ | show wpAny _ _ (getItem (Value.ref _) (Value.int _ _)) _ _ _ | show wpAny _ _ (setItem (Value.ref _) (Value.int _ _) _) _ _ _ | show wpAny _ _ (binaryOp Operator.Add (Value.str _ _) (Value.str _ _)) _ _ _ | show wpAny _ _ (inplaceOp Operator.Add (Value.str _ _) (Value.str _ _)) _ _ _ | show wpAny _ _ (subscriptTail _ (PySem.Expr.Slice _ _ _ _) (Value.ref _) (Value.ref _)) _ _ _ | show wpAny _ _ (call (Value.builtin "sum") _ _) _ _ _ | show wpAny _ _ (binaryOp Operator.Mult (Value.str _ _) _) _ _ _ | show wpAny _ _ (compareOp CmpOp.NotIn (Value.str _ _) (Value.str _ _)) _ _ _ | show wpAny _ _ (call (Value.type "str") _ _) _ _ _ | show wpAny _ _ (call (Value.type "builtins.str") _ _) _ _ _ | show wpAny _ _ (binaryOp Operator.Mod (Value.str _ _) _) _ _ _ | show wpAny _ _ (compareOp CmpOp.NotEq (Value.ref _) (Value.ref _)) _ _ _ | show wpAny _ _ (compareOp CmpOp.NotEq (Value.str _ _) (Value.str _ _)) _ _ _))); (first | (k_unfold; (try dsimp only)) | (k_end; wrow_close) | walk1 | (dsimp only; walk1) | (leave1; walk_say "STEP leave1"; try dsimp only) | fail "no step")))
      refine newList_K (by k_asm) (by k_asm) ?_
      intro lq h11 F11 N11 hne11
      (repeat' ((fail_if_success ((with_reducible first | show wpAny _ _ (exec (PySem.Stmt.While _ _ _ _) _) _ _ _ | show wpAny _ _ (exec (PySem.Stmt.For _ _ _ _ _) _) _ _ _ | show wpAny _ _ (call (Value.ref _) _ _) _ _ _ | show wpAny _ _ (compareOp CmpOp.Lt (Value.ref _) _) _ _ _ | show wpAny _ _ (compareOp CmpOp.Lt _ (Value.ref _)) _ _ _ | show wpAny _ _ (compareOp CmpOp.Lt (Prod.fst _) _) _ _ _ | show wpAny _ _ (compareOp CmpOp.Lt _ (Prod.fst _)) _ _ _ | show wpAny _ _ (compareOp CmpOp.Eq (Value.ref _) _) _ _ _ | show wpAny _ _ (pyIter _) (fun it s₂ => LoopAtV _ _ _ _ _ _ _ _ _ it s₂) _ _ | show wpAny _ _ (call (Value.builtin "str.split") _ _) _ _ _ | show wpAny _ _ (newList _) _ _ _ | show wpAny _ _ (call (Value.builtin "str.join") _ _) _ _ _ | show wpAny _ _ (call (Value.builtin "list.append") _ _) _ _ _ | show wpAny _ _ (exec (PySem.Stmt.Assign _ (PySem.Expr.ListComp _ _ _ _) _) _) _ _ _ | show wpAny _ _ (eval (PySem.Expr.ListComp _ _ _ _) _) _ _ _ | show wpAny _ _ (binaryOp Operator.Mult (Value.ref _) _) _ _ _ | show wpAny _ _ (subscriptTail _ _ (Value.ref _) (Value.int _ _)) _ _ _ | show wpAny _ _ (getItem (Value.ref _) (Value.int _ _)) _ _ _ | show wpAny _ _ (setItem (Value.ref _) (Value.int _ _) _) _ _ _ | show wpAny _ _ (binaryOp Operator.Add (Value.str _ _) (Value.str _ _)) _ _ _ | show wpAny _ _ (inplaceOp Operator.Add (Value.str _ _) (Value.str _ _)) _ _ _ | show wpAny _ _ (subscriptTail _ (PySem.Expr.Slice _ _ _ _) (Value.ref _) (Value.ref _)) _ _ _ | show wpAny _ _ (call (Value.builtin "sum") _ _) _ _ _ | show wpAny _ _ (binaryOp Operator.Mult (Value.str _ _) _) _ _ _ | show wpAny _ _ (compareOp CmpOp.NotIn (Value.str _ _) (Value.str _ _)) _ _ _ | show wpAny _ _ (call (Value.type "str") _ _) _ _ _ | show wpAny _ _ (call (Value.type "builtins.str") _ _) _ _ _ | show wpAny _ _ (binaryOp Operator.Mod (Value.str _ _) _) _ _ _ | show wpAny _ _ (compareOp CmpOp.NotEq (Value.ref _) (Value.ref _)) _ _ _ | show wpAny _ _ (compareOp CmpOp.NotEq (Value.str _ _) (Value.str _ _)) _ _ _))); (first | (k_unfold; (try dsimp only)) | (k_end; wrow_close) | walk1 | (dsimp only; walk1) | (leave1; walk_say "STEP leave1"; try dsimp only) | fail "no step")))
      have hpok : PyData.strOk page = true := strOk_of hok.2.1
      have hsok : PyData.strOk swept = true := strOk_of hswc
      have heok : PyData.strOk (Str.ofString "('', '')") = true := by decide +kernel
      refine ne_strs (l1 := lk') (l2 := [(page, _), (swept, _), (Str.ofString "('', '')", _), (Str.ofString "('', '')", _)]) (by k_asm) (.tail _ (.head _)) (.head _) hkept' ?_ ?_ (by ke_room) ?_
      · intro p hp
        have h1 : p.1 ∈ [page, swept, Str.ofString "('', '')", Str.ofString "('', '')"] := hkept' ▸ List.mem_map_of_mem hp
        simp only [List.mem_cons, List.not_mem_nil, or_false] at h1
        rcases h1 with h1 | h1 | h1 | h1 <;> rw [h1] <;> assumption
      · intro p hp
        simp only [List.mem_cons, List.not_mem_nil, or_false] at hp
        rcases hp with rfl | rfl | rfl | rfl <;> assumption
      (repeat' ((fail_if_success ((with_reducible first | show wpAny _ _ (exec (PySem.Stmt.While _ _ _ _) _) _ _ _ | show wpAny _ _ (exec (PySem.Stmt.For _ _ _ _ _) _) _ _ _ | show wpAny _ _ (call (Value.ref _) _ _) _ _ _ | show wpAny _ _ (compareOp CmpOp.Lt (Value.ref _) _) _ _ _ | show wpAny _ _ (compareOp CmpOp.Lt _ (Value.ref _)) _ _ _ | show wpAny _ _ (compareOp CmpOp.Lt (Prod.fst _) _) _ _ _ | show wpAny _ _ (compareOp CmpOp.Lt _ (Prod.fst _)) _ _ _ | show wpAny _ _ (compareOp CmpOp.Eq (Value.ref _) _) _ _ _ | show wpAny _ _ (pyIter _) (fun it s₂ => LoopAtV _ _ _ _ _ _ _ _ _ it s₂) _ _ | show wpAny _ _ (call (Value.builtin "str.split") _ _) _ _ _ | show wpAny _ _ (newList _) _ _ _ | show wpAny _ _ (call (Value.builtin "str.join") _ _) _ _ _ | show wpAny _ _ (call (Value.builtin "list.append") _ _) _ _ _ | show wpAny _ _ (exec (PySem.Stmt.Assign _ (PySem.Expr.ListComp _ _ _ _) _) _) _ _ _ | show wpAny _ _ (eval (PySem.Expr.ListComp _ _ _ _) _) _ _ _ | show wpAny _ _ (binaryOp Operator.Mult (Value.ref _) _) _ _ _ | show wpAny _ _ (subscriptTail _ _ (Value.ref _) (Value.int _ _)) _ _ _ | show wpAny _ _ (getItem (Value.ref _) (Value.int _ _)) _ _ _ | show wpAny _ _ (setItem (Value.ref _) (Value.int _ _) _) _ _ _ | show wpAny _ _ (binaryOp Operator.Add (Value.str _ _) (Value.str _ _)) _ _ _ | show wpAny _ _ (inplaceOp Operator.Add (Value.str _ _) (Value.str _ _)) _ _ _ | show wpAny _ _ (subscriptTail _ (PySem.Expr.Slice _ _ _ _) (Value.ref _) (Value.ref _)) _ _ _ | show wpAny _ _ (call (Value.builtin "sum") _ _) _ _ _ | show wpAny _ _ (binaryOp Operator.Mult (Value.str _ _) _) _ _ _ | show wpAny _ _ (compareOp CmpOp.NotIn (Value.str _ _) (Value.str _ _)) _ _ _ | show wpAny _ _ (call (Value.type "str") _ _) _ _ _ | show wpAny _ _ (call (Value.type "builtins.str") _ _) _ _ _ | show wpAny _ _ (binaryOp Operator.Mod (Value.str _ _) _) _ _ _ | show wpAny _ _ (compareOp CmpOp.NotEq (Value.ref _) (Value.ref _)) _ _ _ | show wpAny _ _ (compareOp CmpOp.NotEq (Value.str _ _) (Value.str _ _)) _ _ _))); (first | (k_unfold; (try dsimp only)) | (k_end; wrow_close) | walk1 | (dsimp only; walk1) | (leave1; walk_say "STEP leave1"; try dsimp only) | fail "no step")))
      have hr1 := runs_sum _ hswc
      have hr2 := chk_runs _ _ hswc g2
      have hr3 : swept.cps.toList.length = swept.length := Array.length_toList
      refine told_call (by ((refine' Mine.Cx.mk ?cBq296 ?cFq296 ?cXq296 ?cNq296 ?cTq296 ?ckq296 ?cdq296 ?cuq296; (case cBq296 => k_asm); (case cFq296 => k_asm); (case cXq296 => k_asm); (case cNq296 => k_asm); (case cTq296 => k_asm); (case ckq296 => first | exact rfl | assumption); (case cdq296 => ktr_room); (case cuq296 => ktr_units)))) (Nat.le_trans hswl (by decide)) hsw1 hswc (by omega) (by omega) ?_
      intro yp tyq h12 tk12 hyp F12 N12
      have hyp2 : yp = page := by
        rw [g5] at hyp
        cases yp; cases page
        exact congrArg _ (Array.toList_inj.mp hyp)
      (repeat' ((fail_if_success ((with_reducible first | show wpAny _ _ (exec (PySem.Stmt.While _ _ _ _) _) _ _ _ | show wpAny _ _ (exec (PySem.Stmt.For _ _ _ _ _) _) _ _ _ | show wpAny _ _ (call (Value.ref _) _ _) _ _ _ | show wpAny _ _ (compareOp CmpOp.Lt (Value.ref _) _) _ _ _ | show wpAny _ _ (compareOp CmpOp.Lt _ (Value.ref _)) _ _ _ | show wpAny _ _ (compareOp CmpOp.Lt (Prod.fst _) _) _ _ _ | show wpAny _ _ (compareOp CmpOp.Lt _ (Prod.fst _)) _ _ _ | show wpAny _ _ (compareOp CmpOp.Eq (Value.ref _) _) _ _ _ | show wpAny _ _ (pyIter _) (fun it s₂ => LoopAtV _ _ _ _ _ _ _ _ _ it s₂) _ _ | show wpAny _ _ (call (Value.builtin "str.split") _ _) _ _ _ | show wpAny _ _ (newList _) _ _ _ | show wpAny _ _ (call (Value.builtin "str.join") _ _) _ _ _ | show wpAny _ _ (call (Value.builtin "list.append") _ _) _ _ _ | show wpAny _ _ (exec (PySem.Stmt.Assign _ (PySem.Expr.ListComp _ _ _ _) _) _) _ _ _ | show wpAny _ _ (eval (PySem.Expr.ListComp _ _ _ _) _) _ _ _ | show wpAny _ _ (binaryOp Operator.Mult (Value.ref _) _) _ _ _ | show wpAny _ _ (subscriptTail _ _ (Value.ref _) (Value.int _ _)) _ _ _ | show wpAny _ _ (getItem (Value.ref _) (Value.int _ _)) _ _ _ | show wpAny _ _ (setItem (Value.ref _) (Value.int _ _) _) _ _ _ | show wpAny _ _ (binaryOp Operator.Add (Value.str _ _) (Value.str _ _)) _ _ _ | show wpAny _ _ (inplaceOp Operator.Add (Value.str _ _) (Value.str _ _)) _ _ _ | show wpAny _ _ (subscriptTail _ (PySem.Expr.Slice _ _ _ _) (Value.ref _) (Value.ref _)) _ _ _ | show wpAny _ _ (call (Value.builtin "sum") _ _) _ _ _ | show wpAny _ _ (binaryOp Operator.Mult (Value.str _ _) _) _ _ _ | show wpAny _ _ (compareOp CmpOp.NotIn (Value.str _ _) (Value.str _ _)) _ _ _ | show wpAny _ _ (call (Value.type "str") _ _) _ _ _ | show wpAny _ _ (call (Value.type "builtins.str") _ _) _ _ _ | show wpAny _ _ (binaryOp Operator.Mod (Value.str _ _) _) _ _ _ | show wpAny _ _ (compareOp CmpOp.NotEq (Value.ref _) (Value.ref _)) _ _ _ | show wpAny _ _ (compareOp CmpOp.NotEq (Value.str _ _) (Value.str _ _)) _ _ _))); (first | (k_unfold; (try dsimp only)) | (k_end; wrow_close) | walk1 | (dsimp only; walk1) | (leave1; walk_say "STEP leave1"; try dsimp only) | fail "no step")))
      refine PyProof.Rows.ne_str ?_
      rw [show (yp != page) = false from by rw [hyp2]; simp]
      (repeat' ((fail_if_success ((with_reducible first | show wpAny _ _ (exec (PySem.Stmt.While _ _ _ _) _) _ _ _ | show wpAny _ _ (exec (PySem.Stmt.For _ _ _ _ _) _) _ _ _ | show wpAny _ _ (call (Value.ref _) _ _) _ _ _ | show wpAny _ _ (compareOp CmpOp.Lt (Value.ref _) _) _ _ _ | show wpAny _ _ (compareOp CmpOp.Lt _ (Value.ref _)) _ _ _ | show wpAny _ _ (compareOp CmpOp.Lt (Prod.fst _) _) _ _ _ | show wpAny _ _ (compareOp CmpOp.Lt _ (Prod.fst _)) _ _ _ | show wpAny _ _ (compareOp CmpOp.Eq (Value.ref _) _) _ _ _ | show wpAny _ _ (pyIter _) (fun it s₂ => LoopAtV _ _ _ _ _ _ _ _ _ it s₂) _ _ | show wpAny _ _ (call (Value.builtin "str.split") _ _) _ _ _ | show wpAny _ _ (newList _) _ _ _ | show wpAny _ _ (call (Value.builtin "str.join") _ _) _ _ _ | show wpAny _ _ (call (Value.builtin "list.append") _ _) _ _ _ | show wpAny _ _ (exec (PySem.Stmt.Assign _ (PySem.Expr.ListComp _ _ _ _) _) _) _ _ _ | show wpAny _ _ (eval (PySem.Expr.ListComp _ _ _ _) _) _ _ _ | show wpAny _ _ (binaryOp Operator.Mult (Value.ref _) _) _ _ _ | show wpAny _ _ (subscriptTail _ _ (Value.ref _) (Value.int _ _)) _ _ _ | show wpAny _ _ (getItem (Value.ref _) (Value.int _ _)) _ _ _ | show wpAny _ _ (setItem (Value.ref _) (Value.int _ _) _) _ _ _ | show wpAny _ _ (binaryOp Operator.Add (Value.str _ _) (Value.str _ _)) _ _ _ | show wpAny _ _ (inplaceOp Operator.Add (Value.str _ _) (Value.str _ _)) _ _ _ | show wpAny _ _ (subscriptTail _ (PySem.Expr.Slice _ _ _ _) (Value.ref _) (Value.ref _)) _ _ _ | show wpAny _ _ (call (Value.builtin "sum") _ _) _ _ _ | show wpAny _ _ (binaryOp Operator.Mult (Value.str _ _) _) _ _ _ | show wpAny _ _ (compareOp CmpOp.NotIn (Value.str _ _) (Value.str _ _)) _ _ _ | show wpAny _ _ (call (Value.type "str") _ _) _ _ _ | show wpAny _ _ (call (Value.type "builtins.str") _ _) _ _ _ | show wpAny _ _ (binaryOp Operator.Mod (Value.str _ _) _) _ _ _ | show wpAny _ _ (compareOp CmpOp.NotEq (Value.ref _) (Value.ref _)) _ _ _ | show wpAny _ _ (compareOp CmpOp.NotEq (Value.str _ _) (Value.str _ _)) _ _ _))); (first | (k_unfold; (try dsimp only)) | (k_end; wrow_close) | walk1 | (dsimp only; walk1) | (leave1; walk_say "STEP leave1"; try dsimp only) | fail "no step")))
      obtain ⟨k, hk⟩ : ∃ k : Nat, k = page.cps.toList.length / 2 := ⟨_, rfl⟩
      have hk7 : k ≤ 7 := by have := hok.1; omega
      have hfd : ((page.length : Nat) : Int).fdiv 2 = (k : Int) := by
        rw [Int.fdiv_eq_ediv_of_nonneg _ (by decide), hk, show page.cps.toList.length = page.length from Array.length_toList]
        omega
      rw [hfd] at *
      refine bounces_call (k := k) (by ((refine' Mine.Cx.mk ?cBq301 ?cFq301 ?cXq301 ?cNq301 ?cTq301 ?ckq301 ?cdq301 ?cuq301; (case cBq301 => k_asm); (case cFq301 => k_asm); (case cXq301 => k_asm); (case cNq301 => k_asm); (case cTq301 => k_asm); (case ckq301 => first | exact rfl | assumption); (case cdq301 => ktr_room); (case cuq301 => ktr_units)))) (Nat.le_trans hswl (by decide)) hsw1 hswc (by omega) ?_
      intro lbn nbn vsb h13 tk13 hvsb F13 N13
      (repeat' ((fail_if_success ((with_reducible first | show wpAny _ _ (exec (PySem.Stmt.While _ _ _ _) _) _ _ _ | show wpAny _ _ (exec (PySem.Stmt.For _ _ _ _ _) _) _ _ _ | show wpAny _ _ (call (Value.ref _) _ _) _ _ _ | show wpAny _ _ (compareOp CmpOp.Lt (Value.ref _) _) _ _ _ | show wpAny _ _ (compareOp CmpOp.Lt _ (Value.ref _)) _ _ _ | show wpAny _ _ (compareOp CmpOp.Lt (Prod.fst _) _) _ _ _ | show wpAny _ _ (compareOp CmpOp.Lt _ (Prod.fst _)) _ _ _ | show wpAny _ _ (compareOp CmpOp.Eq (Value.ref _) _) _ _ _ | show wpAny _ _ (pyIter _) (fun it s₂ => LoopAtV _ _ _ _ _ _ _ _ _ it s₂) _ _ | show wpAny _ _ (call (Value.builtin "str.split") _ _) _ _ _ | show wpAny _ _ (newList _) _ _ _ | show wpAny _ _ (call (Value.builtin "str.join") _ _) _ _ _ | show wpAny _ _ (call (Value.builtin "list.append") _ _) _ _ _ | show wpAny _ _ (exec (PySem.Stmt.Assign _ (PySem.Expr.ListComp _ _ _ _) _) _) _ _ _ | show wpAny _ _ (eval (PySem.Expr.ListComp _ _ _ _) _) _ _ _ | show wpAny _ _ (binaryOp Operator.Mult (Value.ref _) _) _ _ _ | show wpAny _ _ (subscriptTail _ _ (Value.ref _) (Value.int _ _)) _ _ _ | show wpAny _ _ (getItem (Value.ref _) (Value.int _ _)) _ _ _ | show wpAny _ _ (setItem (Value.ref _) (Value.int _ _) _) _ _ _ | show wpAny _ _ (binaryOp Operator.Add (Value.str _ _) (Value.str _ _)) _ _ _ | show wpAny _ _ (inplaceOp Operator.Add (Value.str _ _) (Value.str _ _)) _ _ _ | show wpAny _ _ (subscriptTail _ (PySem.Expr.Slice _ _ _ _) (Value.ref _) (Value.ref _)) _ _ _ | show wpAny _ _ (call (Value.builtin "sum") _ _) _ _ _ | show wpAny _ _ (binaryOp Operator.Mult (Value.str _ _) _) _ _ _ | show wpAny _ _ (compareOp CmpOp.NotIn (Value.str _ _) (Value.str _ _)) _ _ _ | show wpAny _ _ (call (Value.type "str") _ _) _ _ _ | show wpAny _ _ (call (Value.type "builtins.str") _ _) _ _ _ | show wpAny _ _ (binaryOp Operator.Mod (Value.str _ _) _) _ _ _ | show wpAny _ _ (compareOp CmpOp.NotEq (Value.ref _) (Value.ref _)) _ _ _ | show wpAny _ _ (compareOp CmpOp.NotEq (Value.str _ _) (Value.str _ _)) _ _ _))); (first | (k_unfold; (try dsimp only)) | (k_end; wrow_close) | walk1 | (dsimp only; walk1) | (leave1; walk_say "STEP leave1"; try dsimp only) | fail "no step")))
      ((k_dflt (refine LCg.ListComp_U (F₀ := by k_asm) (by with_unfolding_all rfl) (by decide) (by rfl) (by decide) (by rfl) ?_)))
      (repeat' ((fail_if_success ((with_reducible first | show wpAny _ _ (exec (PySem.Stmt.While _ _ _ _) _) _ _ _ | show wpAny _ _ (exec (PySem.Stmt.For _ _ _ _ _) _) _ _ _ | show wpAny _ _ (call (Value.ref _) _ _) _ _ _ | show wpAny _ _ (compareOp CmpOp.Lt (Value.ref _) _) _ _ _ | show wpAny _ _ (compareOp CmpOp.Lt _ (Value.ref _)) _ _ _ | show wpAny _ _ (compareOp CmpOp.Lt (Prod.fst _) _) _ _ _ | show wpAny _ _ (compareOp CmpOp.Lt _ (Prod.fst _)) _ _ _ | show wpAny _ _ (compareOp CmpOp.Eq (Value.ref _) _) _ _ _ | show wpAny _ _ (pyIter _) (fun it s₂ => LoopAtV _ _ _ _ _ _ _ _ _ it s₂) _ _ | show wpAny _ _ (call (Value.builtin "str.split") _ _) _ _ _ | show wpAny _ _ (newList _) _ _ _ | show wpAny _ _ (call (Value.builtin "str.join") _ _) _ _ _ | show wpAny _ _ (call (Value.builtin "list.append") _ _) _ _ _ | show wpAny _ _ (exec (PySem.Stmt.Assign _ (PySem.Expr.ListComp _ _ _ _) _) _) _ _ _ | show wpAny _ _ (eval (PySem.Expr.ListComp _ _ _ _) _) _ _ _ | show wpAny _ _ (binaryOp Operator.Mult (Value.ref _) _) _ _ _ | show wpAny _ _ (subscriptTail _ _ (Value.ref _) (Value.int _ _)) _ _ _ | show wpAny _ _ (getItem (Value.ref _) (Value.int _ _)) _ _ _ | show wpAny _ _ (setItem (Value.ref _) (Value.int _ _) _) _ _ _ | show wpAny _ _ (binaryOp Operator.Add (Value.str _ _) (Value.str _ _)) _ _ _ | show wpAny _ _ (inplaceOp Operator.Add (Value.str _ _) (Value.str _ _)) _ _ _ | show wpAny _ _ (subscriptTail _ (PySem.Expr.Slice _ _ _ _) (Value.ref _) (Value.ref _)) _ _ _ | show wpAny _ _ (call (Value.builtin "sum") _ _) _ _ _ | show wpAny _ _ (binaryOp Operator.Mult (Value.str _ _) _) _ _ _ | show wpAny _ _ (compareOp CmpOp.NotIn (Value.str _ _) (Value.str _ _)) _ _ _ | show wpAny _ _ (call (Value.type "str") _ _) _ _ _ | show wpAny _ _ (call (Value.type "builtins.str") _ _) _ _ _ | show wpAny _ _ (binaryOp Operator.Mod (Value.str _ _) _) _ _ _ | show wpAny _ _ (compareOp CmpOp.NotEq (Value.ref _) (Value.ref _)) _ _ _ | show wpAny _ _ (compareOp CmpOp.NotEq (Value.str _ _) (Value.str _ _)) _ _ _))); (first | (k_unfold; (try dsimp only)) | (k_end; wrow_close) | walk1 | (dsimp only; walk1) | (leave1; walk_say "STEP leave1"; try dsimp only) | fail "no step")))
      refine LCg.CompSrc.range (n := k) (by rfl) (by k_asm) (by k_asm) (by assumption) ?_ ?_ (by have := sizeLine_eq; omega) ?_
      · have hfd2 : ((page.length : Nat) : Int).fdiv 2 = (k : Int) := by
          rw [Int.fdiv_eq_ediv_of_nonneg _ (by decide), hk, show page.cps.toList.length = page.length from Array.length_toList]
          omega
        rw [hfd2]; exact small_one (by omega) (by omega) (by omega) (by omega)
      · have hfd2 : ((page.length : Nat) : Int).fdiv 2 = (k : Int) := by
          rw [Int.fdiv_eq_ediv_of_nonneg _ (by decide), hk, show page.cps.toList.length = page.length from Array.length_toList]
          omega
        rw [hfd2, rangeSize_one]; split <;> omega
      intro g
      refine comp_rest (fun i y => ∃ t, y = .int (cntQ (dText (i : Nat)) itsS) t) ?_ ?_
      · rintro i v I oI C oC D m2 ys h tk E' hi ⟨tv, rfl⟩ hC hx2 F2 N2 off ne
        rw [Int.zero_add] at hx2
        (repeat' ((fail_if_success ((with_reducible first | show wpAny _ _ (exec (PySem.Stmt.While _ _ _ _) _) _ _ _ | show wpAny _ _ (exec (PySem.Stmt.For _ _ _ _ _) _) _ _ _ | show wpAny _ _ (call (Value.ref _) _ _) _ _ _ | show wpAny _ _ (compareOp CmpOp.Lt (Value.ref _) _) _ _ _ | show wpAny _ _ (compareOp CmpOp.Lt _ (Value.ref _)) _ _ _ | show wpAny _ _ (compareOp CmpOp.Lt (Prod.fst _) _) _ _ _ | show wpAny _ _ (compareOp CmpOp.Lt _ (Prod.fst _)) _ _ _ | show wpAny _ _ (compareOp CmpOp.Eq (Value.ref _) _) _ _ _ | show wpAny _ _ (pyIter _) (fun it s₂ => LoopAtV _ _ _ _ _ _ _ _ _ it s₂) _ _ | show wpAny _ _ (call (Value.builtin "str.split") _ _) _ _ _ | show wpAny _ _ (newList _) _ _ _ | show wpAny _ _ (call (Value.builtin "str.join") _ _) _ _ _ | show wpAny _ _ (call (Value.builtin "list.append") _ _) _ _ _ | show wpAny _ _ (exec (PySem.Stmt.Assign _ (PySem.Expr.ListComp _ _ _ _) _) _) _ _ _ | show wpAny _ _ (eval (PySem.Expr.ListComp _ _ _ _) _) _ _ _ | show wpAny _ _ (binaryOp Operator.Mult (Value.ref _) _) _ _ _ | show wpAny _ _ (subscriptTail _ _ (Value.ref _) (Value.int _ _)) _ _ _ | show wpAny _ _ (getItem (Value.ref _) (Value.int _ _)) _ _ _ | show wpAny _ _ (setItem (Value.ref _) (Value.int _ _) _) _ _ _ | show wpAny _ _ (binaryOp Operator.Add (Value.str _ _) (Value.str _ _)) _ _ _ | show wpAny _ _ (inplaceOp Operator.Add (Value.str _ _) (Value.str _ _)) _ _ _ | show wpAny _ _ (subscriptTail _ (PySem.Expr.Slice _ _ _ _) (Value.ref _) (Value.ref _)) _ _ _ | show wpAny _ _ (call (Value.builtin "sum") _ _) _ _ _ | show wpAny _ _ (binaryOp Operator.Mult (Value.str _ _) _) _ _ _ | show wpAny _ _ (compareOp CmpOp.NotIn (Value.str _ _) (Value.str _ _)) _ _ _ | show wpAny _ _ (call (Value.type "str") _ _) _ _ _ | show wpAny _ _ (call (Value.type "builtins.str") _ _) _ _ _ | show wpAny _ _ (binaryOp Operator.Mod (Value.str _ _) _) _ _ _ | show wpAny _ _ (compareOp CmpOp.NotEq (Value.ref _) (Value.ref _)) _ _ _ | show wpAny _ _ (compareOp CmpOp.NotEq (Value.str _ _) (Value.str _ _)) _ _ _))); (first | (k_unfold; (try dsimp only)) | (k_end; wrow_close) | walk1 | (dsimp only; walk1) | (leave1; walk_say "STEP leave1"; try dsimp only) | fail "no step")))
        refine mod_deep (by omega) (by omega) ?_
        intro t9 tk9
        (repeat' ((fail_if_success ((with_reducible first | show wpAny _ _ (exec (PySem.Stmt.While _ _ _ _) _) _ _ _ | show wpAny _ _ (exec (PySem.Stmt.For _ _ _ _ _) _) _ _ _ | show wpAny _ _ (call (Value.ref _) _ _) _ _ _ | show wpAny _ _ (compareOp CmpOp.Lt (Value.ref _) _) _ _ _ | show wpAny _ _ (compareOp CmpOp.Lt _ (Value.ref _)) _ _ _ | show wpAny _ _ (compareOp CmpOp.Lt (Prod.fst _) _) _ _ _ | show wpAny _ _ (compareOp CmpOp.Lt _ (Prod.fst _)) _ _ _ | show wpAny _ _ (compareOp CmpOp.Eq (Value.ref _) _) _ _ _ | show wpAny _ _ (pyIter _) (fun it s₂ => LoopAtV _ _ _ _ _ _ _ _ _ it s₂) _ _ | show wpAny _ _ (call (Value.builtin "str.split") _ _) _ _ _ | show wpAny _ _ (newList _) _ _ _ | show wpAny _ _ (call (Value.builtin "str.join") _ _) _ _ _ | show wpAny _ _ (call (Value.builtin "list.append") _ _) _ _ _ | show wpAny _ _ (exec (PySem.Stmt.Assign _ (PySem.Expr.ListComp _ _ _ _) _) _) _ _ _ | show wpAny _ _ (eval (PySem.Expr.ListComp _ _ _ _) _) _ _ _ | show wpAny _ _ (binaryOp Operator.Mult (Value.ref _) _) _ _ _ | show wpAny _ _ (subscriptTail _ _ (Value.ref _) (Value.int _ _)) _ _ _ | show wpAny _ _ (getItem (Value.ref _) (Value.int _ _)) _ _ _ | show wpAny _ _ (setItem (Value.ref _) (Value.int _ _) _) _ _ _ | show wpAny _ _ (binaryOp Operator.Add (Value.str _ _) (Value.str _ _)) _ _ _ | show wpAny _ _ (inplaceOp Operator.Add (Value.str _ _) (Value.str _ _)) _ _ _ | show wpAny _ _ (subscriptTail _ (PySem.Expr.Slice _ _ _ _) (Value.ref _) (Value.ref _)) _ _ _ | show wpAny _ _ (call (Value.builtin "sum") _ _) _ _ _ | show wpAny _ _ (binaryOp Operator.Mult (Value.str _ _) _) _ _ _ | show wpAny _ _ (compareOp CmpOp.NotIn (Value.str _ _) (Value.str _ _)) _ _ _ | show wpAny _ _ (call (Value.type "str") _ _) _ _ _ | show wpAny _ _ (call (Value.type "builtins.str") _ _) _ _ _ | show wpAny _ _ (binaryOp Operator.Mod (Value.str _ _) _) _ _ _ | show wpAny _ _ (compareOp CmpOp.NotEq (Value.ref _) (Value.ref _)) _ _ _ | show wpAny _ _ (compareOp CmpOp.NotEq (Value.str _ _) (Value.str _ _)) _ _ _))); (first | (k_unfold; (try dsimp only)) | (k_end; wrow_close) | walk1 | (dsimp only; walk1) | (leave1; walk_say "STEP leave1"; try dsimp only) | fail "no step")))
        refine countOf_call (its := itsS) (n := nS) (by ((refine' Mine.Cx.mk ?cBq311 ?cFq311 ?cXq311 ?cNq311 ?cTq311 ?ckq311 ?cdq311 ?cuq311; (case cBq311 => k_asm); (case cFq311 => k_asm); (case cXq311 => k_asm); (case cNq311 => k_asm); (case cTq311 => k_asm); (case ckq311 => first | exact rfl | assumption); (case cdq311 => ktr_room); (case cuq311 => ktr_units)))) ?_ (qS.mono ?_) (by have := hok.1; omega) ?_
        · k_mem
        · intro p hp
          simp only [List.mem_cons]
          simp [hp]
        intro t14 h14 tk14 F14 N14
        (repeat' ((fail_if_success ((with_reducible first | show wpAny _ _ (exec (PySem.Stmt.While _ _ _ _) _) _ _ _ | show wpAny _ _ (exec (PySem.Stmt.For _ _ _ _ _) _) _ _ _ | show wpAny _ _ (call (Value.ref _) _ _) _ _ _ | show wpAny _ _ (compareOp CmpOp.Lt (Value.ref _) _) _ _ _ | show wpAny _ _ (compareOp CmpOp.Lt _ (Value.ref _)) _ _ _ | show wpAny _ _ (compareOp CmpOp.Lt (Prod.fst _) _) _ _ _ | show wpAny _ _ (compareOp CmpOp.Lt _ (Prod.fst _)) _ _ _ | show wpAny _ _ (compareOp CmpOp.Eq (Value.ref _) _) _ _ _ | show wpAny _ _ (pyIter _) (fun it s₂ => LoopAtV _ _ _ _ _ _ _ _ _ it s₂) _ _ | show wpAny _ _ (call (Value.builtin "str.split") _ _) _ _ _ | show wpAny _ _ (newList _) _ _ _ | show wpAny _ _ (call (Value.builtin "str.join") _ _) _ _ _ | show wpAny _ _ (call (Value.builtin "list.append") _ _) _ _ _ | show wpAny _ _ (exec (PySem.Stmt.Assign _ (PySem.Expr.ListComp _ _ _ _) _) _) _ _ _ | show wpAny _ _ (eval (PySem.Expr.ListComp _ _ _ _) _) _ _ _ | show wpAny _ _ (binaryOp Operator.Mult (Value.ref _) _) _ _ _ | show wpAny _ _ (subscriptTail _ _ (Value.ref _) (Value.int _ _)) _ _ _ | show wpAny _ _ (getItem (Value.ref _) (Value.int _ _)) _ _ _ | show wpAny _ _ (setItem (Value.ref _) (Value.int _ _) _) _ _ _ | show wpAny _ _ (binaryOp Operator.Add (Value.str _ _) (Value.str _ _)) _ _ _ | show wpAny _ _ (inplaceOp Operator.Add (Value.str _ _) (Value.str _ _)) _ _ _ | show wpAny _ _ (subscriptTail _ (PySem.Expr.Slice _ _ _ _) (Value.ref _) (Value.ref _)) _ _ _ | show wpAny _ _ (call (Value.builtin "sum") _ _) _ _ _ | show wpAny _ _ (binaryOp Operator.Mult (Value.str _ _) _) _ _ _ | show wpAny _ _ (compareOp CmpOp.NotIn (Value.str _ _) (Value.str _ _)) _ _ _ | show wpAny _ _ (call (Value.type "str") _ _) _ _ _ | show wpAny _ _ (call (Value.type "builtins.str") _ _) _ _ _ | show wpAny _ _ (binaryOp Operator.Mod (Value.str _ _) _) _ _ _ | show wpAny _ _ (compareOp CmpOp.NotEq (Value.ref _) (Value.ref _)) _ _ _ | show wpAny _ _ (compareOp CmpOp.NotEq (Value.str _ _) (Value.str _ _)) _ _ _))); (first | (k_unfold; (try dsimp only)) | (k_end; wrow_close) | walk1 | (dsimp only; walk1) | (leave1; walk_say "STEP leave1"; try dsimp only) | fail "no step")))
        exact LCg.CompEnd.intro (by k_asm) (by k_asm) _ (fun p hp => hp) off trivial ⟨rfl, _, rfl⟩
      · intro cs1 hyl1 hys1
        unfold LCg.FinE
        intro lc2 h15 tk15 F15 N15 o15
        (((try dsimp only); (try k_fold)))
        (repeat' ((fail_if_success ((with_reducible first | show wpAny _ _ (exec (PySem.Stmt.While _ _ _ _) _) _ _ _ | show wpAny _ _ (exec (PySem.Stmt.For _ _ _ _ _) _) _ _ _ | show wpAny _ _ (call (Value.ref _) _ _) _ _ _ | show wpAny _ _ (compareOp CmpOp.Lt (Value.ref _) _) _ _ _ | show wpAny _ _ (compareOp CmpOp.Lt _ (Value.ref _)) _ _ _ | show wpAny _ _ (compareOp CmpOp.Lt (Prod.fst _) _) _ _ _ | show wpAny _ _ (compareOp CmpOp.Lt _ (Prod.fst _)) _ _ _ | show wpAny _ _ (compareOp CmpOp.Eq (Value.ref _) _) _ _ _ | show wpAny _ _ (pyIter _) (fun it s₂ => LoopAtV _ _ _ _ _ _ _ _ _ it s₂) _ _ | show wpAny _ _ (call (Value.builtin "str.split") _ _) _ _ _ | show wpAny _ _ (newList _) _ _ _ | show wpAny _ _ (call (Value.builtin "str.join") _ _) _ _ _ | show wpAny _ _ (call (Value.builtin "list.append") _ _) _ _ _ | show wpAny _ _ (exec (PySem.Stmt.Assign _ (PySem.Expr.ListComp _ _ _ _) _) _) _ _ _ | show wpAny _ _ (eval (PySem.Expr.ListComp _ _ _ _) _) _ _ _ | show wpAny _ _ (binaryOp Operator.Mult (Value.ref _) _) _ _ _ | show wpAny _ _ (subscriptTail _ _ (Value.ref _) (Value.int _ _)) _ _ _ | show wpAny _ _ (getItem (Value.ref _) (Value.int _ _)) _ _ _ | show wpAny _ _ (setItem (Value.ref _) (Value.int _ _) _) _ _ _ | show wpAny _ _ (binaryOp Operator.Add (Value.str _ _) (Value.str _ _)) _ _ _ | show wpAny _ _ (inplaceOp Operator.Add (Value.str _ _) (Value.str _ _)) _ _ _ | show wpAny _ _ (subscriptTail _ (PySem.Expr.Slice _ _ _ _) (Value.ref _) (Value.ref _)) _ _ _ | show wpAny _ _ (call (Value.builtin "sum") _ _) _ _ _ | show wpAny _ _ (binaryOp Operator.Mult (Value.str _ _) _) _ _ _ | show wpAny _ _ (compareOp CmpOp.NotIn (Value.str _ _) (Value.str _ _)) _ _ _ | show wpAny _ _ (call (Value.type "str") _ _) _ _ _ | show wpAny _ _ (call (Value.type "builtins.str") _ _) _ _ _ | show wpAny _ _ (binaryOp Operator.Mod (Value.str _ _) _) _ _ _ | show wpAny _ _ (compareOp CmpOp.NotEq (Value.ref _) (Value.ref _)) _ _ _ | show wpAny _ _ (compareOp CmpOp.NotEq (Value.str _ _) (Value.str _ _)) _ _ _))); (first | (k_unfold; (try dsimp only)) | (k_end; wrow_close) | walk1 | (dsimp only; walk1) | (leave1; walk_say "STEP leave1"; try dsimp only) | fail "no step")))
        have hcs1 := counts_of hyl1 hys1
        have e6 : ((List.range k).map fun d => cntQ (dText ((d : Nat) : Int)) itsS) = bouncesGo (runsOf swept.cps.toList) k 0 := by
          rw [hk, g6]
          exact List.map_congr_left fun d _ => cnt_rows hS
        rw [e6] at hcs1
        rename News _ _ _ (_ :: _) => NZ
        rename IntsAre vsb _ => hvsb
        refine ke_ne_ints (News.isList NZ (.tail _ (.head _))) (News.isList NZ (.head _)) hvsb hcs1 (by ke_room) ?_
        rw [decide_eq_true rfl]
        (repeat' ((fail_if_success ((with_reducible first | show wpAny _ _ (exec (PySem.Stmt.While _ _ _ _) _) _ _ _ | show wpAny _ _ (exec (PySem.Stmt.For _ _ _ _ _) _) _ _ _ | show wpAny _ _ (call (Value.ref _) _ _) _ _ _ | show wpAny _ _ (compareOp CmpOp.Lt (Value.ref _) _) _ _ _ | show wpAny _ _ (compareOp CmpOp.Lt _ (Value.ref _)) _ _ _ | show wpAny _ _ (compareOp CmpOp.Lt (Prod.fst _) _) _ _ _ | show wpAny _ _ (compareOp CmpOp.Lt _ (Prod.fst _)) _ _ _ | show wpAny _ _ (compareOp CmpOp.Eq (Value.ref _) _) _ _ _ | show wpAny _ _ (pyIter _) (fun it s₂ => LoopAtV _ _ _ _ _ _ _ _ _ it s₂) _ _ | show wpAny _ _ (call (Value.builtin "str.split") _ _) _ _ _ | show wpAny _ _ (newList _) _ _ _ | show wpAny _ _ (call (Value.builtin "str.join") _ _) _ _ _ | show wpAny _ _ (call (Value.builtin "list.append") _ _) _ _ _ | show wpAny _ _ (exec (PySem.Stmt.Assign _ (PySem.Expr.ListComp _ _ _ _) _) _) _ _ _ | show wpAny _ _ (eval (PySem.Expr.ListComp _ _ _ _) _) _ _ _ | show wpAny _ _ (binaryOp Operator.Mult (Value.ref _) _) _ _ _ | show wpAny _ _ (subscriptTail _ _ (Value.ref _) (Value.int _ _)) _ _ _ | show wpAny _ _ (getItem (Value.ref _) (Value.int _ _)) _ _ _ | show wpAny _ _ (setItem (Value.ref _) (Value.int _ _) _) _ _ _ | show wpAny _ _ (binaryOp Operator.Add (Value.str _ _) (Value.str _ _)) _ _ _ | show wpAny _ _ (inplaceOp Operator.Add (Value.str _ _) (Value.str _ _)) _ _ _ | show wpAny _ _ (subscriptTail _ (PySem.Expr.Slice _ _ _ _) (Value.ref _) (Value.ref _)) _ _ _ | show wpAny _ _ (call (Value.builtin "sum") _ _) _ _ _ | show wpAny _ _ (binaryOp Operator.Mult (Value.str _ _) _) _ _ _ | show wpAny _ _ (compareOp CmpOp.NotIn (Value.str _ _) (Value.str _ _)) _ _ _ | show wpAny _ _ (call (Value.type "str") _ _) _ _ _ | show wpAny _ _ (call (Value.type "builtins.str") _ _) _ _ _ | show wpAny _ _ (binaryOp Operator.Mod (Value.str _ _) _) _ _ _ | show wpAny _ _ (compareOp CmpOp.NotEq (Value.ref _) (Value.ref _)) _ _ _ | show wpAny _ _ (compareOp CmpOp.NotEq (Value.str _ _) (Value.str _ _)) _ _ _))); (first | (k_unfold; (try dsimp only)) | (k_end; wrow_close) | walk1 | (dsimp only; walk1) | (leave1; walk_say "STEP leave1"; try dsimp only) | fail "no step")))
        refine depths_call (by ((refine' Mine.Cx.mk ?cBq319 ?cFq319 ?cXq319 ?cNq319 ?cTq319 ?ckq319 ?cdq319 ?cuq319; (case cBq319 => k_asm); (case cFq319 => k_asm); (case cXq319 => k_asm); (case cNq319 => k_asm); (case cTq319 => k_asm); (case ckq319 => first | exact rfl | assumption); (case cdq319 => ktr_room); (case cuq319 => ktr_units)))) (Nat.le_trans hswl (by decide)) ?_
        intro t16 h16 tk16 F16 N16
        have e7 : pp = depthsIn 0 0 swept.cps.toList := by rw [g7, hp']
        (repeat' ((fail_if_success ((with_reducible first | show wpAny _ _ (exec (PySem.Stmt.While _ _ _ _) _) _ _ _ | show wpAny _ _ (exec (PySem.Stmt.For _ _ _ _ _) _) _ _ _ | show wpAny _ _ (call (Value.ref _) _ _) _ _ _ | show wpAny _ _ (compareOp CmpOp.Lt (Value.ref _) _) _ _ _ | show wpAny _ _ (compareOp CmpOp.Lt _ (Value.ref _)) _ _ _ | show wpAny _ _ (compareOp CmpOp.Lt (Prod.fst _) _) _ _ _ | show wpAny _ _ (compareOp CmpOp.Lt _ (Prod.fst _)) _ _ _ | show wpAny _ _ (compareOp CmpOp.Eq (Value.ref _) _) _ _ _ | show wpAny _ _ (pyIter _) (fun it s₂ => LoopAtV _ _ _ _ _ _ _ _ _ it s₂) _ _ | show wpAny _ _ (call (Value.builtin "str.split") _ _) _ _ _ | show wpAny _ _ (newList _) _ _ _ | show wpAny _ _ (call (Value.builtin "str.join") _ _) _ _ _ | show wpAny _ _ (call (Value.builtin "list.append") _ _) _ _ _ | show wpAny _ _ (exec (PySem.Stmt.Assign _ (PySem.Expr.ListComp _ _ _ _) _) _) _ _ _ | show wpAny _ _ (eval (PySem.Expr.ListComp _ _ _ _) _) _ _ _ | show wpAny _ _ (binaryOp Operator.Mult (Value.ref _) _) _ _ _ | show wpAny _ _ (subscriptTail _ _ (Value.ref _) (Value.int _ _)) _ _ _ | show wpAny _ _ (getItem (Value.ref _) (Value.int _ _)) _ _ _ | show wpAny _ _ (setItem (Value.ref _) (Value.int _ _) _) _ _ _ | show wpAny _ _ (binaryOp Operator.Add (Value.str _ _) (Value.str _ _)) _ _ _ | show wpAny _ _ (inplaceOp Operator.Add (Value.str _ _) (Value.str _ _)) _ _ _ | show wpAny _ _ (subscriptTail _ (PySem.Expr.Slice _ _ _ _) (Value.ref _) (Value.ref _)) _ _ _ | show wpAny _ _ (call (Value.builtin "sum") _ _) _ _ _ | show wpAny _ _ (binaryOp Operator.Mult (Value.str _ _) _) _ _ _ | show wpAny _ _ (compareOp CmpOp.NotIn (Value.str _ _) (Value.str _ _)) _ _ _ | show wpAny _ _ (call (Value.type "str") _ _) _ _ _ | show wpAny _ _ (call (Value.type "builtins.str") _ _) _ _ _ | show wpAny _ _ (binaryOp Operator.Mod (Value.str _ _) _) _ _ _ | show wpAny _ _ (compareOp CmpOp.NotEq (Value.ref _) (Value.ref _)) _ _ _ | show wpAny _ _ (compareOp CmpOp.NotEq (Value.str _ _) (Value.str _ _)) _ _ _))); (first | (k_unfold; (try dsimp only)) | (k_end; wrow_close) | walk1 | (dsimp only; walk1) | (leave1; walk_say "STEP leave1"; try dsimp only) | fail "no step")))
        rw [show (depthsIn 0 0 swept.cps.toList == pp) = true from by rw [e7]; simp]
        rename Fr _ _ _ (fun _ => _) => FE
        exact ⟨.inl ⟨_, _, [], rfl, fun _ => rfl, ReadsW.bool true, (by first | rfl | wrow_post), fun _ => ⟨List.nodup_nil, fun _ hm => nomatch hm⟩⟩, .of_keep FE.keep, rfl, hbare⟩
  )

end
end Mine
theorem PySem.Challenge.cw_wu0073_01_holds : PySem.Challenge.rw_wu0073_01.Holds :=
  Mine.law_holds
